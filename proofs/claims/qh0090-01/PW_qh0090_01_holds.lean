import PyProof.Rows.All
import Wide.All
import OpenK.AllK
import Wide.FinOn
import PySem.Challenge.RW_qh0090_01
open PySem PySem.W PyProof.Rows
set_option Elab.async false
set_option maxRecDepth 100000
set_option linter.all false
set_option compiler.extract_closed false
section
namespace Mine
def prog0.tw12644871498002893898 : PySem.Program := PySem.Challenge.pw_qh0090_01
theorem prog0.te12644871498002893898 : PySem.Challenge.pw_qh0090_01 = prog0.tw12644871498002893898 := rfl
set_option Elab.async true in
theorem prog0 : (!PySem.Challenge.pw_qh0090_01.main.body.isEmpty) = true := by k_qdec
theorem prog1 : (!PySem.Challenge.pw_qh0090_01.main.body.isEmpty) = true := prog0
end Mine
set_option maxHeartbeats 8000000 in
open_top Mine.hd for PySem.Challenge.rw_qh0090_01
end
set_option tactic.hygienic false
section
set_option genSizeOf false
set_option backward.match.sparseCases false
namespace Mine

inductive D where
  | none
  | bool (b : Bool)
  | int (i : Int)
  | str (s : Str)
  | bytes (b : Array UInt8)
  | type (n : String)
  | bi (id : String)
  | obj (a : Addr)
  | hit
  | tys (l : List String)
  | tuple (l : List D)
  | list (l : List D)
  | dict (l : List (Str × D))
  deriving Inhabited

noncomputable def D.isNone : D → Bool
  | .none => true
  | _ => false
noncomputable def D.bool? : D → Option Bool
  | .bool b => some b
  | _ => Option.none
noncomputable def D.int? : D → Option Int
  | .int i => some i
  | _ => Option.none
noncomputable def D.str? : D → Option Str
  | .str i => some i
  | _ => Option.none
noncomputable def D.bytes? : D → Option (Array UInt8)
  | .bytes i => some i
  | _ => Option.none
noncomputable def D.type? : D → Option String
  | .type i => some i
  | _ => Option.none
noncomputable def D.obj? : D → Option Addr
  | .obj i => some i
  | _ => Option.none
noncomputable def D.list? : D → Option (List D)
  | .list i => some i
  | _ => Option.none
noncomputable def D.tuple? : D → Option (List D)
  | .tuple i => some i
  | _ => Option.none
noncomputable def D.dict? : D → Option (List (Str × D))
  | .dict i => some i
  | _ => Option.none
theorem no_some {α : Type} {a : α} {P : Prop} (h : (Option.none : Option α) = some a) : P := nomatch h
theorem ite_some {α : Type} {p : Prop} [Decidable p] {x : Option α} {a : α} (h : (if p then x else Option.none) = some a) : p ∧ x = some a := by
  split at h
  · exact ⟨‹_›, h⟩
  · cases h
theorem bind_some {α β : Type} {P : Prop} {o : Option α} {f : α → Option β} {b : β} (h : o.bind f = some b) (k : ∀ a, o = some a → f a = some b → P) : P := by
  obtain ⟨a, h1, h2⟩ := Option.bind_eq_some_iff.mp h
  exact k a h1 h2
theorem map_some {α β : Type} {P : Prop} {o : Option α} {f : α → β} {b : β} (h : o.map f = some b) (k : ∀ a, o = some a → f a = b → P) : P := by
  obtain ⟨a, h1, h2⟩ := Option.map_eq_some_iff.mp h
  exact k a h1 h2
theorem no_true {P : Prop} (h : false = true) : P := nomatch h
theorem D.isNone_t {d : D} (h : d.isNone = true) : d = .none := by cases d <;> first | exact no_true h | rfl
theorem D.bool?_s {d : D} {i} (h : d.bool? = some i) : d = .bool i := by cases d <;> first | exact no_some h | (cases h; rfl)
theorem D.int?_s {d : D} {i} (h : d.int? = some i) : d = .int i := by cases d <;> first | exact no_some h | (cases h; rfl)
theorem D.str?_s {d : D} {i} (h : d.str? = some i) : d = .str i := by cases d <;> first | exact no_some h | (cases h; rfl)
theorem D.bytes?_s {d : D} {i} (h : d.bytes? = some i) : d = .bytes i := by cases d <;> first | exact no_some h | (cases h; rfl)
theorem D.type?_s {d : D} {i} (h : d.type? = some i) : d = .type i := by cases d <;> first | exact no_some h | (cases h; rfl)
theorem D.obj?_s {d : D} {i} (h : d.obj? = some i) : d = .obj i := by cases d <;> first | exact no_some h | (cases h; rfl)
theorem D.list?_s {d : D} {i} (h : d.list? = some i) : d = .list i := by cases d <;> first | exact no_some h | (cases h; rfl)
theorem D.tuple?_s {d : D} {i} (h : d.tuple? = some i) : d = .tuple i := by cases d <;> first | exact no_some h | (cases h; rfl)
theorem D.dict?_s {d : D} {i} (h : d.dict? = some i) : d = .dict i := by cases d <;> first | exact no_some h | (cases h; rfl)
noncomputable def one? {α : Type} : List α → Option α
  | [a] => some a
  | _ => Option.none
noncomputable def two? {α : Type} : List α → Option (α × α)
  | [a, b] => some (a, b)
  | _ => Option.none
theorem one?_s {α : Type} {l : List α} {a : α} (h : one? l = some a) : l = [a] := by
  cases l with
  | nil => exact no_some h
  | cons b r => cases r <;> first | exact no_some h | (cases h; rfl)
theorem two?_s {α : Type} {l : List α} {a b : α} (h : two? l = some (a, b)) : l = [a, b] := by
  cases l with
  | nil => exact no_some h
  | cons c r => cases r with
    | nil => exact no_some h
    | cons d r => cases r <;> first | exact no_some h | (cases h; rfl)
noncomputable def Expr.name? : Expr → Option Str
  | .Name x _ => some x
  | _ => Option.none
noncomputable def Expr.call? : Expr → Option (Expr × List Expr × List Keyword × Pos)
  | .Call f as ks p => some (f, as, ks, p)
  | _ => Option.none
noncomputable def Expr.attr? : Expr → Option (Expr × Str × Pos)
  | .Attribute e x p => some (e, x, p)
  | _ => Option.none
noncomputable def Expr.cst? : Expr → Option Const
  | .Constant c _ _ => some c
  | _ => Option.none
noncomputable def Expr.slice? : Expr → Option (Option Expr × Option Expr × Option Expr)
  | .Slice a b c _ => some (a, b, c)
  | _ => Option.none
theorem Expr.slice?_s {e : Expr} {a b c} (h : Expr.slice? e = some (a, b, c)) : ∃ p, e = .Slice a b c p := by cases e <;> first | exact no_some h | (cases h; exact ⟨_, rfl⟩)
noncomputable def Const.str? : Const → Option Str
  | .str s => some s
  | _ => Option.none
theorem Expr.name?_s {e : Expr} {x} (h : Expr.name? e = some x) : ∃ p, e = .Name x p := by cases e <;> first | exact no_some h | (cases h; exact ⟨_, rfl⟩)
theorem Expr.call?_s {e : Expr} {f as ks p} (h : Expr.call? e = some (f, as, ks, p)) : e = .Call f as ks p := by cases e <;> first | exact no_some h | (cases h; rfl)
theorem Expr.attr?_s {e : Expr} {o x p} (h : Expr.attr? e = some (o, x, p)) : e = .Attribute o x p := by cases e <;> first | exact no_some h | (cases h; rfl)
theorem Expr.cst?_s {e : Expr} {c} (h : Expr.cst? e = some c) : ∃ k p, e = .Constant c k p := by cases e <;> first | exact no_some h | (cases h; exact ⟨_, _, rfl⟩)
theorem Const.str?_s {e : Const} {c} (h : Const.str? e = some c) : e = .str c := by cases e <;> first | exact no_some h | (cases h; rfl)

inductive R (α : Type) where
  | ok (a : α)
  | exc (c : Value) (m : Str)
  | bad

noncomputable def R.bind {α β : Type} : R α → (α → R β) → R β
  | .ok a, f => f a
  | .exc c m, _ => .exc c m
  | .bad, _ => .bad
noncomputable def R.map {α β : Type} (f : α → β) : R α → R β
  | .ok a => .ok (f a)
  | .exc c m => .exc c m
  | .bad => .bad
noncomputable def R.of {α : Type} : Option α → R α
  | some a => .ok a
  | Option.none => .bad

noncomputable def R.safe {α : Type} : R α → R α
  | .exc _ _ => .bad
  | r => r

noncomputable def mapR {α β : Type} (f : α → R β) : List α → R (List β)
  | [] => .ok []
  | x :: r => (f x).bind fun y => (mapR f r).map (y :: ·)
theorem mapR_c {α β : Type} {f : α → R β} {x : α} {r : List α} : mapR f (x :: r) = (f x).bind fun y => (mapR f r).map (y :: ·) := (rfl)

noncomputable def eqAll (f : D → D → Option Bool) : List D → List D → Option Bool
  | [], [] => some true
  | [], _ :: _ => some false
  | _ :: _, [] => some false
  | x :: xs, y :: ys => (f x y).bind fun a => (eqAll f xs ys).map fun b => a && b
noncomputable def eqS (rec : D → D → Option Bool) (a b : D) : Option Bool := match a with
  | .none => if b.isNone then some true else Option.none
  | .bool a => b.bool?.bind fun b => some (a == b)
  | .int a => b.int?.bind fun b => some (a == b)
  | .str a => b.str?.bind fun b => some (a == b)
  | .bytes a => b.bytes?.bind fun b => some (a.toList == b.toList)
  | .tuple a => b.tuple?.bind fun b => eqAll rec a b
  | .list a => b.list?.bind fun b => eqAll rec a b
  | _ => Option.none
noncomputable def eqDn : Nat → D → D → Option Bool
  | 0 => eqS fun _ _ => Option.none
  | k + 1 => eqS (eqDn k)
noncomputable def eqD : D → D → Option Bool := eqDn 5

noncomputable def truthD : D → Option Bool
  | .none => some false
  | .bool b => some b
  | .int i => some (i != 0)
  | .hit => some true
  | _ => Option.none

noncomputable def isD (a b : D) : Option Bool := match a with
  | .none => if b.isNone then some true else Option.none
  | .bool _ => if b.isNone then some false else Option.none
  | .int _ => if b.isNone then some false else Option.none
  | .str _ => if b.isNone then some false else Option.none
  | .bytes _ => if b.isNone then some false else Option.none
  | .list _ => if b.isNone then some false else Option.none
  | .tuple _ => if b.isNone then some false else Option.none
  | .type a => b.type?.bind fun b => some (a == b)
  | .obj a => if b.isNone then some false else b.obj?.bind fun b => if a = b then some true else Option.none
  | _ => Option.none

noncomputable def anyD (x : D) : List D → Option Bool
  | [] => some false
  | y :: r => (eqD y x).bind fun a => (anyD x r).map fun b => a || b

noncomputable def cmpD (op : CmpOp) (a b : D) : Option Bool := match op with
  | .Eq => eqD a b
  | .NotEq => (eqD a b).map (!·)
  | .Lt => a.int?.bind fun a => b.int?.bind fun b => some (decide (a < b))
  | .LtE => a.int?.bind fun a => b.int?.bind fun b => some (decide (a ≤ b))
  | .Gt => a.int?.bind fun a => b.int?.bind fun b => some (decide (b < a))
  | .GtE => a.int?.bind fun a => b.int?.bind fun b => some (decide (b ≤ a))
  | .Is => isD a b
  | .IsNot => (isD a b).map (!·)
  | .In => b.list?.bind fun l => anyD a l
  | .NotIn => b.list?.bind fun l => (anyD a l).map (!·)

noncomputable def big : Nat := 1048576

noncomputable def repL {α : Type} (l : List α) : Nat → List α
  | 0 => []
  | n + 1 => l ++ repL l n

noncomputable def addD (a b : D) : Option D := match a with
  | .int a => b.int?.bind fun b => some (.int (a + b))
  | .str a => b.str?.bind fun b => if a.length + b.length ≤ big then some (.str (a ++ b)) else Option.none
  | .list a => b.list?.bind fun b => if a.length + b.length ≤ big then some (.list (a ++ b)) else Option.none
  | _ => Option.none
noncomputable def mulD (a b : D) : Option D := b.int?.bind fun b => match a with
  | .int a => if b.natAbs < 2 ^ 64 then if a.natAbs < 2 ^ 64 then some (.int (a * b)) else Option.none else Option.none
  | .list a => if b.natAbs < 2 ^ 62 then if a.length * b.toNat ≤ big then some (.list (repL a b.toNat)) else Option.none else Option.none
  | _ => Option.none
noncomputable def intOp (op : Operator) (a b : Int) : Option Int := match op with
  | .Sub => some (a - b)
  | .FloorDiv => if b ≠ 0 then if b.natAbs < 2 ^ 64 then some (a.fdiv b) else Option.none else Option.none
  | .Mod => if b = 0 then Option.none else some (a.fmod b)
  | .Pow => if 0 ≤ b then if b ≤ 4096 then if a.natAbs < 65536 then some (a ^ b.toNat) else Option.none else Option.none else Option.none
  | .LShift => if 0 ≤ b then if b ≤ 1000000 then if a.natAbs < 2 ^ 64 then some (a * 2 ^ b.toNat) else Option.none else Option.none else Option.none
  | .RShift => if 0 ≤ b then some (a.fdiv (2 ^ b.toNat)) else Option.none
  | .BitOr => some (Builtin.bitOr a b)
  | .BitAnd => some (Builtin.bitAnd a b)
  | _ => Option.none
noncomputable def binD (op : Operator) (a b : D) : Option D := match op with
  | .Add => addD a b
  | .Mult => mulD a b
  | op => a.int?.bind fun a => b.int?.bind fun b => (intOp op a b).map .int

noncomputable def itemD {α : Type} (l : List α) (i : Int) : R α := if i.natAbs < 2 ^ 62 then R.of ((seqIndex? i l.length).bind (l[·]?)) else .bad
noncomputable def getD (o i : D) : R D := (R.of i.int?).bind fun i => match o with
  | .list l => itemD l i
  | .tuple l => itemD l i
  | .str s => if s.length ≤ big ∧ i.natAbs < 2 ^ 62 then (match (seqIndex? i s.length).bind (s.cps[·]?) with
      | some c => .ok (.str ⟨#[c]⟩)
      | Option.none => .exc (.type "IndexError") "string index out of range") else .bad
  | .bytes b => if 0 ≤ i ∧ i < b.size ∧ b.size ≤ big then .ok (.int (b.toList.getD i.toNat 0).toNat) else .bad
  | _ => .bad

noncomputable def partD (d : Option D) : Option (Option Int) := match d with
  | Option.none => some Option.none
  | some d => if d.isNone then some Option.none else d.int?.map some

noncomputable def cutL {α : Type} (l : List α) (lo hi : Option Int) : List α :=
  (l.drop (lo.elim 0 (clipAt l.length))).take (hi.elim l.length (clipAt l.length) - lo.elim 0 (clipAt l.length))

noncomputable def pickL {α : Type} (l : List α) (st : Int) : List α :=
  (sliceRange (sliceBounds Option.none Option.none (some st) l.length).1 (sliceBounds Option.none Option.none (some st) l.length).2.1 (sliceBounds Option.none Option.none (some st) l.length).2.2).filterMap (l[·]?)

noncomputable def sliceD (o : D) (lo hi st : Option D) : Option D := match st with
  | Option.none => (partD lo).bind fun a => (partD hi).bind fun b => (match o with
    | .list l => if l.length ≤ big then some (.list (cutL l a b)) else Option.none
    | .str s => if s.length ≤ big then some (.str ⟨(cutL s.cps.toList a b).toArray⟩) else Option.none
    | .bytes s => if s.size ≤ big then some (.bytes (cutL s.toList a b).toArray) else Option.none
    | _ => Option.none)
  | some k => if lo.isNone && hi.isNone then k.int?.bind fun k => o.list?.bind fun l => if 0 < k ∧ l.length ≤ big then some (.list (pickL l k)) else Option.none else Option.none

noncomputable def strL : List D → Option (List Str)
  | [] => some []
  | d :: r => d.str?.bind fun s => (strL r).map (s :: ·)
noncomputable def intL : List D → Option (List Int)
  | [] => some []
  | d :: r => d.int?.bind fun s => (intL r).map (s :: ·)
noncomputable def listL : List D → Option (List (List D))
  | [] => some []
  | d :: r => d.list?.bind fun s => (listL r).map (s :: ·)

noncomputable def toBytes? : List Int → Option (List UInt8)
  | [] => some []
  | i :: r => if 0 ≤ i ∧ i < 256 then (toBytes? r).map (i.toNat.toUInt8 :: ·) else Option.none

noncomputable def split1 (c : Nat) : List Nat → Option (List Nat × List Nat)
  | [] => Option.none
  | x :: r => if x = c then some ([], r) else (split1 c r).map fun p => (x :: p.1, p.2)

noncomputable def hexN (n : Nat) : Nat := if n < 10 then 48 + n else 87 + n
noncomputable def hexNs (b : List UInt8) : List Nat := b.flatMap fun x => [hexN (x.toNat / 16), hexN (x.toNat % 16)]
noncomputable def upByte (b : UInt8) : UInt8 := Builtin.Bytes.toUpper b

noncomputable def isHexB (b : UInt8) : Bool := (48 ≤ b.toNat && b.toNat ≤ 57) || (65 ≤ b.toNat && b.toNat ≤ 70)

noncomputable def lastVal (k : Str) (v : D) : List (Str × D) → List (Str × D)
  | [] => [(k, v)]
  | (x, d) :: r => if x = k then (x, v) :: r else (x, d) :: lastVal k v r

inductive Mt where
  | split
  | join
  | encode
  | isascii
  | hex
  | upper
  | translate
  | maketrans
  | search
noncomputable def Mt.id : Mt → String
  | .split => "str.split"
  | .join => "str.join"
  | .encode => "str.encode"
  | .isascii => "str.isascii"
  | .hex => "bytes.hex"
  | .upper => "bytes.upper"
  | .translate => "bytes.translate"
  | .maketrans => "bytes.maketrans"
  | .search => "re.Pattern.search"
noncomputable def methOf (pat : Addr) (o : D) (name : Str) : Option Mt := match o with
  | .str _ => if name = "split" then some .split else if name = "join" then some .join else if name = "encode" then some .encode else if name = "isascii" then some .isascii else Option.none
  | .bytes _ => if name = "hex" then some .hex else if name = "upper" then some .upper else if name = "translate" then some .translate else Option.none
  | .type n => if n = "bytes" ∧ name = "maketrans" then some .maketrans else Option.none
  | .obj a => if a = pat ∧ name = "search" then some .search else Option.none
  | _ => Option.none

noncomputable def catS (xs : List Str) : List Nat := xs.flatMap (·.cps.toList)

noncomputable def methD (m : Mt) (o : D) (args : List D) : Option D := match m with
  | .split => o.str?.bind fun s => (two? args).bind fun p => p.1.str?.bind fun t => p.2.int?.bind fun k => if k = 1 ∧ t.length = 1 ∧ t.cps.getD 0 0 < 256 then if s.length ≤ big then
      (match split1 (t.cps.getD 0 0) s.cps.toList with
        | some (a, b) => some (.list [.str ⟨a.toArray⟩, .str ⟨b.toArray⟩])
        | Option.none => some (.list [.str s])) else Option.none else Option.none
  | .join => o.str?.bind fun s => (one? args).bind fun l => l.list?.bind fun l => (strL l).bind fun xs => if s.length = 0 then if (catS xs).length ≤ big then some (.str ⟨(catS xs).toArray⟩) else Option.none else Option.none
  | .encode => o.str?.bind fun s => (one? args).bind fun t => t.str?.bind fun t => if t = "ascii" then if s.cps.all (· < 128) = true ∧ s.length ≤ big then some (.bytes (s.cps.map (·.toUInt8))) else Option.none else Option.none
  | .isascii => o.str?.bind fun s => if args.isEmpty then some (.bool (s.cps.all (· < 128))) else Option.none
  | .hex => o.bytes?.bind fun b => if args.isEmpty then if b.size ≤ big then some (.str ⟨(hexNs b.toList).toArray⟩) else Option.none else Option.none
  | .upper => o.bytes?.bind fun b => if args.isEmpty then if b.size ≤ big then some (.bytes (b.map upByte)) else Option.none else Option.none
  | .translate => o.bytes?.bind fun b => (one? args).bind fun t => t.bytes?.bind fun t => if t.size = 256 ∧ b.size ≤ big then some (.bytes (b.map fun x => t.getD x.toNat x)) else Option.none
  | .maketrans => o.type?.bind fun _ => (two? args).bind fun p => p.1.bytes?.bind fun a => p.2.bytes?.bind fun b => if a.size = b.size then some (.bytes ((a.toList.zip b.toList).foldl (fun t p => t.setIfInBounds p.1.toNat p.2) ((Array.range 256).map (·.toUInt8)))) else Option.none
  | .search => o.obj?.bind fun _ => (one? args).bind fun s => s.bytes?.bind fun s => if s.size ≤ big then some (if s.all isHexB then .none else .hit) else Option.none

noncomputable def superForm (e : Expr) : Bool := match Expr.call? e with
  | some (f, as, ks, _) => (Expr.name? f).isSome && as.isEmpty && ks.isEmpty
  | Option.none => false

noncomputable def typeD : D → Option D
  | .bool _ => some (.type "bool")
  | .int _ => some (.type "int")
  | .str _ => some (.type "str")
  | .bytes _ => some (.type "bytes")
  | .list _ => some (.type "list")
  | .tuple _ => some (.type "tuple")
  | _ => Option.none

noncomputable def lenD (x : D) : Option D := match x with
  | .list l => if l.length ≤ big then some (.int l.length) else Option.none
  | .str s => if s.length ≤ big then some (.int s.length) else Option.none
  | .bytes s => if s.size ≤ big then some (.int s.size) else Option.none
  | _ => Option.none
noncomputable def isinstD (x t : D) : Option D := match x with
  | .str _ => t.type?.bind fun t => if t == "str" then some (.bool true) else Option.none
  | .bytes _ => (match t with
    | .type t => if t == "str" then some (.bool false) else Option.none
    | .tys l => if l == ["bytes", "bytearray"] then some (.bool true) else Option.none
    | _ => Option.none)
  | _ => Option.none
noncomputable def biD (id : String) (args : List D) : Option D :=
  if id == "len" then (one? args).bind lenD
  else if id == "sum" then (one? args).bind fun x => x.list?.bind fun l => (intL l).map fun xs => .int xs.sum
  else if id == "chr" then (one? args).bind fun x => x.int?.bind fun i => if 0 ≤ i ∧ i < 1114112 then some (.str ⟨#[i.toNat]⟩) else Option.none
  else if id == "isinstance" then (two? args).bind fun p => isinstD p.1 p.2
  else Option.none

noncomputable def tyD (n : String) (args : List D) : Option D := (one? args).bind fun x =>
  if n == "type" then typeD x else if n == "bytes" then x.list?.bind fun l => (intL l).bind fun xs => (toBytes? xs).bind fun b => if b.length ≤ big then some (.bytes b.toArray) else Option.none
  else Option.none

structure Fn where
  pos : List Str
  kwo : List Str
  dflt : List D
  body : List Stmt
  scope : Scope

noncomputable def Fn.bind (f : Fn) (args : List D) (kws : List (Str × D)) : Option (List (Str × D)) :=
  if args.length ≤ f.pos.length ∧ f.pos.length ≤ args.length + f.dflt.length ∧ kws.map (·.1) = f.kwo then
    some (f.pos.zip (args ++ f.dflt.drop (args.length + f.dflt.length - f.pos.length)) ++ kws)
  else Option.none

structure G where
  glob : Str → Option D
  fn : Addr → Option Fn
  /-- own exception classes: the names of the built-in classes above -/
  exc : Addr → Option (List String)
  /-- search of the one pattern -/
  pat : Addr
  /-- the built-in names that are read -/
  bi : Str → Option D

inductive B where
  | val (d : D)
  | ml (l : List D)
  | md (l : List (Str × D))

noncomputable abbrev Sg := List (Str × B)
noncomputable abbrev Vs := List (Str × D)

noncomputable def setS (x : Str) (b : B) : Sg → Sg
  | [] => [(x, b)]
  | (y, c) :: r => if x = y then (y, b) :: r else (y, c) :: setS x b r

noncomputable def fast : Sg → Vs
  | [] => []
  | (x, .val d) :: r => (x, d) :: fast r
  | _ :: r => fast r
noncomputable def allV : Sg → Vs
  | [] => []
  | (x, .val d) :: r => (x, d) :: allV r
  | (x, .ml l) :: r => (x, .list l) :: allV r
  | (_, .md _) :: r => allV r

mutual
noncomputable def occ (n : Nat) (e : Expr) : List Str := match n with
  | 0 => []
  | n + 1 => match e with
    | .Name x _ => [x]
    | .BoolOp _ vs _ => occs n vs
    | .BinOp a _ b _ => occ n a ++ occ n b
    | .UnaryOp _ a _ => occ n a
    | .IfExp a b c _ => occ n a ++ occ n b ++ occ n c
    | .ListComp e gs _ _ => occ n e ++ gs.flatMap fun g => occ n g.iter ++ occs n g.ifs
    | .Compare l _ rs _ => occ n l ++ occs n rs
    | .Call f as ks _ => occ n f ++ occs n as ++ ks.flatMap fun k => occ n k.value
    | .Attribute v _ _ => occ n v
    | .Subscript v s _ => occ n v ++ occ n s
    | .List es _ => occs n es
    | .Tuple es _ _ => occs n es
    | .Slice a b c _ => (a.elim [] (occ n)) ++ (b.elim [] (occ n)) ++ (c.elim [] (occ n))
    | _ => []
noncomputable def occs (n : Nat) (es : List Expr) : List Str := match n with
  | 0 => []
  | n + 1 => es.flatMap (occ n)
end

noncomputable def freeze (ns : List Str) : Sg → Sg
  | [] => []
  | (x, .ml l) :: r => (x, if ns.contains x then .val (.list l) else .ml l) :: freeze ns r
  | (x, .md l) :: r => (x, if ns.contains x then .val (.dict l) else .md l) :: freeze ns r
  | (x, .val d) :: r => (x, .val d) :: freeze ns r

inductive Fl where
  | next
  | brk
  | cont
  | ret (d : D)

structure Fns where
  ev : Scope → Vs → Expr → R D
  evT : Scope → Vs → Expr → R Bool
  it : Scope → Vs → Expr → R (Bool × List D)
  call : D → List D → Vs → R D
  ex : Scope → Sg → Stmt → R (Sg × Fl)
  exs : Scope → Sg → List Stmt → R (Sg × Fl)

noncomputable def Fns.none : Fns := ⟨fun _ _ _ => .bad, fun _ _ _ => .bad, fun _ _ _ => .bad, fun _ _ _ => .bad, fun _ _ _ => .bad, fun _ _ _ => .bad⟩

noncomputable def constD : Const → R D
  | .none => .ok .none
  | .bool b => .ok (.bool b)
  | .int i => .ok (.int i)
  | .str s => .ok (.str s)
  | .bytes b => .ok (.bytes b.toArray)
  | _ => .bad

noncomputable def nameD (g : G) (sc : Scope) (σ : Vs) (x : Str) : R D :=
  if x == "__debug__" then .bad else match σ.lookup x with
  | some d => .ok d
  | Option.none => if sc.names.lookup x == some .globalImplicit then
      (match g.glob x with
        | some d => .ok d
        | Option.none => R.of (g.bi x)) else .bad

noncomputable def evs (F : Fns) (sc : Scope) (σ : Vs) (es : List Expr) : R (List D) := mapR (F.ev sc σ) es

noncomputable def starred : Expr → Bool
  | .Starred .. => true
  | _ => false

noncomputable def isSet : Expr → Bool
  | .Set .. => true
  | _ => false

noncomputable def chainD (F : Fns) (sc : Scope) (σ : Vs) (a : D) (ops : List CmpOp) (es : List Expr) : R Bool := match ops with
  | [] => .bad
  | op :: ops => match es with
    | [] => .bad
    | e :: es => match ops with
      | [] => if isSet e || !es.isEmpty then .bad else (F.ev sc σ e).bind fun b => R.of (cmpD op a b)
      | op' :: ops => match es with
        | [] => .bad
        | e' :: es => if isSet e || isSet e' || !ops.isEmpty || !es.isEmpty then .bad else (F.ev sc σ e).bind fun b => (R.of (cmpD op a b)).bind fun c => if c then (F.ev sc σ e').bind fun b' => R.of (cmpD op' b b') else .ok false

noncomputable def kwNames : List Keyword → Option (List (Str × Expr))
  | [] => some []
  | k :: r => k.arg.bind fun n => (kwNames r).map ((n, k.value) :: ·)

noncomputable def argsD (F : Fns) (sc : Scope) (σ : Vs) (as : List Expr) (ks : List Keyword) : R (List D × Vs) :=
  (R.of (kwNames ks)).bind fun kes => (evs F sc σ as).bind fun avs => (mapR (fun p => (F.ev sc σ p.2).map fun v => (p.1, v)) kes).map fun kvs => (avs, kvs)

noncomputable def isTup : Expr → Bool
  | .Tuple .. => true
  | _ => false

theorem isTup_t {e : Expr} (h : isTup e = true) : ∃ es k p, e = .Tuple es k p := by cases e <;> first | exact no_true h | exact ⟨_, _, _, rfl⟩
noncomputable def names2 (es : List Expr) : Option (Str × Str) := (two? es).bind fun p => (Expr.name? p.1).bind fun x => (Expr.name? p.2).map fun y => (x, y)
theorem names2_s {es : List Expr} {x y} (h : names2 es = some (x, y)) : ∃ p q, es = [.Name x p, .Name y q] := by
  refine bind_some h fun ⟨a, b⟩ h1 h => ?_
  refine bind_some h fun u h2 h => ?_
  refine map_some h fun v h3 h => ?_
  cases h
  obtain ⟨p, rfl⟩ := Expr.name?_s h2
  obtain ⟨q, rfl⟩ := Expr.name?_s h3
  exact ⟨p, q, two?_s h1⟩
noncomputable def tNames : Expr → Option (List Str)
  | .Name x _ => some [x]
  | .Tuple es _ _ => (names2 es).bind fun p => if p.1 = p.2 then Option.none else some [p.1, p.2]
  | _ => Option.none
noncomputable def compOK (sc csc : Scope) (t : Expr) : Bool := (match csc.kind with | .function => true | _ => false) &&
  csc.names.all (fun p => (match p.2 with | .cell => false | .local => csc.names.lookup p.1 == some .local | .free => csc.names.lookup p.1 == some .free && sc.names.lookup p.1 == some .cell && p.1 != "__classdict__" | _ => true)) &&
  (tNames t).elim false fun l => l.all fun x => csc.names.lookup x == some .local

noncomputable def bindT (t : Expr) (d : D) (σ : Vs) : R Vs := match t with
  | .Name x _ => .ok ((x, d) :: σ)
  | .Tuple es _ _ => (R.of (names2 es)).bind fun p => (R.of (d.tuple?.bind two?)).bind fun q => .ok ((p.2, q.2) :: (p.1, q.1) :: σ)
  | _ => .bad

noncomputable def capt (sc : Scope) (σ : Vs) : Vs := σ.filter fun p => sc.names.lookup p.1 == some .free

noncomputable def testAll (F : Fns) (sc : Scope) (σ : Vs) : List Expr → R Bool
  | [] => .ok true
  | e :: r => (F.evT sc σ e).bind fun b => if b then testAll F sc σ r else .ok false
theorem testAll_c {F : Fns} {sc : Scope} {σ : Vs} {e : Expr} {r : List Expr} : testAll F sc σ (e :: r) = (F.evT sc σ e).bind fun b => if b then testAll F sc σ r else .ok false := (rfl)

noncomputable def compL (F : Fns) (sc : Scope) (σ : Vs) (t elt : Expr) (ifs : List Expr) : List D → R (List D)
  | [] => .ok []
  | d :: r => (bindT t d σ).bind fun σ' => (testAll F sc σ' ifs).bind fun b =>
      if b then (F.ev sc σ' elt).bind fun v => (compL F sc σ t elt ifs r).map (v :: ·) else compL F sc σ t elt ifs r

noncomputable def optE (F : Fns) (sc : Scope) (σ : Vs) : Option Expr → R (Option D)
  | Option.none => .ok Option.none
  | some e => (F.ev sc σ e).map some

noncomputable def zip2 (a b : List D) : List D := (a.zip b).map fun p => .tuple [p.1, p.2]
noncomputable def zip3 : List D → List D → List D → List D
  | x :: a, y :: b, z :: c => .tuple [x, y, z] :: zip3 a b c
  | _, _, _ => []

inductive LF where
  | items (o : Expr)
  | no
noncomputable def listForm1 (f : Expr) (as : List Expr) (cpos : Pos) : LF := match f with
  | .Attribute o n apos => if as.isEmpty && n == "items" && !superForm o && apos.endLine == cpos.line then .items o else .no
  | _ => .no
noncomputable def listForm (x : Str) (as : List Expr) (ks : List Keyword) : LF := if x == "list" && ks.isEmpty then
  ((one? as).bind Expr.call?).elim .no (fun c => if c.2.2.1.isEmpty then listForm1 c.1 c.2.1 c.2.2.2 else .no) else .no

noncomputable def gen1 (gs : List Comprehension) : Option (Expr × Expr × List Expr) := (one? gs).bind fun g => if g.is_async = 0 then some (g.target, g.iter, g.ifs) else Option.none
theorem gen1_s {gs : List Comprehension} {t i ifs} (h : gen1 gs = some (t, i, ifs)) : gs = [⟨t, i, ifs, 0⟩] := by
  refine bind_some h fun ⟨a, b, c, d⟩ h1 h => ?_
  obtain ⟨e, h⟩ := ite_some h
  have e : d = 0 := e
  subst e
  cases h; exact one?_s h1
noncomputable def D.isTy (d : D) (n : String) : Bool := match d with
  | .type m => m == n
  | _ => false
theorem D.isTy_t {d : D} {n : String} (h : d.isTy n = true) : d = .type n := by
  cases d <;> first | exact no_true h | rw [eq_of_beq h]
noncomputable def unaryD (op : UnaryOp) (a : D) : R D := match op with
  | .USub => (R.of a.int?).map fun i => .int (-i)
  | .Not => (R.of (truthD a)).map fun b => .bool (!b)
  | _ => .bad
theorem tup_own {b : Bool} {t : Expr} (h : ¬ (b && !isTup t) = true) : b = true → isTup t = true := fun q => by
  rw [q, Bool.true_and] at h
  simpa using h
noncomputable def compE (F : Fns) (sc csc : Scope) (σ : Vs) (elt t i : Expr) (ifs : List Expr) : R D :=
  if isSet i then .bad else if compOK sc csc t = true then (F.it sc σ i).bind fun l => if l.1 && !isTup t then .bad else if l.2.length ≤ big then ((compL F csc (capt csc σ) t elt ifs l.2).safe).map .list else .bad else .bad
noncomputable def itemsE (g : G) (F : Fns) (sc : Scope) (σ : Vs) (x : Str) (o : Expr) : R D := (nameD g sc σ x).bind fun f => if f.isTy "list" then
  (F.ev sc σ o).bind fun u => (R.of u.dict?).bind fun l => if l.length ≤ big then .ok (.list (l.map fun p => .tuple [.str p.1, p.2])) else .bad else .bad
noncomputable def callE (g : G) (F : Fns) (sc : Scope) (σ : Vs) (x : Str) (as : List Expr) (ks : List Keyword) : R D := match listForm x as ks with
  | .items o => itemsE g F sc σ x o
  | .no => if as.any starred || decide (20 < as.length) then .bad else (nameD g sc σ x).bind fun f => (argsD F sc σ as ks).bind fun p => F.call f p.1 p.2
noncomputable def methE (g : G) (F : Fns) (sc : Scope) (σ : Vs) (o : Expr) (name : Str) (apos : Pos) (as : List Expr) (pos : Pos) : R D :=
  if as.any starred || decide (20 < as.length) || superForm o || !(apos.endLine == pos.line) then .bad else (F.ev sc σ o).bind fun ov =>
      (R.of (methOf g.pat ov name)).bind fun m => (argsD F sc σ as []).bind fun p => R.of (methD m ov p.1)
noncomputable def subE (F : Fns) (sc : Scope) (σ : Vs) (o i : Expr) : R D := (F.ev sc σ o).bind fun ov => match Expr.slice? i with
  | some q => (optE F sc σ q.1).bind fun a => (optE F sc σ q.2.1).bind fun b => (optE F sc σ q.2.2).bind fun c => R.of (sliceD ov a b c)
  | Option.none => (F.ev sc σ i).bind fun iv => getD ov iv

noncomputable def evS (g : G) (F : Fns) (sc : Scope) (σ : Vs) (e : Expr) : R D := match e with
  | .Constant c _ _ => constD c
  | .Name x _ => nameD g sc σ x
  | .BinOp l op r _ => (F.ev sc σ l).bind fun a => (F.ev sc σ r).bind fun b => R.of (binD op a b)
  | .UnaryOp op x _ => (match op with
    | .USub => (F.ev sc σ x).bind (unaryD .USub)
    | .Not => (F.ev sc σ x).bind (unaryD .Not)
    | _ => .bad)
  | .IfExp t a b _ => (F.evT sc σ t).bind fun c => if c then F.ev sc σ a else F.ev sc σ b
  | .Compare l ops rs _ => (F.ev sc σ l).bind fun a => (chainD F sc σ a ops rs).map .bool
  | .List es _ => if es.any starred || decide (big < es.length) then .bad else (evs F sc σ es).map .list
  | .Tuple es _ _ => if es.any starred || decide (big < es.length) then .bad else (evs F sc σ es).map .tuple
  | .ListComp elt gs csc _ => (R.of (gen1 gs)).bind fun q => compE F sc csc σ elt q.1 q.2.1 q.2.2
  | .Call f as ks pos => (match f with
    | .Attribute o name apos => if ks.isEmpty then methE g F sc σ o name apos as pos else .bad
    | .Name x _ => callE g F sc σ x as ks
    | _ => .bad)
  | .Subscript o i _ => subE F sc σ o i
  | _ => .bad

noncomputable def boolT (F : Fns) (sc : Scope) (σ : Vs) (op : BoolOp) : List Expr → R Bool
  | [] => .ok (op == .And)
  | e :: r => (F.evT sc σ e).bind fun b => match op with
    | .And => if b then boolT F sc σ op r else .ok false
    | .Or => if b then .ok true else boolT F sc σ op r

noncomputable def valT (F : Fns) (sc : Scope) (σ : Vs) (e : Expr) : R Bool := (F.ev sc σ e).bind fun a => R.of (truthD a)
noncomputable def evTS (F : Fns) (sc : Scope) (σ : Vs) (e : Expr) : R Bool := match e with
  | .UnaryOp op x _ => (match op with
    | .Not => (F.evT sc σ x).map (!·)
    | _ => valT F sc σ e)
  | .BoolOp op vs _ => boolT F sc σ op vs
  | .IfExp t a b _ => (F.evT sc σ t).bind fun c => if c then F.evT sc σ a else F.evT sc σ b
  | .Compare l ops rs _ => (F.ev sc σ l).bind fun a => chainD F sc σ a ops rs
  | _ => valT F sc σ e

noncomputable def upTo (lo : Int) : Nat → List D
  | 0 => []
  | n + 1 => .int lo :: upTo (lo + 1) n
noncomputable def three? {α : Type} : List α → Option (α × α × α)
  | [a, b, c] => some (a, b, c)
  | _ => Option.none
theorem three?_s {α : Type} {l : List α} {a b c : α} (h : three? l = some (a, b, c)) : l = [a, b, c] := by
  cases l with
  | nil => exact no_some h
  | cons c r => cases r with
    | nil => exact no_some h
    | cons d r => cases r with
      | nil => exact no_some h
      | cons e r => cases r <;> first | exact no_some h | (cases h; rfl)

noncomputable def rangeD (args : List D) : Option (List D) := (intL args).bind fun l => match one? l with
  | some n => if n.natAbs ≤ 4096 then some (upTo 0 n.toNat) else Option.none
  | Option.none => Option.none

noncomputable def itemsD : D → Option (List D)
  | .list l => some l
  | .tuple l => some l
  | .bytes b => some (b.toList.map fun x => .int x.toNat)
  | _ => Option.none
noncomputable def zipD (args : List D) : Option (Bool × List D) := (listL args).bind fun l => match two? l with
  | some p => some (true, zip2 p.1 p.2)
  | Option.none => (three? l).bind fun q => if q.1.length = q.2.1.length ∧ q.2.1.length = q.2.2.length then some (true, zip3 q.1 q.2.1 q.2.2) else Option.none

noncomputable def valI (F : Fns) (sc : Scope) (σ : Vs) (e : Expr) : R (Bool × List D) := (F.ev sc σ e).bind fun v => (R.of (itemsD v)).map fun l => (false, l)
noncomputable def callI (g : G) (F : Fns) (sc : Scope) (σ : Vs) (x : Str) (as : List Expr) (e : Expr) : R (Bool × List D) := if as.any starred then .bad else
      if x == "range" then (nameD g sc σ x).bind fun f => if f.isTy "range" then (evs F sc σ as).bind fun vs => (R.of (rangeD vs)).map fun l => (false, l) else .bad
      else if x == "zip" then (nameD g sc σ x).bind fun f => if f.isTy "zip" then (evs F sc σ as).bind fun vs => R.of (zipD vs) else .bad
      else valI F sc σ e
noncomputable def itS (g : G) (F : Fns) (sc : Scope) (σ : Vs) (e : Expr) : R (Bool × List D) := match e with
  | .Call f as ks _ => (match f with
    | .Name x _ => if ks.isEmpty then callI g F sc σ x as e else valI F sc σ e
    | _ => valI F sc σ e)
  | _ => valI F sc σ e

noncomputable def retD (r : Fl) : R D := match r with
  | .ret d => .ok d
  | .next => .ok .none
  | _ => .bad
noncomputable def callS (g : G) (F : Fns) (f : D) (args : List D) (kws : Vs) : R D := match f with
  | .obj a => (R.of (g.fn a)).bind fun fn => (R.of (fn.bind args kws)).bind fun bs => (F.exs fn.scope (bs.foldl (fun s p => setS p.1 (.val p.2) s) []) fn.body).bind fun r => retD r.2
  | .bi id => if kws.isEmpty then R.of (biD id args) else .bad
  | .type n => if kws.isEmpty then R.of (tyD n args) else .bad
  | _ => .bad

noncomputable def storable (sc : Scope) (x : Str) : Bool := sc.names.lookup x == some .local || sc.names.lookup x == some .cell

noncomputable def namesL (sc : Scope) : List Expr → Option (List Str)
  | [] => some []
  | e :: r => (Expr.name? e).bind fun x => if storable sc x then (namesL sc r).map (x :: ·) else Option.none
noncomputable def bindS (sc : Scope) (t : Expr) (d : D) (σ : Sg) : R Sg := match t with
  | .Name x _ => if storable sc x then .ok (setS x (.val d) σ) else .bad
  | .Tuple ts _ _ => (R.of (namesL sc ts)).bind fun xs => (R.of d.tuple?).bind fun l => (match two? xs with
      | some p => (R.of (two? l)).bind fun q => .ok (setS p.2 (.val q.2) (setS p.1 (.val q.1) σ))
      | Option.none => (R.of (three? xs)).bind fun p => (R.of (three? l)).bind fun q => .ok (setS p.2.2 (.val q.2.2) (setS p.2.1 (.val q.2.1) (setS p.1 (.val q.1) σ))))
  | _ => .bad

noncomputable def forL (F : Fns) (sc : Scope) (t : Expr) (body : List Stmt) : List D → Sg → R (Sg × Fl)
  | [], σ => .ok (σ, .next)
  | d :: r, σ => (bindS sc t d σ).bind fun σ' => (F.exs sc σ' body).bind fun p => match p.2 with
    | .next => forL F sc t body r p.1
    | .cont => forL F sc t body r p.1
    | .brk => .ok (p.1, .next)
    | .ret d => .ok (p.1, .ret d)

noncomputable def whileL (F : Fns) (sc : Scope) (test : Expr) (body : List Stmt) : Nat → Sg → R (Sg × Fl)
  | 0, _ => .bad
  | n + 1, σ => (F.evT sc (allV σ) test).bind fun b => if b then (F.exs sc σ body).bind fun p => match p.2 with
    | .next => whileL F sc test body n p.1
    | .cont => whileL F sc test body n p.1
    | .brk => .ok (p.1, .next)
    | .ret d => .ok (p.1, .ret d)
    else .ok (σ, .next)

noncomputable def subExc (g : G) (c : Value) (T : String) : Option Bool := if T == "ValueError" || T == "IndexError" then (match c with
  | .type n => if n == "ValueError" || n == "IndexError" then some (n == T) else Option.none
  | .ref a => (g.exc a).map fun l => l.contains T
  | _ => Option.none) else Option.none

noncomputable def Stmt.ret? : Stmt → Option Expr
  | .Return e _ => e
  | _ => Option.none
set_option tactic.hygienic true in
theorem Stmt.ret?_s {s : Stmt} {e} (h : Stmt.ret? s = some e) : ∃ p, s = .Return (some e) p := by
  cases s <;> first | exact no_some h | skip
  rename_i v p
  cases v <;> cases h; exact ⟨_, rfl⟩
noncomputable def hand? : ExceptHandler → Option (Str × Option Str × Expr)
  | .ExceptHandler t n body _ => t.bind fun t => (Expr.name? t).bind fun x => (one? body).bind fun st => (Stmt.ret? st).map fun b => (x, n, b)
theorem hand?_s {h : ExceptHandler} {x n b} (e : hand? h = some (x, n, b)) : ∃ p q r, h = .ExceptHandler (some (.Name x p)) n [.Return (some b) q] r := by
  obtain ⟨t, m, body, r⟩ := h
  obtain ⟨u, rfl, e⟩ := Option.bind_eq_some_iff.mp e
  obtain ⟨y, h1, e⟩ := Option.bind_eq_some_iff.mp e
  obtain ⟨st, h2, e⟩ := Option.bind_eq_some_iff.mp e
  obtain ⟨c, h3, e⟩ := Option.map_eq_some_iff.mp e
  cases e
  obtain ⟨p, rfl⟩ := Expr.name?_s h1
  obtain ⟨q, rfl⟩ := Stmt.ret?_s h3
  exact ⟨p, q, r, by rw [one?_s h2]⟩
noncomputable def call1 (e : Expr) : Option (Str × Str) := (Expr.call? e).bind fun c => if c.2.2.1.isEmpty then (Expr.name? c.1).bind fun y => (one? c.2.1).bind fun a => (Expr.name? a).map fun z => (y, z) else Option.none
theorem call1_s {e : Expr} {y z} (h : call1 e = some (y, z)) : ∃ p q r, e = .Call (.Name y p) [.Name z q] [] r := by
  refine bind_some h fun ⟨f, as, ks, r⟩ h1 h => ?_
  obtain ⟨hk, h⟩ := ite_some h
  · refine bind_some h fun u h2 h => ?_
    refine bind_some h fun a h3 h => ?_
    refine map_some h fun v h4 h => ?_
    cases h
    obtain ⟨p, rfl⟩ := Expr.name?_s h2
    obtain ⟨q, rfl⟩ := Expr.name?_s h4
    refine ⟨p, q, r, ?_⟩
    rw [Expr.call?_s h1, show as = _ from one?_s h3, show ks = _ from List.isEmpty_iff.mp hk]
noncomputable def isRefV : Value → Bool
  | .ref _ => true
  | _ => false
noncomputable def asOK (g : G) (sc : Scope) (y z n : Str) : Bool := z == n && sc.names.lookup y == some .globalImplicit && (g.glob y).isNone && y != "__debug__" && n != "__debug__" && sc.names.lookup n == some .local && ((g.bi y).elim false fun d => d.isTy "str")
noncomputable def handB (g : G) (sc : Scope) (c : Value) (m : Str) (n : Option Str) (b : Expr) : R Fl := match n with
  | Option.none => (R.of ((Expr.cst? b).bind Const.str?)).map fun s => .ret (.str s)
  | some n => (R.of (call1 b)).bind fun q => if isRefV c && asOK g sc q.1 q.2 n then .ok (.ret (.str m)) else .bad
noncomputable def handleS (g : G) (sc : Scope) (c : Value) (m : Str) : List ExceptHandler → R Fl
  | h :: rest => (R.of (hand? h)).bind fun q => if sc.names.lookup q.1 == some .globalImplicit && (g.glob q.1).isNone && q.1 != "__debug__" then
      (R.of ((g.bi q.1).bind D.type?)).bind fun T => (R.of (subExc g c T)).bind fun b => if b then handB g sc c m q.2.1 q.2.2 else handleS g sc c m rest
    else .bad
  | [] => .bad
theorem handleS_c {g : G} {sc : Scope} {c : Value} {m : Str} {h : ExceptHandler} {rest : List ExceptHandler} : handleS g sc c m (h :: rest) = (R.of (hand? h)).bind fun q => if sc.names.lookup q.1 == some .globalImplicit && (g.glob q.1).isNone && q.1 != "__debug__" then
      (R.of ((g.bi q.1).bind D.type?)).bind fun T => (R.of (subExc g c T)).bind fun b => if b then handB g sc c m q.2.1 q.2.2 else handleS g sc c m rest
    else .bad := (rfl)

noncomputable def putIn (k : Str) (v : D) (l : List (Str × D)) : List (Str × D) := lastVal k v l

noncomputable def isNewL : Expr → Bool
  | .List es _ => es.isEmpty
  | _ => false
noncomputable def isNewD : Expr → Bool
  | .Dict ks vs _ => ks.isEmpty && vs.isEmpty
  | _ => false
theorem isNewL_t {e : Expr} (h : isNewL e = true) : ∃ p, e = .List [] p := by
  cases e <;> first | exact no_true h | skip
  exact ⟨_, by rw [List.isEmpty_iff.mp h]⟩
theorem isNewD_t {e : Expr} (h : isNewD e = true) : ∃ p, e = .Dict [] [] p := by
  cases e <;> first | exact no_true h | skip
  obtain ⟨h1, h2⟩ := Bool.and_eq_true_iff.mp h
  exact ⟨_, by rw [List.isEmpty_iff.mp h1, List.isEmpty_iff.mp h2]⟩
noncomputable def mk : Nat → Stmt → Bool
  | 0, _ => true
  | k + 1, st => match st with
    | .Assign ts e _ => ((one? ts).bind Expr.name?).isSome && (isNewL e || isNewD e)
    | .If _ a b _ => a.any (mk k) || b.any (mk k)
    | .For _ _ b _ _ => b.any (mk k)
    | .While _ b _ _ => b.any (mk k)
    | .Try b _ _ _ _ => b.any (mk k)
    | _ => false

noncomputable def oddComp : Expr → Bool
  | .ListComp _ gs _ _ => (gen1 gs).isNone
  | .SetComp .. => true
  | .DictComp .. => true
  | _ => false

noncomputable def setNE (F : Fns) (sc : Scope) (σ : Sg) (x : Str) (e : Expr) : R (Sg × Fl) := if storable sc x && !oddComp e then
      (F.ev sc (fast (freeze (occ 30 e) σ)) e).bind fun d => .ok (setS x (.val d) (freeze (occ 30 e) σ), .next) else .bad
noncomputable def setN (F : Fns) (sc : Scope) (σ : Sg) (x : Str) (e : Expr) : R (Sg × Fl) :=
  if isNewL e then (if storable sc x then .ok (setS x (.ml []) σ, .next) else .bad)
  else if isNewD e then (if storable sc x then .ok (setS x (.md []) σ, .next) else .bad)
  else setNE F sc σ x e
noncomputable def unp2 (σ : Sg) (x y : Str) (l : List D) : R (Sg × Fl) := match two? l with
  | some q => .ok (setS y (.val q.2) (setS x (.val q.1) σ), .next)
  | Option.none => if (one? l).isSome then .exc (.type "ValueError") "not enough values to unpack (expected 2, got 1)" else .bad
noncomputable def setT (F : Fns) (sc : Scope) (σ : Sg) (x y : Str) (e : Expr) : R (Sg × Fl) := if storable sc x && storable sc y && !isTup e then
      (F.ev sc (fast (freeze (occ 30 e) σ)) e).bind fun d => (R.of d.list?).bind (unp2 (freeze (occ 30 e) σ) x y) else .bad
noncomputable def B.md? : B → Option (List (Str × D))
  | .md l => some l
  | _ => Option.none
noncomputable def B.ml? : B → Option (List D)
  | .ml l => some l
  | _ => Option.none
theorem B.md?_s {b : B} {l} (h : b.md? = some l) : b = .md l := by cases b <;> cases h; rfl
theorem B.ml?_s {b : B} {l} (h : b.ml? = some l) : b = .ml l := by cases b <;> cases h; rfl
noncomputable def setI (F : Fns) (sc : Scope) (σ : Sg) (x : Str) (k v : Expr) : R (Sg × Fl) := if x == "__debug__" || !(Expr.name? k).isSome || !(Expr.name? v).isSome then .bad else
  (R.of ((σ.lookup x).bind B.md?)).bind fun l => (F.ev sc (fast σ) v).bind fun d => (F.ev sc (fast σ) k).bind fun kd => (R.of kd.str?).bind fun ks => if l.length ≤ 1000 then .ok (setS x (.md (putIn ks d l)) σ, .next) else .bad
noncomputable def asgS (F : Fns) (sc : Scope) (σ : Sg) (t e : Expr) : R (Sg × Fl) := match t with
  | .Name x _ => setN F sc σ x e
  | .Tuple ts _ _ => (R.of (names2 ts)).bind fun p => setT F sc σ p.1 p.2 e
  | .Subscript o k _ => (R.of (Expr.name? o)).bind fun x => setI F sc σ x k e
  | _ => .bad
noncomputable def app? (e : Expr) : Option (Str × Expr) := (Expr.call? e).bind fun c => (Expr.attr? c.1).bind fun a => (Expr.name? a.1).bind fun x => (one? c.2.1).bind fun b =>
  if a.2.1 == "append" && c.2.2.1.isEmpty && !starred b && x != "__debug__" && a.2.2.endLine == c.2.2.2.line then some (x, b) else Option.none
theorem app?_s {e : Expr} {x b} (h : app? e = some (x, b)) : ∃ p q r, e = .Call (.Attribute (.Name x p) "append" q) [b] [] r ∧ starred b = false ∧ (x == ("__debug__" : Str)) = false ∧ q.endLine = r.line := by
  refine bind_some h fun ⟨f, as, ks, r⟩ h1 h => ?_
  refine bind_some h fun ⟨o, n, q⟩ h2 h => ?_
  refine bind_some h fun u h3 h => ?_
  refine bind_some h fun a h4 h => ?_
  obtain ⟨hk, h⟩ := ite_some h
  · cases h
    simp only [Bool.and_eq_true, beq_iff_eq, Bool.not_eq_true', List.isEmpty_iff] at hk
    obtain ⟨⟨⟨⟨k1, k2⟩, k3⟩, k4⟩, k5⟩ := hk
    obtain ⟨p, rfl⟩ := Expr.name?_s h3
    refine ⟨p, q, r, ?_, k3, by simpa using k4, k5⟩
    rw [Expr.call?_s h1, show f = _ from Expr.attr?_s h2, show as = _ from one?_s h4, k1, k2]
noncomputable def appS (F : Fns) (sc : Scope) (σ : Sg) (x : Str) (e : Expr) : R (Sg × Fl) := (R.of ((σ.lookup x).bind B.ml?)).bind fun l =>
  (F.ev sc (fast (freeze ((occ 30 e).filter (· != x)) σ)) e).bind fun d => if l.length ≤ big then .ok (setS x (.ml (l ++ [d])) (freeze ((occ 30 e).filter (· != x)) σ), .next) else .bad
noncomputable def forS (F : Fns) (sc : Scope) (σ : Sg) (t i : Expr) (body : List Stmt) : R (Sg × Fl) := if isSet i || body.any (mk 10) then .bad else
  (F.it sc (fast (freeze (occ 30 i) σ)) i).bind fun l => if l.1 && !isTup t then .bad else if l.2.length ≤ big then forL F sc t body l.2 (freeze (occ 30 i) σ) else .bad
noncomputable def retS (F : Fns) (sc : Scope) (σ : Sg) (e : Expr) : R (Sg × Fl) := (F.ev sc (fast (freeze (occ 30 e) σ)) e).bind fun d => .ok (freeze (occ 30 e) σ, .ret d)
noncomputable def rais? (e : Expr) : Option (Str × Str) := (Expr.call? e).bind fun c => (Expr.name? c.1).bind fun x => (one? c.2.1).bind fun a => (Expr.cst? a).bind fun k => (Const.str? k).bind fun m => if c.2.2.1.isEmpty then some (x, m) else Option.none
theorem rais?_s {e : Expr} {x m} (h : rais? e = some (x, m)) : ∃ p k q r, e = .Call (.Name x p) [.Constant (.str m) k q] [] r := by
  refine bind_some h fun ⟨f, as, ks, r⟩ h1 h => ?_
  refine bind_some h fun u h2 h => ?_
  refine bind_some h fun a h3 h => ?_
  refine bind_some h fun c h4 h => ?_
  refine bind_some h fun v h5 h => ?_
  obtain ⟨hk, h⟩ := ite_some h
  · cases h
    obtain ⟨p, rfl⟩ := Expr.name?_s h2
    obtain ⟨k, q, rfl⟩ := Expr.cst?_s h4
    refine ⟨p, k, q, r, ?_⟩
    rw [Expr.call?_s h1, show as = _ from one?_s h3, Const.str?_s h5, show ks = _ from List.isEmpty_iff.mp hk]
noncomputable def raiS (g : G) (sc : Scope) (x m : Str) : R (Sg × Fl) := if x != "__debug__" && sc.names.lookup x == some .globalImplicit then
  (R.of ((g.glob x).bind D.obj?)).bind fun a => if (g.exc a).isSome && decide (m.length ≤ big) then .exc (.ref a) m else .bad else .bad
noncomputable def tryR (g : G) (sc : Scope) (hs : List ExceptHandler) (r : R (Sg × Fl)) : R (Sg × Fl) := match r with
  | .ok p => (match p.2 with | .ret d => .ok (p.1, .ret d) | .next => .ok (p.1, .next) | _ => .bad)
  | .exc c m => (handleS g sc c m hs).map fun f => ([], f)
  | .bad => .bad

noncomputable def exS (g : G) (F : Fns) (wl : Nat) (sc : Scope) (σ : Sg) (st : Stmt) : R (Sg × Fl) := match st with
  | .Assign ts e _ => (R.of (one? ts)).bind fun t => asgS F sc σ t e
  | .Expr e _ => (R.of (app? e)).bind fun q => appS F sc σ q.1 q.2
  | .If t a b _ => (F.evT sc (allV σ) t).bind fun c => if c then F.exs sc σ a else F.exs sc σ b
  | .For t i body els _ => if els.isEmpty then forS F sc σ t i body else .bad
  | .While t body els _ => if els.isEmpty then (whileL F sc t body wl σ).safe else .bad
  | .Return e _ => (R.of e).bind (retS F sc σ)
  | .Continue _ => .ok (σ, .cont)
  | .Break _ => .ok (σ, .brk)
  | .Assert t _ _ => (F.evT sc (allV σ) t).bind fun c => if c then .ok (σ, .next) else .bad
  | .Raise e c _ => if c.isNone then (R.of (e.bind rais?)).bind fun q => raiS g sc q.1 q.2 else .bad
  | .Try body hs els fin _ => if els.isEmpty && fin.isEmpty && !hs.isEmpty then tryR g sc hs (F.exs sc σ body) else .bad
  | _ => .bad

noncomputable def exsS (F : Fns) (sc : Scope) (σ : Sg) : List Stmt → R (Sg × Fl)
  | [] => .ok (σ, .next)
  | s :: r => (F.ex sc σ s).bind fun p => match p.2 with
    | .next => exsS F sc p.1 r
    | f => .ok (p.1, f)
theorem exsS_c {F : Fns} {sc : Scope} {σ : Sg} {s : Stmt} {r : List Stmt} : exsS F sc σ (s :: r) = (F.ex sc σ s).bind fun p => match p.2 with
    | .next => exsS F sc p.1 r
    | f => .ok (p.1, f) := (rfl)

noncomputable def stepF (g : G) (n : Nat) (F : Fns) : Fns :=
  ⟨evS g F, evTS F, itS g F, callS g F, exS g F n, exsS F⟩

noncomputable def fns (g : G) : Nat → Fns
  | 0 => Fns.none
  | n + 1 => stepF g n (fns g n)
end Mine
end
section
namespace Mine
theorem el_AAAT {p0 : Prop} {p1 : Prop} {p2 : Prop} {p3 : Prop} {P : Prop} (h : p0 ∧ p1 ∧ p2 ∧ p3) (k : p0 → p1 → p2 → p3 → P) : P := by
  obtain ⟨x0, x1, x2, x3⟩ := h
  exact k x0 x1 x2 x3
theorem el_AAT {p0 : Prop} {p1 : Prop} {p2 : Prop} {P : Prop} (h : p0 ∧ p1 ∧ p2) (k : p0 → p1 → p2 → P) : P := by
  obtain ⟨x0, x1, x2⟩ := h
  exact k x0 x1 x2
theorem el_AEAT {α0 : Sort _} {p0 : Prop} {p2 : α0 → Prop} {p3 : α0 → Prop} {P : Prop} (h : p0 ∧ ∃ a0, p2 a0 ∧ p3 a0) (k : p0 → ∀ a0, p2 a0 → p3 a0 → P) : P := by
  obtain ⟨x0, x1, x2, x3⟩ := h
  exact k x0 x1 x2 x3
theorem el_AET {α0 : Sort _} {p0 : Prop} {p2 : α0 → Prop} {P : Prop} (h : p0 ∧ ∃ a0, p2 a0) (k : p0 → ∀ a0, p2 a0 → P) : P := by
  obtain ⟨x0, x1, x2⟩ := h
  exact k x0 x1 x2
theorem el_AT {p0 : Prop} {p1 : Prop} {P : Prop} (h : p0 ∧ p1) (k : p0 → p1 → P) : P := by
  obtain ⟨x0, x1⟩ := h
  exact k x0 x1
theorem el_EAAET {α0 : Sort _} {α1 : Sort _} {p1 : α0 → Prop} {p2 : α0 → Prop} {p4 : α0 → α1 → Prop} {P : Prop} (h : ∃ a0, p1 a0 ∧ p2 a0 ∧ ∃ a1, p4 a0 a1) (k : ∀ a0, p1 a0 → p2 a0 → ∀ a1, p4 a0 a1 → P) : P := by
  obtain ⟨x0, x1, x2, x3, x4⟩ := h
  exact k x0 x1 x2 x3 x4
theorem el_EAAT {α0 : Sort _} {p1 : α0 → Prop} {p2 : α0 → Prop} {p3 : α0 → Prop} {P : Prop} (h : ∃ a0, p1 a0 ∧ p2 a0 ∧ p3 a0) (k : ∀ a0, p1 a0 → p2 a0 → p3 a0 → P) : P := by
  obtain ⟨x0, x1, x2, x3⟩ := h
  exact k x0 x1 x2 x3
theorem el_EAEEAAAAT {α0 : Sort _} {α1 : Sort _} {α2 : Sort _} {p1 : α0 → Prop} {p4 : α0 → α1 → α2 → Prop} {p5 : α0 → α1 → α2 → Prop} {p6 : α0 → α1 → α2 → Prop} {p7 : α0 → α1 → α2 → Prop} {p8 : α0 → α1 → α2 → Prop} {P : Prop} (h : ∃ a0, p1 a0 ∧ ∃ a1, ∃ a2, p4 a0 a1 a2 ∧ p5 a0 a1 a2 ∧ p6 a0 a1 a2 ∧ p7 a0 a1 a2 ∧ p8 a0 a1 a2) (k : ∀ a0, p1 a0 → ∀ a1, ∀ a2, p4 a0 a1 a2 → p5 a0 a1 a2 → p6 a0 a1 a2 → p7 a0 a1 a2 → p8 a0 a1 a2 → P) : P := by
  obtain ⟨x0, x1, x2, x3, x4, x5, x6, x7, x8⟩ := h
  exact k x0 x1 x2 x3 x4 x5 x6 x7 x8
theorem el_EAEEEAAAT {α0 : Sort _} {α1 : Sort _} {α2 : Sort _} {α3 : Sort _} {p1 : α0 → Prop} {p5 : α0 → α1 → α2 → α3 → Prop} {p6 : α0 → α1 → α2 → α3 → Prop} {p7 : α0 → α1 → α2 → α3 → Prop} {p8 : α0 → α1 → α2 → α3 → Prop} {P : Prop} (h : ∃ a0, p1 a0 ∧ ∃ a1, ∃ a2, ∃ a3, p5 a0 a1 a2 a3 ∧ p6 a0 a1 a2 a3 ∧ p7 a0 a1 a2 a3 ∧ p8 a0 a1 a2 a3) (k : ∀ a0, p1 a0 → ∀ a1, ∀ a2, ∀ a3, p5 a0 a1 a2 a3 → p6 a0 a1 a2 a3 → p7 a0 a1 a2 a3 → p8 a0 a1 a2 a3 → P) : P := by
  obtain ⟨x0, x1, x2, x3, x4, x5, x6, x7, x8⟩ := h
  exact k x0 x1 x2 x3 x4 x5 x6 x7 x8
theorem el_EAT {α0 : Sort _} {p1 : α0 → Prop} {p2 : α0 → Prop} {P : Prop} (h : ∃ a0, p1 a0 ∧ p2 a0) (k : ∀ a0, p1 a0 → p2 a0 → P) : P := by
  obtain ⟨x0, x1, x2⟩ := h
  exact k x0 x1 x2
theorem el_EEAAAAT {α0 : Sort _} {α1 : Sort _} {p2 : α0 → α1 → Prop} {p3 : α0 → α1 → Prop} {p4 : α0 → α1 → Prop} {p5 : α0 → α1 → Prop} {p6 : α0 → α1 → Prop} {P : Prop} (h : ∃ a0, ∃ a1, p2 a0 a1 ∧ p3 a0 a1 ∧ p4 a0 a1 ∧ p5 a0 a1 ∧ p6 a0 a1) (k : ∀ a0, ∀ a1, p2 a0 a1 → p3 a0 a1 → p4 a0 a1 → p5 a0 a1 → p6 a0 a1 → P) : P := by
  obtain ⟨x0, x1, x2, x3, x4, x5, x6⟩ := h
  exact k x0 x1 x2 x3 x4 x5 x6
theorem el_EEAAAT {α0 : Sort _} {α1 : Sort _} {p2 : α0 → α1 → Prop} {p3 : α0 → α1 → Prop} {p4 : α0 → α1 → Prop} {p5 : α0 → α1 → Prop} {P : Prop} (h : ∃ a0, ∃ a1, p2 a0 a1 ∧ p3 a0 a1 ∧ p4 a0 a1 ∧ p5 a0 a1) (k : ∀ a0, ∀ a1, p2 a0 a1 → p3 a0 a1 → p4 a0 a1 → p5 a0 a1 → P) : P := by
  obtain ⟨x0, x1, x2, x3, x4, x5⟩ := h
  exact k x0 x1 x2 x3 x4 x5
theorem el_EEAAT {α0 : Sort _} {α1 : Sort _} {p2 : α0 → α1 → Prop} {p3 : α0 → α1 → Prop} {p4 : α0 → α1 → Prop} {P : Prop} (h : ∃ a0, ∃ a1, p2 a0 a1 ∧ p3 a0 a1 ∧ p4 a0 a1) (k : ∀ a0, ∀ a1, p2 a0 a1 → p3 a0 a1 → p4 a0 a1 → P) : P := by
  obtain ⟨x0, x1, x2, x3, x4⟩ := h
  exact k x0 x1 x2 x3 x4
theorem el_EEAT {α0 : Sort _} {α1 : Sort _} {p2 : α0 → α1 → Prop} {p3 : α0 → α1 → Prop} {P : Prop} (h : ∃ a0, ∃ a1, p2 a0 a1 ∧ p3 a0 a1) (k : ∀ a0, ∀ a1, p2 a0 a1 → p3 a0 a1 → P) : P := by
  obtain ⟨x0, x1, x2, x3⟩ := h
  exact k x0 x1 x2 x3
theorem el_EEEAAAAAT {α0 : Sort _} {α1 : Sort _} {α2 : Sort _} {p3 : α0 → α1 → α2 → Prop} {p4 : α0 → α1 → α2 → Prop} {p5 : α0 → α1 → α2 → Prop} {p6 : α0 → α1 → α2 → Prop} {p7 : α0 → α1 → α2 → Prop} {p8 : α0 → α1 → α2 → Prop} {P : Prop} (h : ∃ a0, ∃ a1, ∃ a2, p3 a0 a1 a2 ∧ p4 a0 a1 a2 ∧ p5 a0 a1 a2 ∧ p6 a0 a1 a2 ∧ p7 a0 a1 a2 ∧ p8 a0 a1 a2) (k : ∀ a0, ∀ a1, ∀ a2, p3 a0 a1 a2 → p4 a0 a1 a2 → p5 a0 a1 a2 → p6 a0 a1 a2 → p7 a0 a1 a2 → p8 a0 a1 a2 → P) : P := by
  obtain ⟨x0, x1, x2, x3, x4, x5, x6, x7, x8⟩ := h
  exact k x0 x1 x2 x3 x4 x5 x6 x7 x8
theorem el_EEEAAAT {α0 : Sort _} {α1 : Sort _} {α2 : Sort _} {p3 : α0 → α1 → α2 → Prop} {p4 : α0 → α1 → α2 → Prop} {p5 : α0 → α1 → α2 → Prop} {p6 : α0 → α1 → α2 → Prop} {P : Prop} (h : ∃ a0, ∃ a1, ∃ a2, p3 a0 a1 a2 ∧ p4 a0 a1 a2 ∧ p5 a0 a1 a2 ∧ p6 a0 a1 a2) (k : ∀ a0, ∀ a1, ∀ a2, p3 a0 a1 a2 → p4 a0 a1 a2 → p5 a0 a1 a2 → p6 a0 a1 a2 → P) : P := by
  obtain ⟨x0, x1, x2, x3, x4, x5, x6⟩ := h
  exact k x0 x1 x2 x3 x4 x5 x6
theorem el_EEEAAT {α0 : Sort _} {α1 : Sort _} {α2 : Sort _} {p3 : α0 → α1 → α2 → Prop} {p4 : α0 → α1 → α2 → Prop} {p5 : α0 → α1 → α2 → Prop} {P : Prop} (h : ∃ a0, ∃ a1, ∃ a2, p3 a0 a1 a2 ∧ p4 a0 a1 a2 ∧ p5 a0 a1 a2) (k : ∀ a0, ∀ a1, ∀ a2, p3 a0 a1 a2 → p4 a0 a1 a2 → p5 a0 a1 a2 → P) : P := by
  obtain ⟨x0, x1, x2, x3, x4, x5⟩ := h
  exact k x0 x1 x2 x3 x4 x5
theorem el_EEEAT {α0 : Sort _} {α1 : Sort _} {α2 : Sort _} {p3 : α0 → α1 → α2 → Prop} {p4 : α0 → α1 → α2 → Prop} {P : Prop} (h : ∃ a0, ∃ a1, ∃ a2, p3 a0 a1 a2 ∧ p4 a0 a1 a2) (k : ∀ a0, ∀ a1, ∀ a2, p3 a0 a1 a2 → p4 a0 a1 a2 → P) : P := by
  obtain ⟨x0, x1, x2, x3, x4⟩ := h
  exact k x0 x1 x2 x3 x4
theorem el_EEEEAAAAT {α0 : Sort _} {α1 : Sort _} {α2 : Sort _} {α3 : Sort _} {p4 : α0 → α1 → α2 → α3 → Prop} {p5 : α0 → α1 → α2 → α3 → Prop} {p6 : α0 → α1 → α2 → α3 → Prop} {p7 : α0 → α1 → α2 → α3 → Prop} {p8 : α0 → α1 → α2 → α3 → Prop} {P : Prop} (h : ∃ a0, ∃ a1, ∃ a2, ∃ a3, p4 a0 a1 a2 a3 ∧ p5 a0 a1 a2 a3 ∧ p6 a0 a1 a2 a3 ∧ p7 a0 a1 a2 a3 ∧ p8 a0 a1 a2 a3) (k : ∀ a0, ∀ a1, ∀ a2, ∀ a3, p4 a0 a1 a2 a3 → p5 a0 a1 a2 a3 → p6 a0 a1 a2 a3 → p7 a0 a1 a2 a3 → p8 a0 a1 a2 a3 → P) : P := by
  obtain ⟨x0, x1, x2, x3, x4, x5, x6, x7, x8⟩ := h
  exact k x0 x1 x2 x3 x4 x5 x6 x7 x8
theorem el_EEEEAT {α0 : Sort _} {α1 : Sort _} {α2 : Sort _} {α3 : Sort _} {p4 : α0 → α1 → α2 → α3 → Prop} {p5 : α0 → α1 → α2 → α3 → Prop} {P : Prop} (h : ∃ a0, ∃ a1, ∃ a2, ∃ a3, p4 a0 a1 a2 a3 ∧ p5 a0 a1 a2 a3) (k : ∀ a0, ∀ a1, ∀ a2, ∀ a3, p4 a0 a1 a2 a3 → p5 a0 a1 a2 a3 → P) : P := by
  obtain ⟨x0, x1, x2, x3, x4, x5⟩ := h
  exact k x0 x1 x2 x3 x4 x5
theorem el_EEEEEAAAEAT {α0 : Sort _} {α1 : Sort _} {α2 : Sort _} {α3 : Sort _} {α4 : Sort _} {α5 : Sort _} {p5 : α0 → α1 → α2 → α3 → α4 → Prop} {p6 : α0 → α1 → α2 → α3 → α4 → Prop} {p7 : α0 → α1 → α2 → α3 → α4 → Prop} {p9 : α0 → α1 → α2 → α3 → α4 → α5 → Prop} {p10 : α0 → α1 → α2 → α3 → α4 → α5 → Prop} {P : Prop} (h : ∃ a0, ∃ a1, ∃ a2, ∃ a3, ∃ a4, p5 a0 a1 a2 a3 a4 ∧ p6 a0 a1 a2 a3 a4 ∧ p7 a0 a1 a2 a3 a4 ∧ ∃ a5, p9 a0 a1 a2 a3 a4 a5 ∧ p10 a0 a1 a2 a3 a4 a5) (k : ∀ a0, ∀ a1, ∀ a2, ∀ a3, ∀ a4, p5 a0 a1 a2 a3 a4 → p6 a0 a1 a2 a3 a4 → p7 a0 a1 a2 a3 a4 → ∀ a5, p9 a0 a1 a2 a3 a4 a5 → p10 a0 a1 a2 a3 a4 a5 → P) : P := by
  obtain ⟨x0, x1, x2, x3, x4, x5, x6, x7, x8, x9, x10⟩ := h
  exact k x0 x1 x2 x3 x4 x5 x6 x7 x8 x9 x10
theorem el_EEEEEAT {α0 : Sort _} {α1 : Sort _} {α2 : Sort _} {α3 : Sort _} {α4 : Sort _} {p5 : α0 → α1 → α2 → α3 → α4 → Prop} {p6 : α0 → α1 → α2 → α3 → α4 → Prop} {P : Prop} (h : ∃ a0, ∃ a1, ∃ a2, ∃ a3, ∃ a4, p5 a0 a1 a2 a3 a4 ∧ p6 a0 a1 a2 a3 a4) (k : ∀ a0, ∀ a1, ∀ a2, ∀ a3, ∀ a4, p5 a0 a1 a2 a3 a4 → p6 a0 a1 a2 a3 a4 → P) : P := by
  obtain ⟨x0, x1, x2, x3, x4, x5, x6⟩ := h
  exact k x0 x1 x2 x3 x4 x5 x6
theorem el_EEEEEEEEEEEEEEEEAAAT {α0 : Sort _} {α1 : Sort _} {α2 : Sort _} {α3 : Sort _} {α4 : Sort _} {α5 : Sort _} {α6 : Sort _} {α7 : Sort _} {α8 : Sort _} {α9 : Sort _} {α10 : Sort _} {α11 : Sort _} {α12 : Sort _} {α13 : Sort _} {α14 : Sort _} {α15 : Sort _} {p16 : α0 → α1 → α2 → α3 → α4 → α5 → α6 → α7 → α8 → α9 → α10 → α11 → α12 → α13 → α14 → α15 → Prop} {p17 : α0 → α1 → α2 → α3 → α4 → α5 → α6 → α7 → α8 → α9 → α10 → α11 → α12 → α13 → α14 → α15 → Prop} {p18 : α0 → α1 → α2 → α3 → α4 → α5 → α6 → α7 → α8 → α9 → α10 → α11 → α12 → α13 → α14 → α15 → Prop} {p19 : α0 → α1 → α2 → α3 → α4 → α5 → α6 → α7 → α8 → α9 → α10 → α11 → α12 → α13 → α14 → α15 → Prop} {P : Prop} (h : ∃ a0, ∃ a1, ∃ a2, ∃ a3, ∃ a4, ∃ a5, ∃ a6, ∃ a7, ∃ a8, ∃ a9, ∃ a10, ∃ a11, ∃ a12, ∃ a13, ∃ a14, ∃ a15, p16 a0 a1 a2 a3 a4 a5 a6 a7 a8 a9 a10 a11 a12 a13 a14 a15 ∧ p17 a0 a1 a2 a3 a4 a5 a6 a7 a8 a9 a10 a11 a12 a13 a14 a15 ∧ p18 a0 a1 a2 a3 a4 a5 a6 a7 a8 a9 a10 a11 a12 a13 a14 a15 ∧ p19 a0 a1 a2 a3 a4 a5 a6 a7 a8 a9 a10 a11 a12 a13 a14 a15) (k : ∀ a0, ∀ a1, ∀ a2, ∀ a3, ∀ a4, ∀ a5, ∀ a6, ∀ a7, ∀ a8, ∀ a9, ∀ a10, ∀ a11, ∀ a12, ∀ a13, ∀ a14, ∀ a15, p16 a0 a1 a2 a3 a4 a5 a6 a7 a8 a9 a10 a11 a12 a13 a14 a15 → p17 a0 a1 a2 a3 a4 a5 a6 a7 a8 a9 a10 a11 a12 a13 a14 a15 → p18 a0 a1 a2 a3 a4 a5 a6 a7 a8 a9 a10 a11 a12 a13 a14 a15 → p19 a0 a1 a2 a3 a4 a5 a6 a7 a8 a9 a10 a11 a12 a13 a14 a15 → P) : P := by
  obtain ⟨x0, x1, x2, x3, x4, x5, x6, x7, x8, x9, x10, x11, x12, x13, x14, x15, x16, x17, x18, x19⟩ := h
  exact k x0 x1 x2 x3 x4 x5 x6 x7 x8 x9 x10 x11 x12 x13 x14 x15 x16 x17 x18 x19
theorem el_EEEEEEEEEEEEEEEEAAT {α0 : Sort _} {α1 : Sort _} {α2 : Sort _} {α3 : Sort _} {α4 : Sort _} {α5 : Sort _} {α6 : Sort _} {α7 : Sort _} {α8 : Sort _} {α9 : Sort _} {α10 : Sort _} {α11 : Sort _} {α12 : Sort _} {α13 : Sort _} {α14 : Sort _} {α15 : Sort _} {p16 : α0 → α1 → α2 → α3 → α4 → α5 → α6 → α7 → α8 → α9 → α10 → α11 → α12 → α13 → α14 → α15 → Prop} {p17 : α0 → α1 → α2 → α3 → α4 → α5 → α6 → α7 → α8 → α9 → α10 → α11 → α12 → α13 → α14 → α15 → Prop} {p18 : α0 → α1 → α2 → α3 → α4 → α5 → α6 → α7 → α8 → α9 → α10 → α11 → α12 → α13 → α14 → α15 → Prop} {P : Prop} (h : ∃ a0, ∃ a1, ∃ a2, ∃ a3, ∃ a4, ∃ a5, ∃ a6, ∃ a7, ∃ a8, ∃ a9, ∃ a10, ∃ a11, ∃ a12, ∃ a13, ∃ a14, ∃ a15, p16 a0 a1 a2 a3 a4 a5 a6 a7 a8 a9 a10 a11 a12 a13 a14 a15 ∧ p17 a0 a1 a2 a3 a4 a5 a6 a7 a8 a9 a10 a11 a12 a13 a14 a15 ∧ p18 a0 a1 a2 a3 a4 a5 a6 a7 a8 a9 a10 a11 a12 a13 a14 a15) (k : ∀ a0, ∀ a1, ∀ a2, ∀ a3, ∀ a4, ∀ a5, ∀ a6, ∀ a7, ∀ a8, ∀ a9, ∀ a10, ∀ a11, ∀ a12, ∀ a13, ∀ a14, ∀ a15, p16 a0 a1 a2 a3 a4 a5 a6 a7 a8 a9 a10 a11 a12 a13 a14 a15 → p17 a0 a1 a2 a3 a4 a5 a6 a7 a8 a9 a10 a11 a12 a13 a14 a15 → p18 a0 a1 a2 a3 a4 a5 a6 a7 a8 a9 a10 a11 a12 a13 a14 a15 → P) : P := by
  obtain ⟨x0, x1, x2, x3, x4, x5, x6, x7, x8, x9, x10, x11, x12, x13, x14, x15, x16, x17, x18⟩ := h
  exact k x0 x1 x2 x3 x4 x5 x6 x7 x8 x9 x10 x11 x12 x13 x14 x15 x16 x17 x18
theorem el_EEEEEET {α0 : Sort _} {α1 : Sort _} {α2 : Sort _} {α3 : Sort _} {α4 : Sort _} {α5 : Sort _} {p6 : α0 → α1 → α2 → α3 → α4 → α5 → Prop} {P : Prop} (h : ∃ a0, ∃ a1, ∃ a2, ∃ a3, ∃ a4, ∃ a5, p6 a0 a1 a2 a3 a4 a5) (k : ∀ a0, ∀ a1, ∀ a2, ∀ a3, ∀ a4, ∀ a5, p6 a0 a1 a2 a3 a4 a5 → P) : P := by
  obtain ⟨x0, x1, x2, x3, x4, x5, x6⟩ := h
  exact k x0 x1 x2 x3 x4 x5 x6
theorem el_EEEET {α0 : Sort _} {α1 : Sort _} {α2 : Sort _} {α3 : Sort _} {p4 : α0 → α1 → α2 → α3 → Prop} {P : Prop} (h : ∃ a0, ∃ a1, ∃ a2, ∃ a3, p4 a0 a1 a2 a3) (k : ∀ a0, ∀ a1, ∀ a2, ∀ a3, p4 a0 a1 a2 a3 → P) : P := by
  obtain ⟨x0, x1, x2, x3, x4⟩ := h
  exact k x0 x1 x2 x3 x4
theorem el_EEET {α0 : Sort _} {α1 : Sort _} {α2 : Sort _} {p3 : α0 → α1 → α2 → Prop} {P : Prop} (h : ∃ a0, ∃ a1, ∃ a2, p3 a0 a1 a2) (k : ∀ a0, ∀ a1, ∀ a2, p3 a0 a1 a2 → P) : P := by
  obtain ⟨x0, x1, x2, x3⟩ := h
  exact k x0 x1 x2 x3
theorem el_EET {α0 : Sort _} {α1 : Sort _} {p2 : α0 → α1 → Prop} {P : Prop} (h : ∃ a0, ∃ a1, p2 a0 a1) (k : ∀ a0, ∀ a1, p2 a0 a1 → P) : P := by
  obtain ⟨x0, x1, x2⟩ := h
  exact k x0 x1 x2
theorem el_ET {α0 : Sort _} {p1 : α0 → Prop} {P : Prop} (h : ∃ a0, p1 a0) (k : ∀ a0, p1 a0 → P) : P := by
  obtain ⟨x0, x1⟩ := h
  exact k x0 x1
end Mine
end
section
namespace Mine

noncomputable abbrev PH := Addr → Option Obj
noncomputable abbrev PH.le (ρ ρ' : PH) : Prop := ∀ a o, ρ a = some o → ρ' a = some o

mutual
noncomputable def Rep (ρ : PH) : D → Value → Prop
  | .none, v => v = .none
  | .bool b, v => v = .bool b
  | .int i, v => ∃ t, v = .int i t
  | .str s, v => ∃ t, v = .str s t
  | .bytes b, v => ∃ t, v = .bytes b t
  | .type n, v => v = .type n
  | .bi n, v => v = .builtin n
  | .obj a, v => v = .ref a
  | .tys l, v => ∃ a, v = .ref a ∧ ρ a = some { cls := .type "tuple", data := .seq (l.map Value.type).toArray }
  | .hit, v => ∃ a o, v = .ref a ∧ ρ a = some o ∧ o.cls = .type "re.Match"
  | .tuple l, v => ∃ a o vs n, v = .ref a ∧ ρ a = some o ∧ (o.cls = .type "tuple" ∧ o.dict = none) ∧ o.data = .seq vs n ∧ Reps ρ l vs.toList
  | .list l, v => ∃ a o vs n, v = .ref a ∧ ρ a = some o ∧ (o.cls = .type "list" ∧ o.dict = none) ∧ o.data = .seq vs n ∧ Reps ρ l vs.toList
  | .dict l, v => ∃ a o es n, v = .ref a ∧ ρ a = some o ∧ (o.cls = .type "dict" ∧ o.dict = none ∧ (a == sysModules) = false) ∧ o.data = .dict es n ∧ RepE ρ l es.toList
noncomputable def Reps (ρ : PH) : List D → List Value → Prop
  | [], vs => vs = []
  | d :: ds, vs => ∃ v r, vs = v :: r ∧ Rep ρ d v ∧ Reps ρ ds r
noncomputable def RepE (ρ : PH) : List (Str × D) → List DictEntry → Prop
  | [], es => es = []
  | (k, d) :: r, es => ∃ e t es', es = e :: es' ∧ e.key = .str k t ∧ Rep ρ d e.val ∧ RepE ρ r es'
end

mutual
theorem Rep.mono {ρ ρ' : PH} (h : PH.le ρ ρ') : ∀ {d : D} {v : Value}, Rep ρ d v → Rep ρ' d v
  | .none, _, x => x
  | .bool _, _, x => x
  | .int _, _, x => x
  | .str _, _, x => x
  | .bytes _, _, x => x
  | .type _, _, x => x
  | .bi _, _, x => x
  | .obj _, _, x => x
  | .tys l, _, x => by
    refine el_EAT (x) fun a e ho => ?_
    exact Exists.intro a ⟨e, h _ _ ho⟩
  | .hit, _, x => by
    refine el_EEAAT (x) fun a o e ho hc => ?_
    exact Exists.intro a ⟨o, e, h _ _ ho, hc⟩
  | .tuple l, _, x => by
    refine el_EEEEAAAAT (x) fun a o vs n e ho hc hd hr => ?_
    exact Exists.intro a ⟨o, vs, n, e, h _ _ ho, hc, hd, Reps.mono h hr⟩
  | .list l, _, x => by
    refine el_EEEEAAAAT (x) fun a o vs n e ho hc hd hr => ?_
    exact Exists.intro a ⟨o, vs, n, e, h _ _ ho, hc, hd, Reps.mono h hr⟩
  | .dict l, _, x => by
    refine el_EEEEAAAAT (x) fun a o vs n e ho hc hd hr => ?_
    exact Exists.intro a ⟨o, vs, n, e, h _ _ ho, hc, hd, RepE.mono h hr⟩
theorem Reps.mono {ρ ρ' : PH} (h : PH.le ρ ρ') : ∀ {l : List D} {vs : List Value}, Reps ρ l vs → Reps ρ' l vs
  | [], _, x => x
  | d :: ds, _, x => by
    refine el_EEAAT (x) fun v r e h1 h2 => ?_
    exact Exists.intro v ⟨r, e, Rep.mono h h1, Reps.mono h h2⟩
theorem RepE.mono {ρ ρ' : PH} (h : PH.le ρ ρ') : ∀ {l : List (Str × D)} {es : List DictEntry}, RepE ρ l es → RepE ρ' l es
  | [], _, x => x
  | (k, d) :: ds, _, x => by
    refine el_EEEAAAT (x) fun e t es' q hk h1 h2 => ?_
    exact Exists.intro e ⟨t, es', q, hk, Rep.mono h h1, RepE.mono h h2⟩
end

section
variable {ρ : PH}
theorem rep_none {v : Value} : Rep ρ .none v ↔ v = .none := Iff.rfl
theorem rep_bool {b : Bool} {v : Value} : Rep ρ (.bool b) v ↔ v = .bool b := Iff.rfl
theorem rep_int {i : Int} {v : Value} : Rep ρ (.int i) v ↔ ∃ t, v = .int i t := Iff.rfl
theorem rep_str {s : Str} {v : Value} : Rep ρ (.str s) v ↔ ∃ t, v = .str s t := Iff.rfl
theorem rep_bytes {b : Array UInt8} {v : Value} : Rep ρ (.bytes b) v ↔ ∃ t, v = .bytes b t := Iff.rfl
theorem rep_type {n : String} {v : Value} : Rep ρ (.type n) v ↔ v = .type n := Iff.rfl
theorem rep_bi {n : String} {v : Value} : Rep ρ (.bi n) v ↔ v = .builtin n := Iff.rfl
theorem rep_obj {a : Addr} {v : Value} : Rep ρ (.obj a) v ↔ v = .ref a := Iff.rfl
theorem rep_tys {l : List String} {v : Value} : Rep ρ (.tys l) v ↔ ∃ a, v = .ref a ∧ ρ a = some { cls := .type "tuple", data := .seq (l.map Value.type).toArray } := Iff.rfl
theorem rep_hit {v : Value} : Rep ρ .hit v ↔ ∃ a o, v = .ref a ∧ ρ a = some o ∧ o.cls = .type "re.Match" := Iff.rfl
theorem rep_list {l : List D} {v : Value} : Rep ρ (.list l) v ↔ ∃ a o vs n, v = .ref a ∧ ρ a = some o ∧ (o.cls = .type "list" ∧ o.dict = none) ∧ o.data = .seq vs n ∧ Reps ρ l vs.toList := Iff.rfl
theorem rep_tuple {l : List D} {v : Value} : Rep ρ (.tuple l) v ↔ ∃ a o vs n, v = .ref a ∧ ρ a = some o ∧ (o.cls = .type "tuple" ∧ o.dict = none) ∧ o.data = .seq vs n ∧ Reps ρ l vs.toList := Iff.rfl
theorem rep_dict {l : List (Str × D)} {v : Value} : Rep ρ (.dict l) v ↔ ∃ a o es n, v = .ref a ∧ ρ a = some o ∧ (o.cls = .type "dict" ∧ o.dict = none ∧ (a == sysModules) = false) ∧ o.data = .dict es n ∧ RepE ρ l es.toList := Iff.rfl
theorem reps_nil {vs : List Value} : Reps ρ [] vs ↔ vs = [] := Iff.rfl
theorem reps_cons {d : D} {ds : List D} {vs : List Value} : Reps ρ (d :: ds) vs ↔ ∃ v r, vs = v :: r ∧ Rep ρ d v ∧ Reps ρ ds r := Iff.rfl
theorem reps_cons' {d : D} {ds : List D} {v : Value} {r : List Value} (h : Rep ρ d v) (t : Reps ρ ds r) : Reps ρ (d :: ds) (v :: r) := reps_cons.mpr ⟨v, r, rfl, h, t⟩
theorem reps_nil' : Reps ρ [] [] := reps_nil.mpr rfl
theorem reps_length : ∀ {ds : List D} {vs : List Value}, Reps ρ ds vs → vs.length = ds.length
  | [], _, h => by rw [reps_nil.mp h]; rfl
  | _ :: _, _, h => by
    refine el_EEAAT (reps_cons.mp h) fun v r hr2 _ h2 => ?_
    subst hr2
    simp [reps_length h2]
theorem reps_append : ∀ {ds es : List D} {vs ws : List Value}, Reps ρ ds vs → Reps ρ es ws → Reps ρ (ds ++ es) (vs ++ ws)
  | [], _, _, _, h, k => by rw [reps_nil.mp h]; exact k
  | _ :: _, _, _, _, h, k => by
    refine el_EEAAT (reps_cons.mp h) fun v r hr2 h1 h2 => ?_
    subst hr2
    exact reps_cons' h1 (reps_append h2 k)
theorem reps_get : ∀ {ds : List D} {vs : List Value} {i : Nat} {d : D}, Reps ρ ds vs → ds[i]? = some d → ∃ v, vs[i]? = some v ∧ Rep ρ d v
  | [], _, _, _, _, e => by simp at e
  | d :: ds, _, 0, _, h, e => by
    refine el_EEAAT (reps_cons.mp h) fun v r hr2 h1 h2 => ?_
    subst hr2
    simp at e; subst e
    exact ⟨v, rfl, h1⟩
  | d :: ds, _, i + 1, _, h, e => by
    refine el_EEAAT (reps_cons.mp h) fun v r hr2 h1 h2 => ?_
    subst hr2
    simp at e
    simpa using reps_get h2 e
theorem reps_get' : ∀ {ds : List D} {vs : List Value} {i : Nat} {v : Value}, Reps ρ ds vs → vs[i]? = some v → ∃ d, ds[i]? = some d ∧ Rep ρ d v := by
  intro ds vs i v h e
  have hl := reps_length h
  refine el_ET (List.getElem?_eq_some_iff.mp e) fun hi _ => ?_
  refine el_EAT (reps_get (i := i) h (List.getElem?_eq_getElem (by omega))) fun v' e' r => ?_
  rw [e] at e'; cases e'
  exact ⟨_, List.getElem?_eq_getElem (by omega), r⟩
theorem reps_drop : ∀ {ds : List D} {vs : List Value} (k : Nat), Reps ρ ds vs → Reps ρ (ds.drop k) (vs.drop k)
  | _, _, 0, h => by simpa using h
  | [], _, k + 1, h => by rw [reps_nil.mp h]; exact reps_nil'
  | _ :: _, _, k + 1, h => by
    refine el_EEAAT (reps_cons.mp h) fun v r hr2 h1 h2 => ?_
    subst hr2
    simpa using reps_drop k h2
theorem reps_take : ∀ {ds : List D} {vs : List Value} (k : Nat), Reps ρ ds vs → Reps ρ (ds.take k) (vs.take k)
  | _, _, 0, h => by simpa using reps_nil'
  | [], _, k + 1, h => by rw [reps_nil.mp h]; exact reps_nil'
  | _ :: _, _, k + 1, h => by
    refine el_EEAAT (reps_cons.mp h) fun v r hr2 h1 h2 => ?_
    subst hr2
    simpa using reps_cons' h1 (reps_take k h2)
end

noncomputable def Vw (h : Heap) (hid : List Addr) : PH := fun a => if a ∈ hid then none else h.get? a

theorem Vw.of {h : Heap} {hid : List Addr} {a : Addr} {o : Obj} (e : Vw h hid a = some o) : h.get? a = some o := by
  unfold Vw at e
  split at e
  · cases e
  · exact e
theorem Vw.nin {h : Heap} {hid : List Addr} {a : Addr} {o : Obj} (e : Vw h hid a = some o) : a ∉ hid := by
  unfold Vw at e
  split at e
  · cases e
  · assumption
theorem Vw.mk {h : Heap} {hid : List Addr} {a : Addr} {o : Obj} (e : h.get? a = some o) (n : a ∉ hid) : Vw h hid a = some o := by
  unfold Vw; rw [if_neg n]; exact e
theorem Vw.less {h : Heap} {hid hid' : List Addr} (s : ∀ a ∈ hid', a ∈ hid) : PH.le (Vw h hid) (Vw h hid') :=
  fun _ _ e => Vw.mk (Vw.of e) fun q => Vw.nin e (s _ q)

noncomputable def Gr (fa W : List Addr) (h h' : Heap) : Prop :=
  ∀ b o, h.get? b = some o → b ∉ W → (∃ sl, h'.get? b = some { o with slots := sl }) ∧ (b ∉ fa → h'.get? b = some o)

theorem Gr.refl (fa W : List Addr) (h : Heap) : Gr fa W h h := fun _ o e _ => ⟨⟨o.slots, e⟩, fun _ => e⟩
theorem Gr.trans {fa W : List Addr} {h₁ h₂ h₃ : Heap} (x : Gr fa W h₁ h₂) (y : Gr fa W h₂ h₃) : Gr fa W h₁ h₃ := fun b o e n => by
  refine el_AT (x b o e n) fun hn0 k₁ => ?_
  obtain ⟨sl, e₁⟩ := hn0
  refine el_AT (y b _ e₁ n) fun hn0 _ => ?_
  obtain ⟨sl₂, e₂⟩ := hn0
  exact ⟨⟨sl₂, e₂⟩, fun q => (y b o (k₁ q) n).2 q⟩
theorem Gr.mono {fa W W' : List Addr} {h h' : Heap} (x : Gr fa W h h') (s : ∀ a ∈ W, a ∈ W') : Gr fa W' h h' := fun b o e n => x b o e fun q => n (s b q)
theorem Gr.of_keeps {fa W : List Addr} {h h' : Heap} (k : ∀ b o, b ∉ W → h.get? b = some o → h'.get? b = some o) : Gr fa W h h' := fun b o e n => ⟨⟨o.slots, k b o n e⟩, fun _ => k b o n e⟩
theorem Gr.keeps0 {fa : List Addr} {h h' : Heap} (k : ∀ b o, h.get? b = some o → h'.get? b = some o) : Gr fa [] h h' := Gr.of_keeps fun b o _ e => k b o e
theorem Gr.push {fa W : List Addr} {h : Heap} (o : Obj) : Gr fa W h (h.push o) := Gr.of_keeps fun _ _ _ e => Heap.get?_push_of_some _ e
theorem Gr.sameBut {fa : List Addr} {a : Addr} {h h' : Heap} (x : Heap.SameBut a h h') : Gr fa [a] h h' := Gr.of_keeps fun b _ n e => x.extBut b _ (fun q => n (by simp [q])) e
theorem Gr.alive {fa W : List Addr} {h h' : Heap} (x : Gr fa W h h') {b : Addr} (n : b ∉ W) (e : ∃ o, h.get? b = some o) : ∃ o, h'.get? b = some o := by
  refine el_ET (e) fun o e => ?_
  refine el_AT (x b o e n) fun hn0 _ => ?_
  obtain ⟨sl, e'⟩ := hn0
  exact ⟨_, e'⟩
theorem Gr.ns {fa W : List Addr} {h h' : Heap} (x : Gr fa W h h') {a : Addr} {m : Str → Option Value} (n : a ∉ W) (hn : h.Ns a m) : h'.Ns a m := by
  refine el_EEEAAT (hn) fun o es ep e hd r => ?_
  refine el_AT (x a o e n) fun hn0 _ => ?_
  obtain ⟨sl, e'⟩ := hn0
  exact ⟨_, es, ep, e', hd, r⟩
theorem Gr.cell {fa W : List Addr} {h h' : Heap} (x : Gr fa W h h') {a : Addr} {v : Option Value} (n : a ∉ W) (hn : h.IsCell a v) : h'.IsCell a v := by
  refine el_EAT (hn) fun o e hd => ?_
  refine el_AT (x a o e n) fun hn0 _ => ?_
  obtain ⟨sl, e'⟩ := hn0
  exact ⟨_, e', hd⟩
theorem Gr.funFrames {fa W : List Addr} {h h' base : Heap} (x : Gr fa W h h') : ∀ {l : List Env}, h.FunFrames base l → (∀ a ∈ l.filterMap (·.frame), a ∉ W) → h'.FunFrames base l
  | [], _, _ => trivial
  | env :: rest, ⟨hk, ⟨L, o, hf, hn, ho, hd⟩, hr⟩, hW => by
    have hL : L ∉ W := hW L (by simp [hf])
    refine el_AT (x L o ho hL) fun hn0 _ => ?_
    obtain ⟨sl, e'⟩ := hn0
    exact ⟨hk, ⟨L, _, hf, hn, e', hd⟩, Gr.funFrames x hr fun a ha => hW a (by rw [List.filterMap_cons, hf]; exact List.mem_cons_of_mem _ ha)⟩

theorem Vw.grow {fa W hid : List Addr} {h h' : Heap} (x : Gr fa W h h') (hW : ∀ a ∈ W, a ∈ hid) (hf : ∀ a ∈ fa, a ∈ hid) : PH.le (Vw h hid) (Vw h' hid) := fun a o e =>
  Vw.mk ((x a o (Vw.of e) fun q => Vw.nin e (hW a q)).2 fun q => Vw.nin e (hf a q)) (Vw.nin e)

noncomputable abbrev faOf (fl : List Env) : List Addr := fl.filterMap (·.frame)

structure Cx (base : Heap) (A : Around) (fl : List Env) (hid : List Addr) (h : Heap) : Prop where
  fr : A.frames = some fl
  hd : A.handled = none
  ff : h.FunFrames base fl
  stays : base.StaysIn h
  fhid : ∀ a ∈ faOf fl, a ∈ hid
  live : ∀ a ∈ hid, ∃ o, h.get? a = some o
  nob : ∀ a ∈ hid, base.get? a = none

theorem Gr.stays {fa W : List Addr} {base h h' : Heap} (x : Gr fa W h h') (hb : base.StaysIn h) (hW : ∀ a ∈ W, base.get? a = none) (hf : ∀ a ∈ fa, base.get? a = none) : base.StaysIn h' := fun b o e => by
  refine (x b o (hb b o e) fun q => ?_).2 fun q => ?_
  · rw [hW b q] at e; cases e
  · rw [hf b q] at e; cases e

theorem Cx.grow {base : Heap} {A : Around} {fl : List Env} {hid : List Addr} {h h' : Heap} (c : Cx base A fl hid h) (x : Gr (faOf fl) [] h h') : Cx base A fl hid h' where
  fr := c.fr
  hd := c.hd
  ff := x.funFrames c.ff (by simp)
  stays := x.stays c.stays (by simp) fun a ha => c.nob a (c.fhid a ha)
  fhid := c.fhid
  live := fun a ha => x.alive (by simp) (c.live a ha)
  nob := c.nob

theorem Cx.view {base : Heap} {A : Around} {fl : List Env} {hid : List Addr} {h h' : Heap} (c : Cx base A fl hid h) (x : Gr (faOf fl) [] h h') : PH.le (Vw h hid) (Vw h' hid) :=
  Vw.grow x (by simp) c.fhid
theorem Cx.fresh {base : Heap} {A : Around} {fl : List Env} {hid : List Addr} {h : Heap} (c : Cx base A fl hid h) {a : Addr} (e : h.get? a = none) : a ∉ hid := fun q => by
  refine el_ET (c.live a q) fun o e' => ?_
  rw [e] at e'; cases e'
theorem Cx.size {base : Heap} {A : Around} {fl : List Env} {hid : List Addr} {h : Heap} (c : Cx base A fl hid h) : h.objs.size ∉ hid := c.fresh (Heap.get?_none_of_le (Nat.le_refl _))

noncomputable def Var (h : Heap) (env : Env) (x : Str) (v : Value) : Prop :=
  (env.kindOf x = some .local ∧ ∃ m, h.Ns env.locals m ∧ m x = some v) ∨
  (env.kindOf x = some .cell ∧ ∃ c, env.cells.lookup x = some c ∧ h.IsCell c (some v)) ∨
  (env.kindOf x = some .free ∧ (x == ("__classdict__" : Str)) = false ∧ ∃ c, env.cells.lookup x = some c ∧ h.IsCell c (some v))

theorem Var.grow {fa W : List Addr} {h h' : Heap} {env : Env} {x : Str} {v : Value} (y : Var h env x v) (g : Gr fa W h h') (hL : env.locals ∉ W) (hc : ∀ n c, env.cells.lookup n = some c → c ∉ W) : Var h' env x v := by
  rcases y with ⟨k, m, hn, hm⟩ | ⟨k, c, hl, hv⟩ | ⟨k, q, c, hl, hv⟩
  · exact .inl ⟨k, m, g.ns hL hn, hm⟩
  · exact .inr (.inl ⟨k, c, hl, g.cell (hc _ _ hl) hv⟩)
  · exact .inr (.inr ⟨k, q, c, hl, g.cell (hc _ _ hl) hv⟩)
theorem Var.grow0 {fa : List Addr} {h h' : Heap} {env : Env} {x : Str} {v : Value} (y : Var h env x v) (g : Gr fa [] h h') : Var h' env x v := y.grow g (by simp) (by simp)

noncomputable def VarsOK (h : Heap) (hid : List Addr) (env : Env) (σ : Vs) : Prop := ∀ x d, σ.lookup x = some d → ∃ v, Var h env x v ∧ Rep (Vw h hid) d v

theorem VarsOK.grow {base : Heap} {A : Around} {fl : List Env} {hid : List Addr} {h h' : Heap} {env : Env} {σ : Vs} (y : VarsOK h hid env σ) (c : Cx base A fl hid h) (g : Gr (faOf fl) [] h h') : VarsOK h' hid env σ := fun x d e => by
  refine el_EAT (y x d e) fun v a b => ?_
  exact ⟨v, a.grow0 g, b.mono (c.view g)⟩

structure EnvOK (env : Env) (sc : Scope) : Prop where
  kind : env.scope.kind = .function
  gl : env.globals = mainGlobals
  bl : env.builtins = builtinsNs
  glob : ∀ x, sc.names.lookup x = some .globalImplicit → env.kindOf x = some .globalImplicit
  cell : ∀ x, sc.names.lookup x = some .cell → env.kindOf x = some .cell ∧ ∃ c, env.cells.lookup x = some c

structure Xc (fl : List Env) (h : Heap) (e : Addr) (c : Value) (m : Str) (h' : Heap) : Prop where
  gr : Gr (faOf fl) [] h h'
  new : h.get? e = none
  there : ∃ oe vs a0, h'.get? e = some oe ∧ oe.cls = c ∧ oe.data = .fields vs ∧ vs[0]? = some a0 ∧ ((∃ C, c = .ref C) → ∃ t ta, a0 = .ref t ∧ h.get? t = none ∧ h'.TupAt t [.str m ta]) ∧
    (vs[1]? = some .none ∨ ∃ T oT ts, vs[1]? = some (.ref T) ∧ h.get? T = none ∧ T ≠ e ∧ h'.get? T = some oT ∧ oT.data = .fields ts ∧ ts[3]? = some .none)

noncomputable def Fin (fl : List Env) (hid : List Addr) (s : Shared) (r : R D) (Q E : Value → Shared → Prop) : Prop := match r with
  | .ok d => ∀ v h' tk, Gr (faOf fl) [] s.heap h' → Rep (Vw h' hid) d v → Q v { s with heap := h', toks := tk }
  | .exc c m => ∀ e h' tk, Xc fl s.heap e c m h' → E (.ref e) { s with heap := h', toks := tk }
  | .bad => False

end Mine
end
section
namespace Mine

noncomputable def FinT {α β : Type} (fl : List Env) (s : Shared) (r : R α) (P : α → β → Heap → Prop) (Q : β → Shared → Prop) (E : Value → Shared → Prop) : Prop := match r with
  | .ok d => ∀ v h' tk, Gr (faOf fl) [] s.heap h' → P d v h' → Q v { s with heap := h', toks := tk }
  | .exc c m => ∀ e h' tk, Xc fl s.heap e c m h' → E (.ref e) { s with heap := h', toks := tk }
  | .bad => False

theorem Xc.shift {fl : List Env} {h h₁ h' : Heap} {e : Addr} {c : Value} {m : Str} (x : Xc fl h₁ e c m h') (g : Gr (faOf fl) [] h h₁) : Xc fl h e c m h' := by
  have new : ∀ b, h₁.get? b = none → h.get? b = none := fun b q => by
    cases z : h.get? b with
    | none => rfl
    | some o =>
      refine el_AT (g b o z (by simp)) fun hn0 _ => ?_
      obtain ⟨sl, e'⟩ := hn0
      rw [q] at e'; cases e'
  refine el_EEEAAAAAT (x.there) fun oe vs a0 h1 h2 h3 h4 h5 h6 => ?_
  refine ⟨g.trans x.gr, new _ x.new, oe, vs, a0, h1, h2, h3, h4, fun q => ?_, ?_⟩
  · refine el_EEAAT (h5 q) fun t ta r1 r2 r3 => ?_
    exact ⟨t, ta, r1, new _ r2, r3⟩
  · rcases h6 with h6 | ⟨T, oT, ts, r1, r2, r3⟩
    · exact .inl h6
    · exact .inr ⟨T, oT, ts, r1, new _ r2, r3⟩

theorem FinT.shift {α β : Type} {fl : List Env} {s : Shared} {r : R α} {P : α → β → Heap → Prop} {Q : β → Shared → Prop} {E : Value → Shared → Prop} {h₁ : Heap} {tk : Nat} (f : FinT fl s r P Q E) (g : Gr (faOf fl) [] s.heap h₁) :
    FinT fl { s with heap := h₁, toks := tk } r P Q E := by
  cases r with
  | ok d => exact fun v h' tk' g' p => f v h' tk' (g.trans g') p
  | exc c m => exact fun e h' tk' x => f e h' tk' (x.shift g)
  | bad => exact f

noncomputable def Does {α β : Type} (M : Model) (A : Around) (fl : List Env) (s : Shared) (m : Sem β) (r : R α) (P : α → β → Heap → Prop) : Prop := ∀ Q E, FinT fl s r P Q E → wpAny M A m Q E s

theorem Does.use {α β γ δ : Type} {M : Model} {A : Around} {fl : List Env} {s : Shared} {m : Sem β} {r : R α} {P : α → β → Heap → Prop} {f : α → R γ} {P₂ : γ → δ → Heap → Prop} {Q₂ : δ → Shared → Prop} {E : Value → Shared → Prop} {Q : β → Shared → Prop}
    (d : Does M A fl s m r P) (fin : FinT fl s (r.bind f) P₂ Q₂ E)
    (k : ∀ a b h' tk, r = .ok a → Gr (faOf fl) [] s.heap h' → P a b h' → FinT fl { s with heap := h', toks := tk } (f a) P₂ Q₂ E → Q b { s with heap := h', toks := tk }) : wpAny M A m Q E s := by
  refine d Q E ?_
  cases r with
  | ok a => exact fun v h' tk g p => k a v h' tk rfl g p (FinT.shift (r := f a) fin g)
  | exc c m => exact fin
  | bad => exact fin.elim

theorem FinT.ret {α β : Type} {fl : List Env} {s : Shared} {a : α} {P : α → β → Heap → Prop} {Q : β → Shared → Prop} {E : Value → Shared → Prop} (f : FinT fl s (.ok a) P Q E) {b : β} {tk : Nat} (p : P a b s.heap) : Q b { s with toks := tk } :=
  f b s.heap tk (Gr.refl _ _ _) p
theorem FinT.bad {α β : Type} {fl : List Env} {s : Shared} {P : α → β → Heap → Prop} {Q : β → Shared → Prop} {E : Value → Shared → Prop} {X : Prop} (f : FinT fl s (.bad : R α) P Q E) : X := False.elim f
theorem FinT.map {α γ β δ : Type} {fl : List Env} {s : Shared} {r : R α} {φ : α → γ} {P : γ → β → Heap → Prop} {P' : α → δ → Heap → Prop} {Q : β → Shared → Prop} {Q' : δ → Shared → Prop} {E : Value → Shared → Prop} (f : FinT fl s (r.map φ) P Q E)
    (k : ∀ a b h' tk, r = .ok a → Gr (faOf fl) [] s.heap h' → P' a b h' → (∀ v h'' tk', Gr (faOf fl) [] h' h'' → P (φ a) v h'' → Q v { s with heap := h'', toks := tk' }) → Q' b { s with heap := h', toks := tk }) : FinT fl s r P' Q' E := by
  cases r with
  | ok a => exact fun v h' tk g p => k a v h' tk rfl g p fun v' h'' tk' g' p' => f v' h'' tk' (g.trans g') p'
  | exc c m => exact f
  | bad => exact f

section
variable {α β γ : Type} {fl : List Env} {s : Shared} {P : α → β → Heap → Prop} {Q : β → Shared → Prop} {E : Value → Shared → Prop} {X : Prop}
theorem FinT.ofB {o : Option γ} {k : γ → Option α} (f : FinT fl s (R.of (o.bind k)) P Q E) (c : ∀ a, o = some a → FinT fl s (R.of (k a)) P Q E → X) : X := by
  cases o with
  | none => exact f.elim
  | some a => exact c a rfl f
theorem FinT.ofM {o : Option γ} {k : γ → α} (f : FinT fl s (R.of (o.map k)) P Q E) (c : ∀ a, o = some a → FinT fl s (.ok (k a)) P Q E → X) : X := by
  cases o with
  | none => exact f.elim
  | some a => exact c a rfl f
theorem FinT.ofR {o : Option γ} {k : γ → R α} (f : FinT fl s ((R.of o).bind k) P Q E) (c : ∀ a, o = some a → FinT fl s (k a) P Q E → X) : X := by
  cases o with
  | none => exact f.elim
  | some a => exact c a rfl f
theorem FinT.ofI {p : Prop} [Decidable p] {o : Option α} (f : FinT fl s (R.of (if p then o else none)) P Q E) (c : p → FinT fl s (R.of o) P Q E → X) : X := by
  by_cases h : p
  · rw [if_pos h] at f; exact c h f
  · rw [if_neg h] at f; exact f.elim
theorem FinT.ofI' {o : Option α} (f : FinT fl s (R.of o) P Q E) (c : ∀ a, o = some a → FinT fl s (.ok a) P Q E → X) : X := by
  cases o with
  | none => exact f.elim
  | some a => exact c a rfl f
theorem FinT.ite {p : Prop} [Decidable p] {o : R α} (f : FinT fl s (if p then o else .bad) P Q E) (c : p → FinT fl s o P Q E → X) : X := by
  by_cases h : p
  · rw [if_pos h] at f; exact c h f
  · rw [if_neg h] at f; exact f.elim
theorem FinT.itn {p : Prop} [Decidable p] {o : R α} (f : FinT fl s (if p then .bad else o) P Q E) (c : ¬ p → FinT fl s o P Q E → X) : X := by
  by_cases h : p
  · rw [if_pos h] at f; exact f.elim
  · rw [if_neg h] at f; exact c h f
theorem FinT.val {a : α} (f : FinT fl s (.ok a) P Q E) {b : β} (p : P a b s.heap) : Q b s := f b s.heap s.toks (Gr.refl _ _ _) p
end
section
variable {α β : Type} {fl : List Env} {s : Shared} {P : α → β → Heap → Prop} {Q : β → Shared → Prop} {E : Value → Shared → Prop} {ρ : PH} {d : D} {v : Value} {X : Value → Prop}
@[elab_as_elim] theorem rep_i {d : D} {i : Int} (r : Rep ρ d v) (h : d.int? = some i) (c : ∀ t, X (.int i t)) : X v := by
  rw [D.int?_s h] at r
  refine el_ET (rep_int.mp r) fun t hr1 => ?_
  subst hr1
  exact c t
@[elab_as_elim] theorem rep_s {d : D} {i : Str} (r : Rep ρ d v) (h : d.str? = some i) (c : ∀ t, X (.str i t)) : X v := by
  rw [D.str?_s h] at r
  refine el_ET (rep_str.mp r) fun t hr1 => ?_
  subst hr1
  exact c t
@[elab_as_elim] theorem rep_y {d : D} {i : Array UInt8} (r : Rep ρ d v) (h : d.bytes? = some i) (c : ∀ t, X (.bytes i t)) : X v := by
  rw [D.bytes?_s h] at r
  refine el_ET (rep_bytes.mp r) fun t hr1 => ?_
  subst hr1
  exact c t
@[elab_as_elim] theorem FinT.int {k : Int → Option α} (r : Rep ρ d v) (f : FinT fl s (R.of (d.int?.bind k)) P Q E) (c : ∀ i t, FinT fl s (R.of (k i)) P Q E → X (.int i t)) : X v :=
  f.ofB fun i h f => rep_i r h fun t => c i t f
@[elab_as_elim] theorem FinT.str {k : Str → Option α} (r : Rep ρ d v) (f : FinT fl s (R.of (d.str?.bind k)) P Q E) (c : ∀ i t, FinT fl s (R.of (k i)) P Q E → X (.str i t)) : X v :=
  f.ofB fun i h f => rep_s r h fun t => c i t f
@[elab_as_elim] theorem FinT.bytes {k : Array UInt8 → Option α} (r : Rep ρ d v) (f : FinT fl s (R.of (d.bytes?.bind k)) P Q E) (c : ∀ i t, FinT fl s (R.of (k i)) P Q E → X (.bytes i t)) : X v :=
  f.ofB fun i h f => rep_y r h fun t => c i t f
@[elab_as_elim] theorem FinT.type {k : String → Option α} (r : Rep ρ d v) (f : FinT fl s (R.of (d.type?.bind k)) P Q E) (c : ∀ i, FinT fl s (R.of (k i)) P Q E → X (.type i)) : X v :=
  f.ofB fun i h f => by
    rw [D.type?_s h] at r
    rw [rep_type.mp r]
    exact c i f
@[elab_as_elim] theorem Rep.int (r : Rep ρ (.int i) v) (c : ∀ t, X (.int i t)) : X v := by
  refine el_ET (rep_int.mp r) fun t hr1 => ?_
  subst hr1
  exact c t
@[elab_as_elim] theorem Rep.str (r : Rep ρ (.str i) v) (c : ∀ t, X (.str i t)) : X v := by
  refine el_ET (rep_str.mp r) fun t hr1 => ?_
  subst hr1
  exact c t
@[elab_as_elim] theorem Rep.bytes (r : Rep ρ (.bytes i) v) (c : ∀ t, X (.bytes i t)) : X v := by
  refine el_ET (rep_bytes.mp r) fun t hr1 => ?_
  subst hr1
  exact c t
@[elab_as_elim] theorem Rep.type (r : Rep ρ (.type i) v) (c : X (.type i)) : X v := by
  rw [rep_type.mp r]; exact c
@[elab_as_elim] theorem Rep.bi {i : String} (r : Rep ρ (.bi i) v) (c : X (.builtin i)) : X v := by
  rw [rep_bi.mp r]; exact c
@[elab_as_elim] theorem Rep.none (r : Rep ρ .none v) (c : X .none) : X v := by
  rw [rep_none.mp r]; exact c
@[elab_as_elim] theorem Rep.bool {i : Bool} (r : Rep ρ (.bool i) v) (c : X (.bool i)) : X v := by
  rw [rep_bool.mp r]; exact c
@[elab_as_elim] theorem Rep.obj {i : Addr} (r : Rep ρ (.obj i) v) (c : X (.ref i)) : X v := by
  rw [rep_obj.mp r]; exact c
end

theorem R.of_bind {α β : Type} {X : Prop} {o : Option α} {f : α → R β} {b : β} (h : (R.of o).bind f = .ok b) (k : ∀ a, o = some a → f a = .ok b → X) : X := by
  cases o with
  | none => cases h
  | some a => exact k a rfl h
theorem R.if_ok {α : Type} {p : Prop} [Decidable p] {r : R α} {b : α} (h : (if p then r else .bad) = .ok b) : p ∧ r = .ok b := by
  by_cases q : p
  · rw [if_pos q] at h; exact ⟨q, h⟩
  · rw [if_neg q] at h; cases h
theorem mapR_length {α β : Type} {f : α → R β} : ∀ {l : List α} {r : List β}, mapR f l = .ok r → r.length = l.length
  | [], r, h => by cases h; rfl
  | x :: l, r, h => by
    rw [mapR_c] at h
    cases hx : f x with
    | ok y =>
      rw [hx] at h
      simp only [R.bind] at h
      cases hr : mapR f l with
      | ok z => rw [hr] at h; cases h; simp [mapR_length hr]
      | exc c m => rw [hr] at h; cases h
      | bad => rw [hr] at h; cases h
    | exc c m => rw [hx] at h; cases h
    | bad => rw [hx] at h; cases h

noncomputable abbrev PV (hid : List Addr) : D → Value → Heap → Prop := fun d v h => Rep (Vw h hid) d v
noncomputable abbrev PVs (hid : List Addr) : List D → List Value → Heap → Prop := fun d v h => Reps (Vw h hid) d v
noncomputable abbrev PB : Bool → Bool → Heap → Prop := fun b c _ => c = b

structure Rm (A : Around) (n : Nat) : Prop where
  depth : A.depth + n < recursionLimit
  units : A.units + 20 * n + 200 < cLine
theorem Rm.le {A : Around} {n k : Nat} (r : Rm A n) (h : k ≤ n) : Rm A k := ⟨by have := r.depth; omega, by have := r.units; omega⟩
theorem Rm.deeper {A : Around} {n : Nat} {env : Env} (r : Rm A (n + 1)) : Rm (A.deeper env) n := ⟨by have := r.depth; show A.depth + 1 + n < _; omega, by have := r.units; show A.units + 3 + 20 * n + 200 < _; omega⟩
end Mine
end
section
namespace Mine

section
variable {prog : Program} {w : World} {A : Around} {fl : List Env} {hid : List Addr} {s : Shared} {base : Heap} {α β : Type}

theorem big_le : big ≤ sizeLine := by decide +kernel

theorem rep_isList {l : List D} {v : Value} {h : Heap} (r : Rep (Vw h hid) (.list l) v) : ∃ a vs, v = .ref a ∧ a ∉ hid ∧ h.IsList a vs ∧ Reps (Vw h hid) l vs.toList := by
  refine el_EEEEAAAAT (rep_list.mp r) fun a o vs n hr4 ho hc hd hr => ?_
  subst hr4
  exact ⟨a, vs, rfl, Vw.nin ho, ⟨o, Vw.of ho, hc.1, n, hd⟩, hr⟩
theorem rep_isTup {l : List D} {v : Value} {h : Heap} (r : Rep (Vw h hid) (.tuple l) v) : ∃ a vs, v = .ref a ∧ a ∉ hid ∧ h.IsTuple a vs ∧ Reps (Vw h hid) l vs.toList := by
  refine el_EEEEAAAAT (rep_tuple.mp r) fun a o vs n hr4 ho hc hd hr => ?_
  subst hr4
  exact ⟨a, vs, rfl, Vw.nin ho, ⟨o, Vw.of ho, hc.1, n, hd⟩, hr⟩
@[elab_as_elim] theorem Rep.list {X : Value → Prop} {l : List D} {v : Value} {h : Heap} (r : Rep (Vw h hid) (.list l) v) (c : ∀ a vs, a ∉ hid → h.IsList a vs → Reps (Vw h hid) l vs.toList → X (.ref a)) : X v := by
  refine el_EEAAAT (rep_isList r) fun a vs hr2 n hl rl => ?_
  subst hr2
  exact c a vs n hl rl
@[elab_as_elim] theorem Rep.tuple {X : Value → Prop} {l : List D} {v : Value} {h : Heap} (r : Rep (Vw h hid) (.tuple l) v) (c : ∀ a vs, a ∉ hid → h.IsTuple a vs → Reps (Vw h hid) l vs.toList → X (.ref a)) : X v := by
  refine el_EEAAAT (rep_isTup r) fun a vs hr2 n hl rl => ?_
  subst hr2
  exact c a vs n hl rl
@[elab_as_elim] theorem FinT.list {X : Value → Prop} {d : D} {v : Value} {h : Heap} {k : List D → Option α} {P : α → β → Heap → Prop} {Q : β → Shared → Prop} {E : Value → Shared → Prop} (r : Rep (Vw h hid) d v) (f : FinT fl s (R.of (d.list?.bind k)) P Q E) (c : ∀ l a vs, a ∉ hid → h.IsList a vs → Reps (Vw h hid) l vs.toList → FinT fl s (R.of (k l)) P Q E → X (.ref a)) : X v :=
  f.ofB fun l e f => by
    rw [D.list?_s e] at r
    exact r.list fun a vs n hl rl => c l a vs n hl rl f
theorem reps1 {X : List Value → Prop} {ρ : PH} {args : List D} {vs : List Value} {d : D} (r : Reps ρ args vs) (h : one? args = some d) (c : ∀ v, Rep ρ d v → X [v]) : X vs := by
  rw [one?_s h] at r
  refine el_EEAAT (reps_cons.mp r) fun v r' hr2 h1 h2 => ?_
  subst hr2
  rw [reps_nil.mp h2]; exact c v h1
theorem reps2 {X : List Value → Prop} {ρ : PH} {args : List D} {vs : List Value} {p : D × D} (r : Reps ρ args vs) (h : two? args = some p) (c : ∀ v u, Rep ρ p.1 v → Rep ρ p.2 u → X [v, u]) : X vs := by
  rw [two?_s (a := p.1) (b := p.2) h] at r
  refine el_EEAAT (reps_cons.mp r) fun v r' hr2 h1 h2 => ?_
  subst hr2
  refine el_EEAAT (reps_cons.mp h2) fun u r'' hr2 h3 h4 => ?_
  subst hr2
  rw [reps_nil.mp h4]; exact c v u h1 h3
@[elab_as_elim] theorem FinT.one {X : List Value → Prop} {ρ : PH} {args : List D} {vs : List Value} {k : D → Option α} {P : α → β → Heap → Prop} {Q : β → Shared → Prop} {E : Value → Shared → Prop} (r : Reps ρ args vs) (f : FinT fl s (R.of ((one? args).bind k)) P Q E) (c : ∀ d v, Rep ρ d v → FinT fl s (R.of (k d)) P Q E → X [v]) : X vs :=
  f.ofB fun d h f => reps1 r h fun v r => c d v r f
@[elab_as_elim] theorem FinT.two {X : List Value → Prop} {ρ : PH} {args : List D} {vs : List Value} {k : D × D → Option α} {P : α → β → Heap → Prop} {Q : β → Shared → Prop} {E : Value → Shared → Prop} (r : Reps ρ args vs) (f : FinT fl s (R.of ((two? args).bind k)) P Q E) (c : ∀ p v u, Rep ρ p.1 v → Rep ρ p.2 u → FinT fl s (R.of (k p)) P Q E → X [v, u]) : X vs :=
  f.ofB fun d h f => reps2 r h fun v u r r' => c d v u r r' f
@[elab_as_elim] theorem FinT.nil {X : List Value → Prop} {ρ : PH} {args : List D} {vs : List Value} {o : Option α} {P : α → β → Heap → Prop} {Q : β → Shared → Prop} {E : Value → Shared → Prop} (r : Reps ρ args vs) (f : FinT fl s (R.of (if args.isEmpty then o else none)) P Q E) (c : FinT fl s (R.of o) P Q E → X []) : X vs :=
  f.ofI fun h f => by
    rw [List.isEmpty_iff.mp h] at r
    rw [reps_nil.mp r]; exact c f
theorem rep_of_isList {l : List D} {h : Heap} {a : Addr} {vs : Array Value} {k : Nat} (hl : h.get? a = some { cls := .type "list", data := .seq vs k }) (n : a ∉ hid) (r : Reps (Vw h hid) l vs.toList) : Rep (Vw h hid) (.list l) (.ref a) := by
  exact rep_list.mpr ⟨a, _, vs, k, rfl, Vw.mk hl n, ⟨rfl, rfl⟩, rfl, r⟩
theorem rep_of_isTup {l : List D} {h : Heap} {a : Addr} {vs : Array Value} {k : Nat} (hl : h.get? a = some { cls := .type "tuple", data := .seq vs k }) (n : a ∉ hid) (r : Reps (Vw h hid) l vs.toList) : Rep (Vw h hid) (.tuple l) (.ref a) := by
  exact rep_tuple.mpr ⟨a, _, vs, k, rfl, Vw.mk hl n, ⟨rfl, rfl⟩, rfl, r⟩

theorem Cx.newList (c : Cx base A fl hid s.heap) {l : List D} {vs : Array Value} {n : Nat} (r : Reps (Vw s.heap hid) l vs.toList) :
    Rep (Vw (s.heap.push { cls := .type "list", data := .seq vs n }) hid) (.list l) (.ref s.heap.objs.size) :=
  rep_of_isList (Heap.get?_push_size _ rfl) c.size (r.mono (c.view (Gr.push _)))
theorem Cx.newTuple (c : Cx base A fl hid s.heap) {l : List D} {vs : Array Value} {n : Nat} (r : Reps (Vw s.heap hid) l vs.toList) :
    Rep (Vw (s.heap.push { cls := .type "tuple", data := .seq vs n }) hid) (.tuple l) (.ref s.heap.objs.size) :=
  rep_of_isTup (Heap.get?_push_size _ rfl) c.size (r.mono (c.view (Gr.push _)))

theorem reps_repL {ρ : PH} {l : List D} {vs : List Value} (r : Reps ρ l vs) : ∀ n : Nat, Reps ρ (repL l n) (List.replicate n vs).flatten
  | 0 => by simpa [repL] using reps_nil'
  | n + 1 => by simpa [repL, List.replicate_succ] using reps_append r (reps_repL r n)

theorem repL_flatten {γ : Type} (l : List γ) : ∀ n : Nat, repL l n = (List.replicate n l).flatten
  | 0 => rfl
  | n + 1 => by simp [repL, List.replicate_succ, repL_flatten l n]

set_option tactic.hygienic true in
theorem add_does (c : Cx base A fl hid s.heap) {a b : D} {va vb : Value} (ra : Rep (Vw s.heap hid) a va) (rb : Rep (Vw s.heap hid) b vb) :
    Does (model prog w) A fl s (binaryOp .Add va vb) (R.of (addD a b)) (PV hid) := by
  intro Q E f
  cases a
  case int x => exact FinT.int rb f fun y u f => ra.int fun t => P.add_int (f.ret (rep_int.mpr ⟨_, rfl⟩))
  case str x => exact FinT.str rb f fun y u f => ra.str fun t => f.ofI fun hs f => PyProof.Rows.add_str (fun t' tk => f.ret (rep_str.mpr ⟨_, rfl⟩)) (Nat.le_trans hs big_le)
  case list x =>
    refine FinT.list rb f fun y m ws nm hm rm f => ra.list fun l vs nl hl rl => f.ofI fun hs f => ?_
    refine el_EAAET (hl) fun hn0 ho hc n hd => ?_
    obtain ⟨cls, dd, data, sl⟩ := hn0
    refine el_EAAET (hm) fun hn0 ho2 hc2 n2 hd2 => ?_
    obtain ⟨cls2, dd2, data2, sl2⟩ := hn0
    simp only at hc hd hc2 hd2
    subst hc hd hc2 hd2
    have e1 : vs.size = x.length := by rw [← reps_length rl]; simp
    have e2 : ws.size = y.length := by rw [← reps_length rm]; simp
    refine concat_meets ⟨_, ho, rfl⟩ ⟨_, ho2, rfl⟩ noFill_list_add seq_list_add PySem.F.slot_list_add PySem.F.entry_list_add (PySem.F.args_list_add_2 _ _) (list_addW l m vs ws n n2 dd dd2 sl sl2 (by have := big_le; omega)) ⟨ho, ho2, ?_⟩
    refine f _ _ _ (Gr.push _) (c.newList ?_)
    rw [Array.toList_append]
    exact reps_append rl rm
  all_goals exact f.elim

theorem mul_does (c : Cx base A fl hid s.heap) {a b : D} {va vb : Value} (ra : Rep (Vw s.heap hid) a va) (rb : Rep (Vw s.heap hid) b vb) :
    Does (model prog w) A fl s (binaryOp .Mult va vb) (R.of (mulD a b)) (PV hid) := by
  intro Q E f
  refine FinT.int rb f fun y u f => ?_
  cases a with
  | int x => exact ra.int fun t => f.ofI fun h1 f => f.ofI fun h2 f => P.mul_int (f.ret (rep_int.mpr ⟨_, rfl⟩)) (IntMulOk.of_left (PyProof.Rows.intBits_le h2))
  | list x =>
    refine ra.list fun l vs nl hl rl => f.ofI fun h1 f => f.ofI fun h2 f => ?_
    refine el_EAAET (hl) fun hn0 ho hc k hd => ?_
    obtain ⟨cls, d, data, sl⟩ := hn0
    simp only at hc hd
    subst hc hd
    have e1 : vs.size = x.length := by rw [← reps_length rl]; simp
    have hb : vs.size * y.toNat ≤ 2 ^ 24 := by rw [e1]; exact Nat.le_trans h2 (by decide)
    refine wpAny_binaryOp_repeat_ref (T := "list") (U := "int") (by decide) ⟨_, ho, rfl⟩ (fun s' => typeIs_int s' y u) noFill_list_mul PySem.F.fills_int_mul PySem.F.slot_int_rmul repeat_list PySem.F.slot_int_index.lookup
      (call_meets PySem.F.slot_int_rmul (typeIs_int s y u) PySem.F.entry_int_rmul (PySem.F.args_int_rmul_2 _ _) (lm_int_rmul_list_any y u l vs k d sl)
        ⟨ho, rfl, ⟨_, ho, rfl⟩, call_meets PySem.F.slot_list_mul ⟨_, ho, rfl⟩ PySem.F.entry_list_mul (PySem.F.args_list_mul_2 _ _)
          (lm_list_mul_any l vs k d sl y u (by simp [Builtin.List.listFitsIndex]; omega) (by omega) (by simp [Builtin.List.listTooLong, sizeLine]; omega))
          ⟨ho, ?_⟩⟩)
    refine f _ _ _ (Gr.push _) (c.newList ?_)
    have := reps_repL rl y.toNat
    rw [listMul_foldl_if]
    simpa using this
  | _ => exact f.elim

theorem pow_ok {x y : Int} (h0 : 0 ≤ y) (h1 : y ≤ 4096) (h2 : x.natAbs < 65536) : (Builtin.Int.intBits x : Int) * y ≤ 65536 := by
  have h1' : Builtin.Int.intBits x ≤ 16 := PyProof.Rows.intBits_le (by simpa using h2)
  have h3 : (Builtin.Int.intBits x : Int) * y ≤ 16 * 4096 := by
    refine Int.le_trans (Int.mul_le_mul_of_nonneg_right (by omega : (Builtin.Int.intBits x : Int) ≤ 16) h0) ?_
    omega
  exact h3

theorem intOp_does {op : Operator} {x y : Int} {t u : Tok} {Q E : Value → Shared → Prop} (f : FinT fl s (R.of ((intOp op x y).map D.int)) (PV hid) Q E) : wpAny (model prog w) A (binaryOp op (.int x t) (.int y u)) Q E s := by
  refine f.ofM fun z hz f => ?_
  have q : ∀ tk t', Q (.int z t') { s with toks := tk } := fun tk t' => f.ret (rep_int.mpr ⟨_, rfl⟩)
  clear f
  cases op with
  | Sub => cases hz; exact P.sub_int (q _ _)
  | FloorDiv =>
    refine el_AT (ite_some hz) fun h1 hz => ?_
    refine el_AT (ite_some hz) fun h2 hz => ?_
    cases hz
    exact PyProof.Rows.floordiv_int (hp := Or.inl (PyProof.noPylong_of_log2 (Nat.lt_of_lt_of_le ((Nat.log2_lt (by omega)).mpr h2) (by decide)))) h1 (q _ _)
  | Mod =>
    by_cases h : y = 0
    · rw [show intOp .Mod x y = none from if_pos h] at hz; cases hz
    · rw [show intOp .Mod x y = some (x.fmod y) from if_neg h] at hz; cases hz
      exact PyProof.Rows.mod_int' h (q _ _)
  | Pow =>
    refine el_AT (ite_some hz) fun h1 hz => ?_
    refine el_AT (ite_some hz) fun h2 hz => ?_
    refine el_AT (ite_some hz) fun h3 hz => ?_
    cases hz
    exact PyProof.Rows.pow_int h1 (Int.le_trans (pow_ok h1 h2 h3) (by decide)) (q _ _)
  | LShift =>
    refine el_AT (ite_some hz) fun h1 hz => ?_
    refine el_AT (ite_some hz) fun h2 hz => ?_
    refine el_AT (ite_some hz) fun h3 hz => ?_
    cases hz
    exact PyProof.Rows.lshift_int_small h1 h2 h3 (q _ _)
  | RShift =>
    refine el_AT (ite_some hz) fun h1 hz => ?_
    cases hz
    exact PyProof.Rows.rshift_int h1 (q _ _)
  | BitOr => cases hz; exact PyProof.Rows.or_int (q _ _)
  | BitAnd => cases hz; exact PyProof.Rows.and_int (q _ _)
  | _ => exact no_some hz

theorem int2_does {op : Operator} {a b : D} {va vb : Value} (ra : Rep (Vw s.heap hid) a va) (rb : Rep (Vw s.heap hid) b vb) {Q E : Value → Shared → Prop} (f : FinT fl s (R.of (a.int?.bind fun x => b.int?.bind fun y => (intOp op x y).map D.int)) (PV hid) Q E) : wpAny (model prog w) A (binaryOp op va vb) Q E s :=
  FinT.int ra f fun x t f => FinT.int rb f fun y u f => intOp_does f

theorem bin_does (c : Cx base A fl hid s.heap) {op : Operator} {a b : D} {va vb : Value} (ra : Rep (Vw s.heap hid) a va) (rb : Rep (Vw s.heap hid) b vb) :
    Does (model prog w) A fl s (binaryOp op va vb) (R.of (binD op a b)) (PV hid) := fun Q E f => by
  cases op with
  | Add => exact add_does c ra rb Q E f
  | Mult => exact mul_does c ra rb Q E f
  | _ => exact int2_does ra rb f
end
end Mine
end
section
namespace Mine
open PySem.SeqAt

noncomputable abbrev pairA (f : D → D → Option Bool) (xs ys : List D) (j : Nat) : Bool := (f (xs.getD j .none) (ys.getD j .none)).getD false

theorem eqAll_spec (f : D → D → Option Bool) : ∀ (xs ys : List D) (b : Bool), eqAll f xs ys = some b →
    b = ((List.range (min xs.length ys.length)).all (pairA f xs ys) && xs.length == ys.length) ∧ ∀ j, j < xs.length → j < ys.length → f (xs.getD j .none) (ys.getD j .none) = some (pairA f xs ys j)
  | [], [], b, h => by cases h; exact ⟨rfl, fun j h => absurd h (Nat.not_lt_zero _)⟩
  | [], _ :: _, b, h => by cases h; exact ⟨by simp, fun j h => absurd h (Nat.not_lt_zero _)⟩
  | _ :: _, [], b, h => by cases h; exact ⟨by simp, fun j _ h => absurd h (Nat.not_lt_zero _)⟩
  | x :: xs, y :: ys, b, h => by
    refine bind_some h fun a ha h => map_some h fun c hc h => ?_
    · refine el_AT (eqAll_spec f xs ys c hc) fun e1 e2 => ?_
      cases h
      refine ⟨?_, fun j h1 h2 => ?_⟩
      · have e3 : min (x :: xs).length (y :: ys).length = min xs.length ys.length + 1 := by rw [List.length_cons, List.length_cons, Nat.add_min_add_right]
        have e4 : ((x :: xs).length == (y :: ys).length) = (xs.length == ys.length) := by simp
        have e5 : (List.range (min xs.length ys.length + 1)).all (pairA f (x :: xs) (y :: ys)) = (a && (List.range (min xs.length ys.length)).all (pairA f xs ys)) := by
          rw [List.range_succ_eq_map, List.all_cons, List.all_map]
          rw [show pairA f (x :: xs) (y :: ys) 0 = a from by simp [pairA, ha]]
          rfl
        rw [e3, e4, e5, e1, Bool.and_assoc]
      · cases j with
        | zero => simp [pairA, ha]
        | succ j => simpa [pairA] using e2 j (by simpa using h1) (by simpa using h2)

theorem reps_at {ρ : PH} {xs : List D} {vs : Array Value} (r : Reps ρ xs vs.toList) {j : Nat} (h : j < vs.size) : Rep ρ (xs.getD j .none) vs[j] := by
  refine el_EAT (reps_get' (i := j) r (by simp [h] : vs.toList[j]? = some vs[j])) fun d e q => ?_
  rw [List.getD_eq_getElem?_getD, e]; exact q

inductive EqI (r : D → D → Option Bool) : D → D → Bool → Prop
  | none : EqI r .none .none true
  | bool (x y) : EqI r (.bool x) (.bool y) (x == y)
  | int (x y) : EqI r (.int x) (.int y) (x == y)
  | str (x y) : EqI r (.str x) (.str y) (x == y)
  | bytes (x y) : EqI r (.bytes x) (.bytes y) (x.toList == y.toList)
  | tuple (x y b) : eqAll r x y = some b → EqI r (.tuple x) (.tuple y) b
  | list (x y b) : eqAll r x y = some b → EqI r (.list x) (.list y) b

theorem eqS_inv {r : D → D → Option Bool} {d e : D} {b : Bool} (h : eqS r d e = some b) : EqI r d e b := by
  cases d with
  | none =>
    refine el_AT (ite_some h) fun h1 h => ?_
    rw [D.isNone_t h1]; cases h; exact .none
  | bool x => exact bind_some h fun y hy h => by rw [D.bool?_s hy]; cases h; exact .bool x y
  | int x => exact bind_some h fun y hy h => by rw [D.int?_s hy]; cases h; exact .int x y
  | str x => exact bind_some h fun y hy h => by rw [D.str?_s hy]; cases h; exact .str x y
  | bytes x => exact bind_some h fun y hy h => by rw [D.bytes?_s hy]; cases h; exact .bytes x y
  | tuple x => exact bind_some h fun y hy h => by rw [D.tuple?_s hy]; exact .tuple x y b h
  | list x => exact bind_some h fun y hy h => by rw [D.list?_s hy]; exact .list x y b h
  | _ => exact no_some h

theorem rep_list_eq {ρ : PH} {x y : List D} {v : Value} (r : Rep ρ (.list x) v) (r' : Rep ρ (.list y) v) : ∃ vs, Reps ρ x vs ∧ Reps ρ y vs := by
  refine el_EEEEAAAAT (rep_list.mp r) fun a o vs n hr4 ho hc hd hr => ?_
  subst hr4
  refine el_EEEEAAAAT (rep_list.mp r') fun a' o' vs' n' e ho' hc' hd' hr' => ?_
  cases e; rw [ho] at ho'; cases ho'; rw [hd] at hd'; cases hd'
  exact ⟨_, hr, hr'⟩
theorem rep_tuple_eq {ρ : PH} {x y : List D} {v : Value} (r : Rep ρ (.tuple x) v) (r' : Rep ρ (.tuple y) v) : ∃ vs, Reps ρ x vs ∧ Reps ρ y vs := by
  refine el_EEEEAAAAT (rep_tuple.mp r) fun a o vs n hr4 ho hc hd hr => ?_
  subst hr4
  refine el_EEEEAAAAT (rep_tuple.mp r') fun a' o' vs' n' e ho' hc' hd' hr' => ?_
  cases e; rw [ho] at ho'; cases ho'; rw [hd] at hd'; cases hd'
  exact ⟨_, hr, hr'⟩
theorem rep_bool_eq {ρ : PH} {x y : Bool} {v : Value} (r : Rep ρ (.bool x) v) (r' : Rep ρ (.bool y) v) : x = y := by
  rw [rep_bool.mp r] at r'; have := rep_bool.mp r'; cases this; rfl
theorem rep_int_eq {ρ : PH} {x y : Int} {v : Value} (r : Rep ρ (.int x) v) (r' : Rep ρ (.int y) v) : x = y := by
  obtain ⟨t, rfl⟩ := rep_int.mp r; obtain ⟨u, e⟩ := rep_int.mp r'; cases e; rfl
theorem rep_str_eq {ρ : PH} {x y : Str} {v : Value} (r : Rep ρ (.str x) v) (r' : Rep ρ (.str y) v) : x = y := by
  obtain ⟨t, rfl⟩ := rep_str.mp r; obtain ⟨u, e⟩ := rep_str.mp r'; cases e; rfl
theorem rep_bytes_eq {ρ : PH} {x y : Array UInt8} {v : Value} (r : Rep ρ (.bytes x) v) (r' : Rep ρ (.bytes y) v) : x = y := by
  obtain ⟨t, rfl⟩ := rep_bytes.mp r; obtain ⟨u, e⟩ := rep_bytes.mp r'; cases e; rfl

theorem same_all {ρ : PH} {f : D → D → Option Bool} (ih : ∀ (d e : D) (v : Value) (b : Bool), f d e = some b → Rep ρ d v → Rep ρ e v → b = true) : ∀ (xs ys : List D) (vs : List Value) (b : Bool), eqAll f xs ys = some b → Reps ρ xs vs → Reps ρ ys vs → b = true
  | [], ys, vs, b, h, rx, ry => by
    rw [reps_nil.mp rx] at ry
    cases ys with
    | nil => cases h; rfl
    | cons y ys => obtain ⟨v, r, e, _⟩ := reps_cons.mp ry; cases e
  | x :: xs, [], vs, b, h, rx, ry => by
    rw [reps_nil.mp ry] at rx
    obtain ⟨v, r, e, _⟩ := reps_cons.mp rx; cases e
  | x :: xs, y :: ys, vs, b, h, rx, ry => by
    obtain ⟨v, r, rfl, h1, h2⟩ := reps_cons.mp rx
    obtain ⟨v', r', e, k1, k2⟩ := reps_cons.mp ry
    cases e
    exact bind_some h fun a ha h => map_some h fun c hc h => by
      rw [← h, ih _ _ _ _ ha h1 k1, same_all ih _ _ _ _ hc h2 k2]; rfl
theorem same_step {ρ : PH} {f : D → D → Option Bool} (ih : ∀ (d e : D) (v : Value) (b : Bool), f d e = some b → Rep ρ d v → Rep ρ e v → b = true) (d e : D) (v : Value) (b : Bool) (h : eqS f d e = some b) (rd : Rep ρ d v) (re : Rep ρ e v) : b = true := by
  cases eqS_inv h with
  | none => rfl
  | bool x y => rw [rep_bool_eq rd re]; exact beq_self_eq_true _
  | int x y => rw [rep_int_eq rd re]; exact beq_self_eq_true _
  | str x y => rw [rep_str_eq rd re]; exact beq_self_eq_true _
  | bytes x y => rw [rep_bytes_eq rd re]; exact beq_self_eq_true _
  | tuple x y _ h => obtain ⟨vs, h1, h2⟩ := rep_tuple_eq rd re; exact same_all ih _ _ _ _ h h1 h2
  | list x y _ h => obtain ⟨vs, h1, h2⟩ := rep_list_eq rd re; exact same_all ih _ _ _ _ h h1 h2
theorem same_val {ρ : PH} : ∀ (k : Nat) (d e : D) (v : Value) (b : Bool), eqDn k d e = some b → Rep ρ d v → Rep ρ e v → b = true
  | 0 => same_step fun _ _ _ _ h => no_some h
  | k + 1 => same_step (same_val k)

section
variable {A : Around} {s : Shared} {hid : List Addr}
theorem rc_bytes (b c : Array UInt8) (t u : Tok) : RcAt A s (.bytes b t) (.bytes c u) (b.toList == c.toList) := fun _ _ _ _ h => eq_bytes h
theorem rcNe_bytes (b c : Array UInt8) (t u : Tok) : RcNeAt A s (.bytes b t) (.bytes c u) (!(b.toList == c.toList)) := fun _ _ _ _ h => ne_bytes h
theorem eqAt_bytes (b c : Array UInt8) (t u : Tok) : EqAt A s (.bytes b t) (.bytes c u) (b.toList == c.toList) := fun prog w E Q h => by
  unfold eqBool
  refine wpAny_holding ?_
  refine wpAny_ite_split (fun hab => ?_) (fun _ => ?_)
  · have := eq_of_beq hab
    injection this with h1 h2
    subst h1
    refine wpAny_bind (wpAny_rule (wpAny_pure ?_))
    simpa using h
  · exact wpAny_bind (rc_bytes b c t u prog w E _ (wpAny_truthy_bool h))
end

theorem in1u {A : Around} {k : Nat} (h : A.units + (k + 1) < cLine) : A.in1.units + k < cLine := by show A.units + 1 + k < cLine; omega

theorem eq_step {f : D → D → Option Bool} {k : Nat} (sv : ∀ ρ (d e : D) (v : Value) (b : Bool), eqS f d e = some b → Rep ρ d v → Rep ρ e v → b = true)
    (ih : ∀ (d e : D) (A : Around) (s : Shared) (hid : List Addr) (va vb : Value) (b : Bool), f d e = some b → Rep (Vw s.heap hid) d va → Rep (Vw s.heap hid) e vb → A.units + k < cLine → EqAt A s va vb b)
    (d e : D) (A : Around) (s : Shared) (hid : List Addr) (va vb : Value) (b : Bool) (h : eqS f d e = some b) (rd : Rep (Vw s.heap hid) d va) (re : Rep (Vw s.heap hid) e vb) (hu : A.units + (k + 1) < cLine) :
    EqAt A s va vb b ∧ RcAt A s va vb b ∧ RcNeAt A s va vb (!b) := by
  have all : ∀ {xs ys : List D} {vs ws : Array Value}, eqAll f xs ys = some b → Reps (Vw s.heap hid) xs vs.toList → Reps (Vw s.heap hid) ys ws.toList → b = ((List.range (min vs.size ws.size)).all (pairA f xs ys) && vs.size == ws.size) ∧
      ∀ j (j1 : j < vs.size) (j2 : j < ws.size), EqAt A.in1 s vs[j] ws[j] (pairA f xs ys j) := fun {xs ys vs ws} h rl rm => by
    refine el_AT (eqAll_spec _ _ _ _ h) fun e1 e2 => ?_
    have n1 : vs.size = xs.length := by simpa using reps_length rl
    have n2 : ws.size = ys.length := by simpa using reps_length rm
    rw [← n1, ← n2] at e1
    exact ⟨e1, fun j j1 j2 => ih _ _ _ _ _ _ _ _ (e2 j (n1 ▸ j1) (n2 ▸ j2)) (reps_at rl j1) (reps_at rm j2) (in1u hu)⟩
  have sv := sv (Vw s.heap hid) _ _ va b h rd
  cases eqS_inv h with
  | none => exact rd.none (re.none ⟨EqAt.same _, RcAt.none_none, RcNeAt.none_none⟩)
  | bool x y => exact rd.bool (re.bool ⟨EqAt.bool_bool _ _, RcAt.bool_bool _ _, RcNeAt.bool_bool _ _⟩)
  | int x y => exact rd.int fun t => re.int fun u => ⟨EqAt.int_int _ _ _ _, RcAt.int_int _ _ _ _, RcNeAt.int_int _ _ _ _⟩
  | str x y => exact rd.str fun t => re.str fun u => ⟨EqAt.str_str _ _ _ _, RcAt.str_str _ _ _ _, RcNeAt.str_str _ _ _ _⟩
  | bytes x y => exact rd.bytes fun t => re.bytes fun u => ⟨eqAt_bytes _ _ _ _, rc_bytes _ _ _ _, rcNe_bytes _ _ _ _⟩
  | tuple xs ys _ h =>
    refine el_EEAAAT (rep_isTup rd) fun l vs hr2 _ hl rl => ?_
    subst hr2
    refine el_EEAAAT (rep_isTup re) fun m ws hr2 _ hm rm => ?_
    subst hr2
    refine el_AT (all h rl rm) fun e1 hi => ?_
    have R : RcAt A s (.ref l) (.ref m) b := by rw [e1]; exact RcAt.tuples hl hm (by omega) hi
    refine ⟨?_, R, by rw [e1]; exact RcNeAt.tuples hl hm (by omega) hi⟩
    by_cases hlm : l = m
    · subst hlm; rw [sv re]; exact EqAt.same _
    · exact EqAt.of_refs hlm R
  | list xs ys _ h =>
    refine el_EEAAAT (rep_isList rd) fun l vs hr2 _ hl rl => ?_
    subst hr2
    refine el_EEAAAT (rep_isList re) fun m ws hr2 _ hm rm => ?_
    subst hr2
    refine el_AT (all h rl rm) fun e1 hi => ?_
    have R : RcAt A s (.ref l) (.ref m) b ∧ RcNeAt A s (.ref l) (.ref m) (!b) := by
      by_cases hsz : vs.size = ws.size
      · rw [hsz, Nat.min_self, beq_self_eq_true, Bool.and_true, ← hsz] at e1
        rw [e1]
        exact ⟨RcAt.lists hl hm hsz (by omega) hi, RcNeAt.lists hl hm hsz (by omega) hi⟩
      · rw [beq_eq_false_iff_ne.mpr hsz, Bool.and_false] at e1
        rw [e1]
        exact ⟨RcAt.lists_lengths hl hm (by simpa using hsz) (by omega), RcNeAt.lists_lengths hl hm (by simpa using hsz) (by omega)⟩
    refine ⟨?_, R⟩
    by_cases hlm : l = m
    · subst hlm; rw [sv re]; exact EqAt.same _
    · exact EqAt.of_refs hlm R.1

theorem eq_at3 : ∀ (k : Nat) (d e : D) (A : Around) (s : Shared) (hid : List Addr) (va vb : Value) (b : Bool), eqDn k d e = some b → Rep (Vw s.heap hid) d va → Rep (Vw s.heap hid) e vb → A.units + (k + 1) < cLine → EqAt A s va vb b ∧ RcAt A s va vb b ∧ RcNeAt A s va vb (!b)
  | 0 => eq_step (fun _ => same_val 0) fun _ _ _ _ _ _ _ _ h => no_some h
  | k + 1 => eq_step (fun _ => same_val (k + 1)) fun d e A s hid va vb b h r r' hu => (eq_at3 k d e A s hid va vb b h r r' hu).1
theorem eq_at (k : Nat) (d e : D) (A : Around) (s : Shared) (hid : List Addr) (va vb : Value) (b : Bool) (h : eqDn k d e = some b) (rd : Rep (Vw s.heap hid) d va) (re : Rep (Vw s.heap hid) e vb) (hu : A.units + (k + 1) < cLine) : EqAt A s va vb b := (eq_at3 k d e A s hid va vb b h rd re hu).1
theorem rc_at (k : Nat) (d e : D) (A : Around) (s : Shared) (hid : List Addr) (va vb : Value) (b : Bool) (h : eqDn k d e = some b) (rd : Rep (Vw s.heap hid) d va) (re : Rep (Vw s.heap hid) e vb) (hu : A.units + (k + 1) < cLine) :
    RcAt A s va vb b ∧ RcNeAt A s va vb (!b) := (eq_at3 k d e A s hid va vb b h rd re hu).2
end Mine
end
section
namespace Mine
open PySem.SeqAt

theorem uniq_all {ρ : PH} {f : D → D → Option Bool} (ih : ∀ (d d' x : D) (v : Value) (b b' : Bool), f d x = some b → f d' x = some b' → Rep ρ d v → Rep ρ d' v → b = b') : ∀ (xs ys zs : List D) (vs : List Value) (b b' : Bool), eqAll f xs zs = some b → eqAll f ys zs = some b' → Reps ρ xs vs → Reps ρ ys vs → b = b'
  | [], ys, zs, vs, b, b', h, h', rx, ry => by
    rw [reps_nil.mp rx] at ry
    cases ys with
    | nil => rw [h] at h'; cases h'; rfl
    | cons y ys => obtain ⟨v, r, e, _⟩ := reps_cons.mp ry; cases e
  | x :: xs, [], zs, vs, b, b', h, h', rx, ry => by
    rw [reps_nil.mp ry] at rx
    obtain ⟨v, r, e, _⟩ := reps_cons.mp rx; cases e
  | x :: xs, y :: ys, [], vs, b, b', h, h', rx, ry => by
    have h : some false = some b := h
    have h' : some false = some b' := h'
    rw [h] at h'; cases h'; rfl
  | x :: xs, y :: ys, z :: zs, vs, b, b', h, h', rx, ry => by
    obtain ⟨v, r, rfl, h1, h2⟩ := reps_cons.mp rx
    obtain ⟨v', r', e, k1, k2⟩ := reps_cons.mp ry
    cases e
    exact bind_some h fun a ha h => map_some h fun c hc h => bind_some h' fun a' ha' h' => map_some h' fun c' hc' h' => by
      rw [← h, ← h', ih _ _ _ _ _ _ ha ha' h1 k1, uniq_all ih _ _ _ _ _ _ hc hc' h2 k2]
theorem uniq_step {ρ : PH} {f : D → D → Option Bool} (ih : ∀ (d d' x : D) (v : Value) (b b' : Bool), f d x = some b → f d' x = some b' → Rep ρ d v → Rep ρ d' v → b = b') (d d' x : D) (v : Value) (b b' : Bool) (h : eqS f d x = some b) (h' : eqS f d' x = some b') (rd : Rep ρ d v) (re : Rep ρ d' v) : b = b' := by
  have h' := eqS_inv h'
  cases eqS_inv h with
  | none => cases h'; rfl
  | bool x y => cases h'; rw [rep_bool_eq rd re]
  | int x y => cases h'; rw [rep_int_eq rd re]
  | str x y => cases h'; rw [rep_str_eq rd re]
  | bytes x y => cases h'; rw [rep_bytes_eq rd re]
  | tuple x y _ h => cases h'; obtain ⟨vs, h1, h2⟩ := rep_tuple_eq rd re; exact uniq_all ih _ _ _ _ _ _ h ‹_› h1 h2
  | list x y _ h => cases h'; obtain ⟨vs, h1, h2⟩ := rep_list_eq rd re; exact uniq_all ih _ _ _ _ _ _ h ‹_› h1 h2
theorem uniq_val {ρ : PH} : ∀ (k : Nat) (d d' x : D) (v : Value) (b b' : Bool), eqDn k d x = some b → eqDn k d' x = some b' → Rep ρ d v → Rep ρ d' v → b = b'
  | 0 => uniq_step fun _ _ _ _ _ _ h => no_some h
  | k + 1 => uniq_step (uniq_val k)

open Classical in
noncomputable def eqV (ρ : PH) (x : D) (v : Value) : Bool := decide (∃ d, Rep ρ d v ∧ eqD d x = some true)

theorem eqV_of {ρ : PH} {x d : D} {v : Value} {b : Bool} (r : Rep ρ d v) (h : eqD d x = some b) : eqV ρ x v = b := by
  unfold eqV
  cases b with
  | true => exact @decide_eq_true _ (Classical.propDecidable _) ⟨d, r, h⟩
  | false =>
    refine @decide_eq_false _ (Classical.propDecidable _) ?_
    rintro ⟨d', r', h'⟩
    have := uniq_val 5 _ _ _ _ _ _ h h' r r'
    cases this

theorem anyD_some {x : D} : ∀ {l : List D} {b : Bool}, anyD x l = some b → ∀ y ∈ l, ∃ c, eqD y x = some c
  | [], _, _, _, h => nomatch h
  | z :: r, b, h, y, hy => by
    refine bind_some h fun a ha h => map_some h fun c hc h => ?_
    rcases List.mem_cons.mp hy with rfl | hy
    · exact ⟨a, ha⟩
    · exact anyD_some hc y hy
theorem anyD_val {ρ : PH} {x : D} : ∀ {l : List D} {vs : List Value} {b : Bool}, anyD x l = some b → Reps ρ l vs → vs.any (eqV ρ x) = b
  | [], vs, b, h, r => by cases h; rw [reps_nil.mp r]; rfl
  | z :: l, vs, b, h, r => by
    refine el_EEAAT (reps_cons.mp r) fun v r' hr2 h1 h2 => ?_
    subst hr2
    refine bind_some h fun a ha h => map_some h fun c hc h => ?_
    rw [List.any_cons, eqV_of h1 ha, anyD_val hc h2]; exact h

section
variable {prog : Program} {w : World} {A : Around} {fl : List Env} {hid : List Addr} {s : Shared} {base : Heap} {α β : Type}

theorem items_at {l : List D} {vs : Array Value} {x : D} {v : Value} {b : Bool} (h : anyD x l = some b) (rl : Reps (Vw s.heap hid) l vs.toList) (rx : Rep (Vw s.heap hid) x v) (hu : A.units + 7 < cLine) :
    ∀ y, y ∈ vs → EqAt A.in1 s y v (eqV (Vw s.heap hid) x y) := fun y hy => by
  obtain ⟨i, hi, e⟩ := Array.mem_iff_getElem.mp hy
  refine el_EAT (reps_get' (i := i) rl (v := y) (by simp [← e, hi])) fun d e1 r => ?_
  refine el_ET (anyD_some h d (List.mem_of_getElem? e1)) fun c hc => ?_
  rw [eqV_of r hc]
  exact eq_at 5 _ _ _ _ _ _ _ _ hc r rx (in1u hu)

theorem is_types {a b : String} : isSame (.type a) (.type b) = pure (a == b) := by
  show (pure (Value.type a == Value.type b) : Sem Bool) = _
  congr 1
  by_cases h : a = b
  · subst h; simp
  · have : Value.type a ≠ Value.type b := fun e => h (by injection e)
    rw [beq_eq_false_iff_ne.mpr this, beq_eq_false_iff_ne.mpr h]

theorem is_does {a b : D} {va vb : Value} {c : Bool} (h : isD a b = some c) (ra : Rep (Vw s.heap hid) a va) (rb : Rep (Vw s.heap hid) b vb) : isSame va vb = pure c := by
  have no : ∀ {x : Bool} {u : Value}, isSame u .none = pure x → (if b.isNone then some x else none) = some c → isSame u vb = pure c := fun e h => by
    refine el_AT (ite_some h) fun h1 h => ?_
    rw [D.isNone_t h1] at rb
    rw [rep_none.mp rb]; cases h; exact e
  cases a with
  | none => exact ra.none (no rfl h)
  | bool => exact ra.bool (no rfl h)
  | int => exact ra.int fun _ => no rfl h
  | str => exact ra.str fun _ => no rfl h
  | bytes => exact ra.bytes fun _ => no rfl h
  | list => exact ra.list fun _ _ _ _ _ => no rfl h
  | tuple => exact ra.tuple fun _ _ _ _ _ => no rfl h
  | type x =>
    refine ra.type (bind_some h fun y hy h => ?_)
    rw [D.type?_s hy] at rb
    cases h; exact rb.type is_types
  | obj x =>
    refine ra.obj ?_
    by_cases hb : b.isNone = true
    · have h : (if b.isNone then some false else b.obj?.bind fun b => if x = b then some true else none) = some c := h
      rw [if_pos hb] at h
      rw [D.isNone_t hb] at rb
      cases h; exact rb.none rfl
    · have h : (if b.isNone then some false else b.obj?.bind fun b => if x = b then some true else none) = some c := h
      rw [if_neg hb] at h
      refine bind_some h fun y hy h => ?_
      refine el_AT (ite_some h) fun h1 h => ?_
      rw [D.obj?_s hy, ← h1] at rb
      cases h
      refine rb.obj ?_
      show (do if _ then _ else _ : Sem Bool) = _
      rw [if_pos (by simp)]
  | _ => exact no_some h

theorem cmp_does (hu : A.units + 7 < cLine) {op : CmpOp} {a b : D} {va vb : Value} (ra : Rep (Vw s.heap hid) a va) (rb : Rep (Vw s.heap hid) b vb) :
    Does (model prog w) A fl s (compareOp op va vb) (R.of (cmpD op a b)) (fun c v _ => v = .bool c) := by
  intro Q E f
  have int2 : ∀ {p : Int → Int → Bool} {o : CmpOp}, FinT fl s (R.of (a.int?.bind fun a => b.int?.bind fun b => some (p a b))) (fun c v _ => v = .bool c) Q E → (∀ x y t u, Q (.bool (p x y)) s → wpAny (model prog w) A (compareOp o (.int x t) (.int y u)) Q E s) → wpAny (model prog w) A (compareOp o va vb) Q E s := fun f k =>
    f.ofB fun x hx f => f.ofB fun y hy f => by
      rw [D.int?_s hx] at ra
      rw [D.int?_s hy] at rb
      exact ra.int fun t => rb.int fun u => k x y t u (f.val rfl)
  cases op with
  | Eq => exact FinT.ofM (k := id) (by rw [Option.map_id]; exact f) fun c hc f => (rc_at 5 _ _ A s hid _ _ _ hc ra rb (by omega)).1 prog w E Q (f.val rfl)
  | NotEq => exact f.ofM fun c hc f => (rc_at 5 _ _ A s hid _ _ _ hc ra rb (by omega)).2 prog w E Q (f.val rfl)
  | Lt => exact int2 f fun x y t u q => P.lt_int q
  | LtE => exact int2 f fun x y t u q => P.le_int q
  | Gt => exact int2 f fun x y t u q => P.gt_int q
  | GtE => exact int2 f fun x y t u q => P.ge_int q
  | Is =>
    refine FinT.ofM (k := id) (o := isD a b) (by rw [Option.map_id]; exact f) fun c hc f => ?_
    show wpAny _ A (do return .bool (← isSame va vb)) Q E s
    rw [is_does hc ra rb]
    exact wpAny_bind (wpAny_pure (wpAny_pure (f.val rfl)))
  | IsNot =>
    refine FinT.ofM (o := isD a b) f fun c hc f => ?_
    show wpAny _ A (do return .bool (!(← isSame va vb))) Q E s
    rw [is_does hc ra rb]
    exact wpAny_bind (wpAny_pure (wpAny_pure (f.val rfl)))
  | In =>
    refine FinT.list rb f fun l a vs _ hl rl f => FinT.ofM (k := id) (by rw [Option.map_id]; exact f) fun c hc f => ?_
    refine in_listAt _ hl (items_at hc rl ra hu) ?_
    rw [← Array.any_toList, anyD_val hc rl]; exact f.val rfl
  | NotIn =>
    refine FinT.list rb f fun l a vs _ hl rl f => f.ofM fun c hc f => ?_
    refine notIn_listAt _ hl (items_at hc rl ra hu) ?_
    rw [← Array.any_toList, anyD_val hc rl]; exact f.val rfl
end
end Mine
end
section
namespace Mine

structure Here (base : Heap) (A : Around) (fl : List Env) (hid : List Addr) (env : Env) (sc : Scope) (σ : Vs) (n : Nat) (h : Heap) : Prop where
  rm : Rm A n
  cx : Cx base A fl hid h
  en : EnvOK env sc
  vs : VarsOK h hid env σ
  cl : ∀ y c, env.cells.lookup y = some c → c ∈ hid
section
variable {base : Heap} {A : Around} {fl : List Env} {hid : List Addr} {env : Env} {sc : Scope} {σ : Vs} {n : Nat} {h h' : Heap}
theorem Here.grow (x : Here base A fl hid env sc σ n h) (g : Gr (faOf fl) [] h h') : Here base A fl hid env sc σ n h' := ⟨x.rm, x.cx.grow g, x.en, x.vs.grow x.cx g, x.cl⟩
theorem Here.le {k : Nat} (x : Here base A fl hid env sc σ n h) (l : k ≤ n) : Here base A fl hid env sc σ k h := ⟨x.rm.le l, x.cx, x.en, x.vs, x.cl⟩
theorem Here.view (x : Here base A fl hid env sc σ n h) (g : Gr (faOf fl) [] h h') : PH.le (Vw h hid) (Vw h' hid) := x.cx.view g
end

noncomputable def TpN (g : G) (base : Heap) : Prop := ∃ mg mb, base.Ns mainGlobals mg ∧ base.Ns builtinsNs mb ∧ (∀ x d, g.glob x = some d → ∃ v, mg x = some v ∧ Rep base.get? d v) ∧
    (∀ x d, g.glob x = none → g.bi x = some d → mg x = none ∧ ∃ v, mb x = some v ∧ Rep base.get? d v)

theorem Cx.base_le {base : Heap} {A : Around} {fl : List Env} {hid : List Addr} {h : Heap} (c : Cx base A fl hid h) : PH.le base.get? (Vw h hid) := fun a o e =>
  Vw.mk (c.stays a o e) fun q => by rw [c.nob a q] at e; cases e
theorem ns_stays {base h : Heap} {a : Addr} {m : Str → Option Value} (k : base.StaysIn h) (x : base.Ns a m) : h.Ns a m := x.keeps k

section
variable {g : G} {prog : Program} {w : World} {base : Heap} {A : Around} {fl : List Env} {hid : List Addr} {env : Env} {sc : Scope} {σ : Vs} {n : Nat} {s : Shared}

theorem name_does (T : TpN g base) (H : Here base A fl hid env sc σ n s.heap) (x : Str) (pos : Pos) :
    Does (model prog w) A fl s (eval (.Name x pos) env) (nameD g sc σ x) (PV hid) := fun Q E f => by
  unfold nameD at f
  refine f.itn fun hd f => ?_
  have hd' : (x == ("__debug__" : Str)) = false := by simpa using hd
  cases hl : σ.lookup x with
  | some d =>
    rw [hl] at f
    refine el_EAT (H.vs x d hl) fun v hv r => ?_
    have q : Q v s := f.val r
    rcases hv with ⟨k, m, hn, hm⟩ | ⟨k, c, hc, hv⟩ | ⟨k, hx, c, hc, hv⟩
    · exact wpAny_Name (wpAny_loadName_local H.en.kind k hn hm q) hd'
    · exact wpAny_Name (wpAny_loadName_cell H.en.kind k hc hv q) hd'
    · exact wpAny_Name (wpAny_loadName_free H.en.kind k hc hv q hx) hd'
  | none =>
    rw [hl] at f
    refine FinT.ite f fun hg f => ?_
    have hk := H.en.glob x (by simpa using hg)
    refine el_EEAAAT (T) fun mg mb h1 h2 h3 h4 => ?_
    cases hgl : g.glob x with
    | some d =>
      rw [hgl] at f
      refine el_EAT (h3 x d hgl) fun v e r => ?_
      exact Calls.Name_function_global H.en.kind hk (Calls.loadGlobal_global (by rw [H.en.gl]; exact ns_stays H.cx.stays h1) e (f.val (r.mono H.cx.base_le))) hd'
    | none =>
      rw [hgl] at f
      cases hb : g.bi x with
      | none => rw [hb] at f; exact f.elim
      | some d =>
        rw [hb] at f
        refine el_AEAT (h4 x d hgl hb) fun e0 v e r => ?_
        exact Calls.Name_function_global H.en.kind hk (Calls.loadGlobal_builtin (by rw [H.en.gl]; exact ns_stays H.cx.stays h1) e0 (by rw [H.en.bl]; exact ns_stays H.cx.stays h2) e (f.val (r.mono H.cx.base_le))) hd'

theorem const_does (c : Const) (k : Nat) (pos : Pos) : Does (model prog w) A fl s (eval (.Constant c k pos) env) (constD c) (PV hid) := fun Q E f => by
  cases c with
  | none => exact wpAny_Constant_none (f.val (rep_none.mpr rfl))
  | bool b => exact wpAny_Constant_bool (f.val (rep_bool.mpr rfl))
  | int i => exact wpAny_Constant_int (f.ret (rep_int.mpr ⟨_, rfl⟩))
  | str i => exact wpAny_Constant_str (f.ret (rep_str.mpr ⟨_, rfl⟩))
  | bytes i => exact fun _ _ _ => f.ret (rep_bytes.mpr ⟨_, rfl⟩)
  | _ => exact f.elim

theorem noBool_match : typeLookup (.type "re.Match") (Str.ofString "__bool__") = pure none := by rw [typeLookup_type, builtinLookup_eq_fast]; kernel_rfl
theorem noLen_match : typeLookup (.type "re.Match") (Str.ofString "__len__") = pure none := by rw [typeLookup_type, builtinLookup_eq_fast]; kernel_rfl
theorem truth_does {a : D} {va : Value} (ra : Rep (Vw s.heap hid) a va) : Does (model prog w) A fl s (truthy va) (R.of (truthD a)) PB := fun Q E f => by
  cases a with
  | none => exact ra.none fun _ _ _ => f.val rfl
  | bool b => exact ra.bool (wpAny_truthy_bool (f.val rfl))
  | int i => exact ra.int fun t => P.truthy_int (f.val rfl)
  | hit =>
    refine el_EEAAT (rep_hit.mp ra) fun a o hr2 ho hc => ?_
    subst hr2
    have T : s.TypeIs (.ref a) "re.Match" := ⟨o, Vw.of ho, hc⟩
    unfold truthy
    refine wpAny_bind (wpAny_callSpecial?_none (name := Str.ofString "__bool__") T noBool_match ?_)
    refine wpAny_bind (wpAny_specialOf (name := Str.ofString "__len__") T noLen_match ?_)
    exact wpAny_pure (f.val rfl)
  | _ => exact f.elim
end

structure SndE (prog : Program) (w : World) (base : Heap) (F : Fns) (n : Nat) : Prop where
  ev : ∀ {A : Around} {fl : List Env} {hid : List Addr} {env : Env} {sc : Scope} {σ : Vs} {s : Shared} {e : Expr}, Here base A fl hid env sc σ n s.heap → Does (model prog w) A fl s (eval e env) (F.ev sc σ e) (PV hid)
  evT : ∀ {A : Around} {fl : List Env} {hid : List Addr} {env : Env} {sc : Scope} {σ : Vs} {s : Shared} {e : Expr}, Here base A fl hid env sc σ n s.heap → Does (model prog w) A fl s (isTrue e env (eval e env)) (F.evT sc σ e) PB

section
variable {g : G} {prog : Program} {w : World} {base : Heap} {A : Around} {fl : List Env} {hid : List Addr} {env : Env} {sc : Scope} {σ : Vs} {n : Nat} {s : Shared} {F : Fns}

theorem Here.u7 {h : Heap} (H : Here base A fl hid env sc σ n h) : A.units + 7 < cLine := by have := H.rm.units; omega

theorem bin_snd (S : SndE prog w base F n) (H : Here base A fl hid env sc σ n s.heap) (l r : Expr) (op : Operator) (pos : Pos) :
    Does (model prog w) A fl s (eval (.BinOp l op r pos) env) ((F.ev sc σ l).bind fun a => (F.ev sc σ r).bind fun b => R.of (binD op a b)) (PV hid) := fun Q E f => by
  refine wpAny_BinOp ((S.ev H).use f fun a va h₁ tk₁ _ g₁ r₁ f₁ => ?_)
  refine (S.ev (H.grow g₁)).use f₁ fun b vb h₂ tk₂ _ g₂ r₂ f₂ => ?_
  exact bin_does ((H.grow g₁).grow g₂).cx (r₁.mono ((H.grow g₁).view g₂)) r₂ Q E f₂

theorem neg_snd (S : SndE prog w base F n) (H : Here base A fl hid env sc σ n s.heap) (x : Expr) (pos : Pos) :
    Does (model prog w) A fl s (eval (.UnaryOp .USub x pos) env) ((F.ev sc σ x).bind (unaryD .USub)) (PV hid) := fun Q E f => by
  refine wpAny_UnaryOp ((S.ev H).use f fun a va h₁ tk₁ _ g₁ r₁ f₁ => ?_)
  cases hi : a.int? with
  | none => unfold unaryD at f₁; rw [hi] at f₁; exact f₁.elim
  | some i =>
    unfold unaryD at f₁; rw [hi] at f₁
    exact rep_i r₁ hi fun t => P.neg_int (FinT.ret (a := D.int (-i)) f₁ (rep_int.mpr ⟨_, rfl⟩))

theorem ifexp_snd (S : SndE prog w base F n) (H : Here base A fl hid env sc σ n s.heap) (t a b : Expr) (pos : Pos) :
    Does (model prog w) A fl s (eval (.IfExp t a b pos) env) ((F.evT sc σ t).bind fun c => if c then F.ev sc σ a else F.ev sc σ b) (PV hid) := fun Q E f => by
  refine wpAny_IfExp ((S.evT H).use f fun c c' h₁ tk₁ _ g₁ r₁ f₁ => ?_)
  subst r₁
  cases c'
  · exact (S.ev (H.grow g₁)) Q E f₁
  · exact (S.ev (H.grow g₁)) Q E f₁

theorem notSet_marks {op : CmpOp} {e : Expr} (h : isSet e = false) : behindInMarks op e = false := by
  cases e <;> first | rfl | cases h

theorem marked1 {op : CmpOp} {e : Expr} (hs : isSet e = false) : markedEach [op] [e] (evalEach [e] env) = [eval e env] := by
  show [markedBehindIn op e (eval e env)] = _
  rw [markedBehindIn_of_false (notSet_marks hs)]
theorem marked2 {op op' : CmpOp} {e e' : Expr} (hs : isSet e' = false) : markedEach [op, op'] [e, e'] (evalEach [e, e'] env) = [eval e env, eval e' env] := by
  show [eval e env, markedBehindIn op' e' (eval e' env)] = _
  rw [markedBehindIn_of_false (notSet_marks hs)]

theorem chain_inv {β : Type} {P : Bool → β → Heap → Prop} {Q : β → Shared → Prop} {E : Value → Shared → Prop} {X : List CmpOp → List Expr → Prop} {a : D} {ops : List CmpOp} {es : List Expr} (f : FinT fl s (chainD F sc σ a ops es) P Q E)
    (one : ∀ op e, isSet e = false → FinT fl s ((F.ev sc σ e).bind fun b => R.of (cmpD op a b)) P Q E → X [op] [e])
    (two : ∀ op op' e e', isSet e' = false → FinT fl s ((F.ev sc σ e).bind fun b => (R.of (cmpD op a b)).bind fun c => if c then (F.ev sc σ e').bind fun b' => R.of (cmpD op' b b') else .ok false) P Q E → X [op, op'] [e, e']) : X ops es := by
  cases ops with
  | nil => exact f.elim
  | cons op ops => cases es with
    | nil => exact f.elim
    | cons e es => cases ops with
      | nil =>
        refine FinT.itn f fun h f => ?_
        simp only [Bool.or_eq_true, not_or, Bool.not_eq_true, Bool.not_eq_false', List.isEmpty_iff] at h
        rw [h.2]; exact one op e h.1 f
      | cons op' ops => cases es with
        | nil => exact f.elim
        | cons e' es =>
          refine FinT.itn f fun h f => ?_
          simp only [Bool.or_eq_true, not_or, Bool.not_eq_true, Bool.not_eq_false', List.isEmpty_iff] at h
          rw [h.2, h.1.2]; exact two op op' e e' h.1.1.2 f

theorem chain_snd (S : SndE prog w base F n) (H : Here base A fl hid env sc σ n s.heap) {a : D} {va : Value} (r : Rep (Vw s.heap hid) a va) (ops : List CmpOp) (es : List Expr) (pos : Pos) :
    Does (model prog w) A fl s (compareChain pos va ops (markedEach ops es (evalEach es env))) (chainD F sc σ a ops es) (fun c v _ => v = .bool c) := fun Q E f => by
  refine chain_inv (X := fun ops es => wpAny (model prog w) A (compareChain pos va ops (markedEach ops es (evalEach es env))) Q E s) f (fun op e hs f => ?_) (fun op op' e e' hs f => ?_)
  · rw [marked1 hs]
    refine chain_last ((S.ev H).use f fun b vb h₁ tk₁ _ g₁ r₁ f₁ => ?_)
    exact cmp_does (H.grow g₁).u7 (r.mono (H.view g₁)) r₁ Q E f₁
  · rw [marked2 hs]
    refine chain_link ((S.ev H).use f fun b vb h₂ tk₂ _ g₂ r₂ f₂ => ?_)
    have H₂ := H.grow g₂
    refine (cmp_does H₂.u7 (r.mono (H.view g₂)) r₂).use f₂ fun c vc h₃ tk₃ _ g₃ r₃ f₃ => ?_
    rw [r₃]
    refine wpAny_truthy_bool ?_
    cases c with
    | false => exact f₃.ret rfl
    | true =>
      have H₃ := H₂.grow g₃
      refine chain_last ((S.ev H₃).use f₃ fun b' vb' h₄ tk₄ _ g₄ r₄ f₄ => ?_)
      exact cmp_does (H₃.grow g₄).u7 (r₂.mono (fun a o e => H₃.view g₄ a o (H₂.view g₃ a o e))) r₄ Q E f₄
theorem cmp_test {a b : D} {op : CmpOp} {va vb : Value} {Q : Bool → Shared → Prop} {E : Value → Shared → Prop} (hu : A.units + 7 < cLine) (ra : Rep (Vw s.heap hid) a va) (rb : Rep (Vw s.heap hid) b vb) (f : FinT fl s (R.of (cmpD op a b)) PB Q E) :
    wpAny (model prog w) A (compareOp op va vb) (fun v s' => wpAny (model prog w) A (truthy v) Q E s') E s := by
  refine cmp_does (fl := fl) hu ra rb _ E ?_
  cases hc : cmpD op a b with
  | none => rw [hc] at f; exact f.elim
  | some c =>
    rw [hc] at f
    exact fun v h' tk g' p => by subst p; exact wpAny_truthy_bool (f _ _ _ g' rfl)
theorem test_snd (S : SndE prog w base F n) (H : Here base A fl hid env sc σ n s.heap) {a : D} {va : Value} (r : Rep (Vw s.heap hid) a va) (ops : List CmpOp) (es : List Expr) (pos : Pos) :
    Does (model prog w) A fl s (testChain pos va ops (markedEach ops es (evalEach es env))) (chainD F sc σ a ops es) PB := fun Q E f => by
  refine chain_inv (X := fun ops es => wpAny (model prog w) A (testChain pos va ops (markedEach ops es (evalEach es env))) Q E s) f (fun op e hs f => ?_) (fun op op' e e' hs f => ?_)
  · rw [marked1 hs]
    refine test_last ((S.ev H).use f fun b vb h₁ tk₁ _ g₁ r₁ f₁ => ?_)
    exact cmp_test (H.grow g₁).u7 (r.mono (H.view g₁)) r₁ f₁
  · rw [marked2 hs]
    refine test_link ((S.ev H).use f fun b vb h₂ tk₂ _ g₂ r₂ f₂ => ?_)
    have H₂ := H.grow g₂
    refine (cmp_does H₂.u7 (r.mono (H.view g₂)) r₂).use f₂ fun c vc h₃ tk₃ _ g₃ r₃ f₃ => ?_
    rw [r₃]
    refine wpAny_truthy_bool ?_
    cases c with
    | false => exact f₃.ret rfl
    | true =>
      have H₃ := H₂.grow g₃
      refine test_last ((S.ev H₃).use f₃ fun b' vb' h₄ tk₄ _ g₄ r₄ f₄ => ?_)
      exact cmp_test (H₃.grow g₄).u7 (r₂.mono (fun a o e => H₃.view g₄ a o (H₂.view g₃ a o e))) r₄ f₄

theorem cmp_snd (S : SndE prog w base F n) (H : Here base A fl hid env sc σ n s.heap) (l : Expr) (ops : List CmpOp) (es : List Expr) (pos : Pos) :
    Does (model prog w) A fl s (eval (.Compare l ops es pos) env) ((F.ev sc σ l).bind fun a => (chainD F sc σ a ops es).map .bool) (PV hid) := fun Q E f => by
  rw [arm_eval_Compare]
  refine wpAny_bind ((S.ev H).use f fun a va h₁ tk₁ _ g₁ r₁ f₁ => ?_)
  refine chain_snd S (H.grow g₁) r₁ ops es pos Q E (f₁.map fun c v h' tk _ g' p k => ?_)
  subst p
  exact k _ _ _ (Gr.refl _ _ _) (rep_bool.mpr rfl)

theorem star_cons {e : Expr} {es : List Expr} (h : starred e = false) : starEach (e :: es) env = (false, eval e env) :: starEach es env := by
  cases e <;> first | rfl | exact no_true h.symm
theorem evs_snd (S : SndE prog w base F n) (pos : Pos) : ∀ (es : List Expr) (s : Shared), Here base A fl hid env sc σ n s.heap → es.any starred = false →
    Does (model prog w) A fl s (spliced (backTo pos (starEach es env))) (evs F sc σ es) (PVs hid)
  | [], s, H, _ => fun Q E f => wpAny_items_nil (f _ s.heap s.toks (Gr.refl _ _ _) reps_nil')
  | e :: es, s, H, hs => fun Q E f => by
    have hs' : starred e = false ∧ es.any starred = false := by simpa using hs
    refine wpAny_items_cons ?_ (star_cons hs'.1)
    have f : FinT fl s ((F.ev sc σ e).bind fun y => (mapR (F.ev sc σ) es).map (y :: ·)) (PVs hid) Q E := f
    refine (S.ev H).use f fun d v h₁ tk₁ _ g₁ r₁ f₁ => ?_
    refine evs_snd S pos es _ (H.grow g₁) hs'.2 _ E (f₁.map fun ds vs h' tk _ g' p k => ?_)
    exact k _ _ _ (Gr.refl _ _ _) (reps_cons' (r₁.mono ((H.grow g₁).view g')) p)

theorem disp_ok {es : List Expr} (h : ¬ (es.any starred || decide (big < es.length)) = true) : es.any starred = false ∧ es.length ≤ big := by
  simp only [Bool.or_eq_true, not_or, Bool.not_eq_true, decide_eq_true_eq, Nat.not_lt] at h
  exact h
theorem list_snd (S : SndE prog w base F n) (H : Here base A fl hid env sc σ n s.heap) (es : List Expr) (pos : Pos) :
    Does (model prog w) A fl s (eval (.List es pos) env) (if es.any starred || decide (big < es.length) then .bad else (evs F sc σ es).map .list) (PV hid) := fun Q E f => f.itn fun h f => by
  refine el_AT (disp_ok h) fun hs hl => ?_
  refine wpAny_List (evs_snd S pos es s H hs _ E (f.map fun ds vs h' tk e g' p k => ⟨?_, ?_⟩))
  · rw [reps_length p, mapR_length e]; exact Nat.le_trans hl big_le
  · exact k _ _ _ (Gr.push _) ((H.grow g').cx.newList (s := { s with heap := h', toks := tk }) p)

theorem tuple_snd (S : SndE prog w base F n) (H : Here base A fl hid env sc σ n s.heap) (es : List Expr) (k : Nat) (pos : Pos) :
    Does (model prog w) A fl s (eval (.Tuple es k pos) env) (if es.any starred || decide (big < es.length) then .bad else (evs F sc σ es).map .tuple) (PV hid) := fun Q E f => f.itn fun h f => by
  refine el_AT (disp_ok h) fun hs hl => ?_
  refine wpAny_Tuple (evs_snd S pos es s H hs _ E (f.map fun ds vs h' tk e g' p k => ⟨?_, ?_⟩))
  · rw [reps_length p, mapR_length e]; exact Nat.le_trans hl big_le
  · exact k _ _ _ (Gr.push _) ((H.grow g').cx.newTuple (s := { s with heap := h', toks := tk }) p)

theorem bool_snd (S : SndE prog w base F n) (op : BoolOp) : ∀ (es : List Expr) (s : Shared), Here base A fl hid env sc σ n s.heap → Does (model prog w) A fl s (allTrue op es env) (boolT F sc σ op es) PB
  | [], s, H => fun Q E f => by
    have q : Q (op == .And) s := f _ s.heap s.toks (Gr.refl _ _ _) rfl
    exact wpAny_pure q
  | e :: es, s, H => fun Q E f => by
    cases op with
    | And =>
      refine wpAny_allTrue_And_cons ((S.evT H).use f fun c c' h₁ tk₁ _ g₁ r₁ f₁ => ?_)
      subst r₁
      cases c' with
      | false => exact f₁.ret rfl
      | true => exact bool_snd S .And es _ (H.grow g₁) Q E f₁
    | Or =>
      refine wpAny_allTrue_Or_cons ((S.evT H).use f fun c c' h₁ tk₁ _ g₁ r₁ f₁ => ?_)
      subst r₁
      cases c' with
      | true => exact f₁.ret rfl
      | false => exact bool_snd S .Or es _ (H.grow g₁) Q E f₁

theorem test_value (S : SndE prog w base F n) (H : Here base A fl hid env sc σ n s.heap) (e : Expr) (he : isTrue e env (eval e env) = (do let v ← eval e env; standAt e.pos; holding [v] (truthy v))) :
    Does (model prog w) A fl s (isTrue e env (eval e env)) ((F.ev sc σ e).bind fun a => R.of (truthD a)) PB := fun Q E f =>
  wpAny_isTrue_value ((S.ev H).use f fun _ _ _ _ _ _ r₁ f₁ => truth_does r₁ Q E f₁) he

theorem evT_snd (S : SndE prog w base F n) (H : Here base A fl hid env sc σ n s.heap) (e : Expr) : Does (model prog w) A fl s (isTrue e env (eval e env)) (evTS F sc σ e) PB := by
  cases e with
  | UnaryOp op x pos =>
    cases op with
    | Not => exact fun Q E f => wpAny_isTrue_Not (S.evT H _ E (FinT.map (P' := PB) f fun c c' h' tk _ g' p k => by subst p; exact k _ _ _ (Gr.refl _ _ _) rfl))
    | _ => exact test_value S H _ rfl
  | BoolOp op vs pos => exact fun Q E f => wpAny_isTrue_BoolOp (bool_snd S op vs s H Q E f)
  | IfExp t a b pos =>
      intro Q E f
      show wpAny _ A (do if ← isTrue t env (eval t env) then isTrue a env (eval a env) else isTrue b env (eval b env)) Q E s
      refine wpAny_bind ((S.evT H).use f fun c c' h₁ tk₁ _ g₁ r₁ f₁ => ?_)
      subst r₁
      cases c' <;> exact (S.evT (H.grow g₁)) Q E f₁
  | Compare l ops es pos =>
      intro Q E f
      show wpAny _ A (do testChain pos (← eval l env) ops (markedEach ops es (evalEach es env))) Q E s
      refine wpAny_bind ((S.ev H).use f fun a va h₁ tk₁ _ g₁ r₁ f₁ => ?_)
      exact test_snd S (H.grow g₁) r₁ ops es pos Q E f₁
  | _ => exact test_value S H _ rfl
end
end Mine
end
section
namespace Mine

theorem Xc.ofNew {fl : List Env} {h h' : Heap} {e : Addr} {cls : String} {m : Str} (x : Heap.NewExc h h' e cls) : Xc fl h e (.type cls) m h' := by
  refine el_EEAAT (x.there) fun ob t h1 h2 h3 => ?_
  exact ⟨Gr.keeps0 x.keeps, x.new, ob, _, t, h1, h2, h3, rfl, (fun ⟨C, q⟩ => by cases q), .inl rfl⟩

theorem reps_pick {ρ : PH} {l : List D} {vs : List Value} (r : Reps ρ l vs) : ∀ idx : List Nat, Reps ρ (idx.filterMap (l[·]?)) (idx.filterMap (vs[·]?))
  | [] => reps_nil'
  | i :: idx => by
    rw [List.filterMap_cons, List.filterMap_cons]
    cases h : l[i]? with
    | none =>
      have hv : vs[i]? = none := by
        rw [List.getElem?_eq_none_iff] at h ⊢
        rw [reps_length r]; exact h
      rw [hv]; exact reps_pick r idx
    | some d =>
      refine el_EAT (reps_get r h) fun v hv q => ?_
      rw [hv]; exact reps_cons' q (reps_pick r idx)

theorem cutL_reps {ρ : PH} {l : List D} {vs : List Value} (r : Reps ρ l vs) (lo hi : Option Int) : Reps ρ (cutL l lo hi) (cutL vs lo hi) := by
  unfold cutL
  rw [reps_length r]
  exact reps_take _ (reps_drop _ r)
theorem pickL_reps {ρ : PH} {l : List D} {vs : List Value} (r : Reps ρ l vs) (k : Int) : Reps ρ (pickL l k) (pickL vs k) := by
  unfold pickL
  rw [reps_length r]
  exact reps_pick r _

section
variable {g : G} {prog : Program} {w : World} {base : Heap} {A : Around} {fl : List Env} {hid : List Addr} {env : Env} {sc : Scope} {σ : Vs} {n : Nat} {s : Shared} {F : Fns}

theorem getL_does {vs : Array Value} {x : List D} {k : Int} {Q E : Value → Shared → Prop} (rl : Reps (Vw s.heap hid) x vs.toList) (f : FinT fl s (itemD x k) (PV hid) Q E)
    {X : Prop} (c : ∀ j v, k.natAbs < 2 ^ 62 → seqIndex? k vs.size = some j → vs.toList[j]? = some v → Q v s → X) : X := by
  refine f.ite fun hk f => f.ofI' fun d hd f => ?_
  refine bind_some hd fun j hj hx => ?_
  refine el_EAT (reps_get rl hx) fun v hv rv => ?_
  exact c j v hk (by rw [show vs.size = x.length by simpa using reps_length rl]; exact hj) hv (f.val rv)

theorem get_does (c : Cx base A fl hid s.heap) {o i : D} {vo vi : Value} {value slice : Expr} (ro : Rep (Vw s.heap hid) o vo) (ri : Rep (Vw s.heap hid) i vi)
    (hs : ∀ a b, subscripted slice false a b = operate [a, b] (getItem a b)) : Does (model prog w) A fl s (subscriptTail value slice vo vi) (getD o i) (PV hid) := fun Q E f => by
  refine f.ofR fun k hk f => rep_i ri hk fun u => ?_
  cases o with
  | list x =>
    refine ro.list fun l vs nl hl rl => getL_does rl f fun j v hk hj hv q => ?_
    refine tail_any hl.typeIs slot_list_getitem.lookup ?_ (hs _ _)
    unfold seqIndex? at hj
    by_cases h0 : k < 0
    · rw [if_pos h0] at hj
      refine el_AT (ite_some hj) fun hj' hj => ?_
      cases hj
      simp only [Bool.and_eq_true, decide_eq_true_eq] at hj'
      exact wpAny_getItem_list_neg hl h0 (by omega) (by omega) (by simpa using hv) q
    · rw [if_neg h0] at hj
      refine el_AT (ite_some hj) fun hj' hj => ?_
      cases hj
      exact wpAny_getItem_list hl (by omega) (by omega) (by simpa using hv) q
  | tuple x =>
    refine ro.tuple fun l vs nl hl rl => getL_does rl f fun j v hk hj hv q => ?_
    exact item_tupleT (l := vs.toList) (show IsTup s.heap l vs.toList.toArray from by rw [Array.toArray_toList]; exact hl) (by omega) (by omega) (by simpa using hj) hv q (hs _ _)
  | str x =>
    refine ro.str fun t => FinT.ite f fun hk f => ?_
    have hr : (decide (k < -(2 ^ 63 : Int)) || decide (k ≥ 2 ^ 63)) = false := by simp; omega
    cases hc : (seqIndex? k x.length).bind (x.cps[·]?) with
    | some ch =>
      rw [hc] at f
      exact tail_any (typeIs_str s x t) PySem.F.slot_str_getitem.lookup (P.getItem_str hr hc (FinT.ret f (rep_str.mpr ⟨_, rfl⟩))) (hs _ _)
    | none =>
      rw [hc] at f
      refine tail_any (typeIs_str s x t) PySem.F.slot_str_getitem.lookup ?_ (hs _ _)
      refine getItem_meets (typeIs_str s x t) (by decide) PySem.F.slot_str_getitem PySem.F.entry_str_getitem (PySem.F.args_str_getitem_2 _ _) (raises_str_getitem x k t u hr hc) ⟨c.hd, fun h' tk e x => ?_⟩
      exact f e h' tk (Xc.ofNew x)
  | bytes x =>
    refine ro.bytes fun t => FinT.ite f fun hk f => ?_
    refine tail_any (typeIs_bytes s x t) FB.slot_bytes_getitem.lookup ?_ (hs _ _)
    have := getItem_bytes (prog := prog) (w := w) (A := A) (E := E) (s := s) (t := t) (u := u) (l := x.toList) (i := k) (Q := Q) (by have := hk.2.2; simp; unfold big at this; omega) hk.1 (by simpa using hk.2.1) (f.ret (rep_int.mpr ⟨_, rfl⟩))
    simpa using this
  | _ => exact f.elim

theorem sub_plain {i : Expr} (hn : Expr.slice? i = none) (a b : Value) : subscripted i false a b = operate [a, b] (getItem a b) := by
  cases i <;> first | rfl | exact no_some hn.symm
theorem sub_snd (S : SndE prog w base F n) (H : Here base A fl hid env sc σ n s.heap) (o i : Expr) (pos : Pos) (hn : Expr.slice? i = none) :
    Does (model prog w) A fl s (eval (.Subscript o i pos) env) ((F.ev sc σ o).bind fun ov => (F.ev sc σ i).bind fun iv => getD ov iv) (PV hid) := fun Q E f => by
  refine Subscript_ ((S.ev H).use f fun a va h₁ tk₁ _ g₁ r₁ f₁ => ?_)
  refine (S.ev (H.grow g₁)).use f₁ fun b vb h₂ tk₂ _ g₂ r₂ f₂ => ?_
  exact get_does ((H.grow g₁).grow g₂).cx (r₁.mono ((H.grow g₁).view g₂)) r₂ (sub_plain hn) Q E f₂

noncomputable abbrev PO (hid : List Addr) : Option D → Value → Heap → Prop := fun d v h => match d with | none => v = .none | some d => Rep (Vw h hid) d v
theorem part_snd (S : SndE prog w base F n) (H : Here base A fl hid env sc σ n s.heap) (e : Option Expr) : Does (model prog w) A fl s (evalPart e env) (optE F sc σ e) (PO hid) := fun Q E f => by
  cases e with
  | none => exact wpAny_pure (f _ s.heap s.toks (Gr.refl _ _ _) rfl)
  | some e =>
    rw [evalPart_some]
    exact S.ev H Q E (FinT.map f fun a b h' tk _ g' p k => k _ _ _ (Gr.refl _ _ _) p)

theorem part_of {h : Heap} {d : Option D} {v : Value} {k : Option Int} (p : PO hid d v h) (e : partD d = some k) : IsPart v k := by
  cases d with
  | none => cases e; have q : v = .none := p; subst q; exact .none
  | some d =>
    have p : Rep (Vw h hid) d v := p
    have e : (if d.isNone then some none else d.int?.map some) = some k := e
    by_cases hd : d.isNone = true
    · rw [if_pos hd] at e
      rw [D.isNone_t hd] at p
      cases e; rw [rep_none.mp p]; exact .none
    · rw [if_neg hd] at e
      refine map_some e fun i hi e => ?_
      rw [← e]
      exact rep_i p hi fun t => .int _ _

theorem PO.mono {h h' : Heap} {d : Option D} {v : Value} (p : PO hid d v h) (l : PH.le (Vw h hid) (Vw h' hid)) : PO hid d v h' := by
  cases d with
  | none => exact p
  | some d => exact Rep.mono l p

theorem strIdx_eq (lo hi : Option Int) (n : Nat) : Builtin.Str.strSliceIndices lo hi 1 n = sliceRange (sliceBounds lo hi none n).1 (sliceBounds lo hi none n).2.1 (sliceBounds lo hi none n).2.2 := rfl

theorem clip_le (n : Nat) (i : Int) : clipAt n i ≤ n := by unfold clipAt; omega
theorem hi_le (n : Nat) (hi : Option Int) : hi.elim n (clipAt n) ≤ n := by
  cases hi with
  | none => exact Nat.le_refl _
  | some i => exact clip_le n i
theorem cutL_length_le {α : Type} (l : List α) (lo hi : Option Int) : (cutL l lo hi).length ≤ l.length := by
  unfold cutL
  rw [List.length_take, List.length_drop]
  exact Nat.le_trans (Nat.min_le_right _ _) (Nat.sub_le _ _)

theorem sliceStr_does {x : Str} {t : Tok} {q r : Option (Int × Tok)} {a b : Option Int} (idx : slicePicked x q r none = (List.range (b.elim x.length (clipAt x.length) - a.elim 0 (clipAt x.length))).map (a.elim 0 (clipAt x.length) + ·))
    (pick : (slicePicked x q r none).filterMap (x.cps[·]?) = cutL x.cps.toList a b) (hx : x.length ≤ big) (h2 : (cutL x.cps.toList a b).length ≤ sizeLine) {Q E : Value → Shared → Prop} (f : FinT fl s (.ok (D.str ⟨(cutL x.cps.toList a b).toArray⟩)) (PV hid) Q E) : (sliceMade x t q r none).post Q s := by
  unfold sliceMade
  by_cases hw : (((none : Option (Int × Tok)).map (·.1)).getD 1 == 1 && (slicePicked x q r none).length == x.length) = true
  · rw [if_pos hw]
    have hlen : (slicePicked x q r none).length = x.length := by simpa using hw
    rw [idx, List.length_map, List.length_range] at hlen
    have hb' := hi_le x.length b
    have : cutL x.cps.toList a b = x.cps.toList := by
      unfold cutL
      have e5 : x.cps.toList.length = x.length := by simp [Str.length]
      rw [e5, hlen]
      by_cases hn : x.length = 0
      · have : x.cps.toList = [] := List.length_eq_zero_iff.mp (by rw [e5, hn])
        rw [this]; simp
      · have : a.elim 0 (clipAt x.length) = 0 := by omega
        rw [this, List.drop_zero]
        exact List.take_of_length_le (by omega)
    refine f _ _ _ (Gr.refl _ _ _) (rep_str.mpr ⟨t, ?_⟩)
    rw [this]
  · rw [if_neg hw, pick]
    exact ⟨by simpa [Str.length] using h2, f.ret (rep_str.mpr ⟨_, rfl⟩)⟩

theorem slice_at (c : Cx base A fl hid s.heap) {ad : Addr} {h : Heap} {o : D} {lo hi st : Option D} {vo vl vu vs : Value} {value : Expr} {le he se : Option Expr} {p : Pos} (ro : Rep (Vw s.heap hid) o vo) (hsl : s.heap.IsSliceOf ad vl vu vs) (pl : PO hid lo vl h) (pu : PO hid hi vu h) (ps : PO hid st vs h)
    (hst : st.isSome = se.isSome) {Q E : Value → Shared → Prop} (f : FinT fl s (R.of (sliceD o lo hi st)) (PV hid) Q E) :
    wpAny (model prog w) A (subscriptTail value (.Slice le he se p) vo (.ref ad)) Q E s := by
  cases st with
  | none =>
    cases se with
    | some e => cases hst
    | none =>
    have ev : vs = .none := ps
    subst ev
    refine FinT.ofB f fun a ha f => f.ofB fun b hb f => ?_
    cases o with
    | list x =>
      refine ro.list fun l ws nl hl rl => f.ofI fun hx f => ?_
      have e1 : ws.size = x.length := by simpa using reps_length rl
      refine tail_any (ops := [_, _]) hl.typeIs slot_list_getitem.lookup ?_ rfl
      refine wpAny_getItem_list_slice hl hsl (part_of pl ha) (part_of pu hb) .none (by simp) ?_ (by rw [e1]; exact Nat.le_trans hx big_le)
      refine f _ _ _ (Gr.push _) (c.newList ?_)
      rw [slicePick_plain]
      have := cutL_reps rl a b
      unfold cutL at this ⊢
      simpa using this
    | str x =>
      refine ro.str fun t => f.ofI fun hx f => ?_
      refine tail_any (ops := [_, _]) (typeIs_str _ x t) PySem.F.slot_str_getitem.lookup ?_ rfl
      have toP : ∀ {v : Value} {k : Option Int}, IsPart v k → ∃ q : Option (Int × Tok), v = partValue q ∧ q.map (·.1) = k := fun h => by
        cases h with
        | none => exact ⟨none, rfl, rfl⟩
        | int i t => exact ⟨some (i, t), rfl, rfl⟩
      refine el_EAT (toP (part_of pl ha)) fun ql e1 e2 => ?_
      refine el_EAT (toP (part_of pu hb)) fun qu e3 e4 => ?_
      subst e1 e3
      refine wpAny_getItem_str_slice (l := ql) (u := qu) (st := none) hsl rfl ?_
      have idx : slicePicked x ql qu none = (List.range (b.elim x.length (clipAt x.length) - a.elim 0 (clipAt x.length))).map (a.elim 0 (clipAt x.length) + ·) := by
        show Builtin.Str.strSliceIndices (ql.map (·.1)) (qu.map (·.1)) 1 x.length = _
        rw [e2, e4, strIdx_eq, sliceBounds_plain, sliceRange_one]
      have pick : (slicePicked x ql qu none).filterMap (x.cps[·]?) = cutL x.cps.toList a b := by
        rw [idx, pick_run]
        unfold cutL
        simp [Str.length]
      exact sliceStr_does idx pick hx (Nat.le_trans (cutL_length_le x.cps.toList a b) (by simpa [Str.length] using Nat.le_trans hx big_le)) f
    | bytes x =>
      refine ro.bytes fun t => f.ofI fun hx f => ?_
      refine tail_any (ops := [_, _]) (typeIs_bytes _ x t) FB.slot_bytes_getitem.lookup ?_ rfl
      refine getItem_meets (typeIs_bytes _ _ _) (by decide) FB.slot_bytes_getitem FB.entry_bytes_getitem (FB.args_bytes_getitem_2 _ _) (KBc.meets_slice2 x t _ (part_of pl ha) (part_of pu hb))
        ⟨hsl, Nat.le_trans (KBc.size_picked_le x a b) (Nat.le_trans hx big_le), fun t' k => f.ret (rep_bytes.mpr ⟨t', ?_⟩)⟩
      rw [KBc.picked_eq]
      unfold cutL
      simp
    | _ => exact f.elim
  | some kd =>
    cases se with
    | none => cases hst
    | some e =>
    have ps : Rep _ kd vs := ps
    refine FinT.ofI f fun hn f => ?_
    refine el_AT (Bool.and_eq_true_iff.mp hn) fun n1 n2 => ?_
    rw [Option.isNone_iff_eq_none.mp n1] at pl
    rw [Option.isNone_iff_eq_none.mp n2] at pu
    have e1 : vl = .none := pl
    have e2 : vu = .none := pu
    subst e1 e2
    refine f.ofB fun k hk f => ?_
    revert hsl
    refine rep_i ps hk fun t hsl => ?_
    refine FinT.list ro f fun x l ws nl hl rl f => f.ofI fun hk f => ?_
    have e1 : ws.size = x.length := by simpa using reps_length rl
    refine tail_any (ops := [_, _]) hl.typeIs slot_list_getitem.lookup ?_ rfl
    refine wpAny_getItem_list_slice hl hsl .none .none (.int k t) (by simp; omega) ?_ (by rw [e1]; exact Nat.le_trans hk.2 big_le)
    refine f _ _ _ (Gr.push _) (c.newList ?_)
    have := pickL_reps rl k
    unfold pickL at this ⊢
    unfold slicePick
    simpa using this

theorem slice_does (c : Cx base A fl hid s.heap) {o : D} {lo hi st : Option D} {vo vl vu vs : Value} {value : Expr} {le he se : Option Expr} {p : Pos} (ro : Rep (Vw s.heap hid) o vo) (pl : PO hid lo vl s.heap) (pu : PO hid hi vu s.heap) (ps : PO hid st vs s.heap)
    (hst : st.isSome = se.isSome) {Q E : Value → Shared → Prop} (f : FinT fl s (R.of (sliceD o lo hi st)) (PV hid) Q E) :
    wpAny (model prog w) A (subscriptTail value (.Slice le he se p) vo (.ref s.heap.objs.size)) Q E { s with heap := s.heap.push { cls := .type "slice", data := .fields #[vl, vu, vs] } } :=
  slice_at (s := { s with heap := s.heap.push { cls := .type "slice", data := .fields #[vl, vu, vs] }, toks := s.toks }) (c.grow (Gr.push _)) (ro.mono (c.view (Gr.push _))) (Heap.IsSliceOf.new _ _ _ _) pl pu ps hst (f.shift (Gr.push _))

theorem optE_some {e : Option Expr} {d : Option D} (h : optE F sc σ e = .ok d) : d.isSome = e.isSome := by
  cases e with
  | none => cases h; rfl
  | some e =>
    simp only [optE] at h
    cases he : F.ev sc σ e with
    | ok a => rw [he] at h; cases h; rfl
    | exc c m => rw [he] at h; cases h
    | bad => rw [he] at h; cases h

theorem slice_snd (S : SndE prog w base F n) (H : Here base A fl hid env sc σ n s.heap) (o : Expr) (lo hi st : Option Expr) (p pos : Pos) :
    Does (model prog w) A fl s (eval (.Subscript o (.Slice lo hi st p) pos) env) ((F.ev sc σ o).bind fun ov => (optE F sc σ lo).bind fun a => (optE F sc σ hi).bind fun b => (optE F sc σ st).bind fun c => R.of (sliceD ov a b c)) (PV hid) := fun Q E f => by
  refine Subscript_ ((S.ev H).use f fun a va h₁ tk₁ _ g₁ r₁ f₁ => wpAny_Slice ?_)
  have H₁ := H.grow g₁
  refine (part_snd S H₁ lo).use f₁ fun dl vl h₂ tk₂ _ g₂ r₂ f₂ => ?_
  have H₂ := H₁.grow g₂
  refine (part_snd S H₂ hi).use f₂ fun dh vu h₃ tk₃ _ g₃ r₃ f₃ => ?_
  have H₃ := H₂.grow g₃
  refine (part_snd S H₃ st).use f₃ fun ds vs h₄ tk₄ es g₄ r₄ f₄ => ?_
  have l34 := H₃.view g₄
  have l23 : PH.le (Vw h₂ hid) (Vw h₄ hid) := fun a o e => l34 a o (H₂.view g₃ a o e)
  have l12 : PH.le (Vw h₁ hid) (Vw h₄ hid) := fun a o e => l23 a o (H₁.view g₂ a o e)
  refine slice_does (H₃.grow g₄).cx (r₁.mono l12) (PO.mono r₂ l23) (PO.mono r₃ l34) r₄ ?_ f₄
  exact optE_some es

end
end Mine
end
section
namespace Mine

theorem ints_of {ρ : PH} : ∀ {l : List D} {vs : List Value} {xs : List Int}, intL l = some xs → Reps ρ l vs → IntsAre vs xs := by
  intro l
  induction l with
  | nil => intro vs xs h r; cases h; rw [reps_nil.mp r]; exact .nil
  | cons d l ih =>
    intro vs xs h r
    refine el_EEAAT (reps_cons.mp r) fun v r' hr2 h1 h2 => ?_
    subst hr2
    refine bind_some h fun i hi h => map_some h fun ys h3 h => ?_
    rw [← h]
    exact rep_i h1 hi fun t => .cons _ _ (ih h3 h2)

set_option tactic.hygienic true in
theorem toBytes_some : ∀ {xs : List Int} {b : List UInt8}, toBytes? xs = some b → b.toArray = byteArr xs ∧ (∀ n ∈ xs, 0 ≤ n ∧ n < 256) ∧ b.length = xs.length := by
  intro xs
  induction xs with
  | nil => intro b h; cases h; exact ⟨rfl, by simp, rfl⟩
  | cons x xs ih =>
    intro b h
    simp only [toBytes?] at h
    split at h
    · rename_i hx
      refine el_EAT (Option.map_eq_some_iff.mp h) fun c h3 hr2 => ?_
      subst hr2
      refine el_AAT (ih h3) fun i1 i2 i3 => ?_
      refine ⟨?_, ?_, by simp [i3]⟩
      · unfold byteArr at i1 ⊢
        have : c = xs.map fun n => n.toNat.toUInt8 := by
          have := congrArg Array.toList i1
          simpa using this
        rw [this]; simp
      · intro n hn
        rcases List.mem_cons.mp hn with rfl | hn
        · exact hx
        · exact i2 n hn
    · cases h

set_option tactic.hygienic true in
theorem intItems_of : ∀ {vs : List Value} {xs : List Int}, IntsAre vs xs → ∃ ps : Array (Int × Tok), vs.toArray = intItems ps ∧ ps.toList.map (·.1) = xs := by
  intro vs xs h
  induction h with
  | nil => exact ⟨#[], by simp [intItems], rfl⟩
  | cons n t h ih =>
    rename_i vs ns
    refine el_EAT (ih) fun ps h1 h2 => ?_
    refine ⟨((n, t) :: ps.toList).toArray, ?_, by simp [h2]⟩
    have h3 : vs = (intItems ps).toList := by rw [← h1]
    rw [h3]
    simp [intItems]


section
variable {g : G} {prog : Program} {w : World} {base : Heap} {A : Around} {fl : List Env} {hid : List Addr} {s : Shared}

theorem isi_bytes_str {b : Array UInt8} {t : Tok} {Q E : Value → Shared → Prop} (h : Q (.bool false) { s with toks := s.toks + 1 }) :
    wpAny (model prog w) A (call (.builtin "isinstance") [.bytes b t, .type "str"]) Q E s := by
  refine call_isinstance (S := fun _ R s => R (.ok (.ret (.bool false))) { s with toks := s.toks + 1 }) (fun _ _ _ _ s hs => ?_) h
  obtain ⟨h, g, d, t, os⟩ := s
  exact isinstance_outer (isinstance_nested_false_bytes (by decide +kernel) PySem.F.isi_meta_str (by rw [isSubtype_type]; kernel_rfl) hs)

theorem isi_bytes_tys {b : Array UInt8} {t : Tok} {a : Addr} {Q E : Value → Shared → Prop} (ha : s.heap.get? a = some { cls := .type "tuple", data := .seq [Value.type "bytes", Value.type "bytearray"].toArray }) (h : ∀ tk, Q (.bool true) { s with toks := tk }) :
    wpAny (model prog w) A (call (.builtin "isinstance") [.bytes b t, .ref a]) Q E s := by
  refine call_isinstance (isinstance_tuple (Tx := "bytes") (cs := [Value.type "bytes", Value.type "bytearray"]) (vs := [true, false]) ⟨Answers.of_true PySem.F.isi_meta_bytes (by rw [isSubtype_type]; kernel_rfl), ?_, trivial⟩) ⟨typeIs_bytes s b t, ha, fun tk => h tk⟩
  exact fun dep tk prog w A R s hs => by
    obtain ⟨h, g, d, t, os⟩ := s
    exact isinstance_nested_false_bytes (by decide +kernel) PySem.F.isi_meta_bytearray (by rw [isSubtype_type]; kernel_rfl) (hs.2 (t + 1))

theorem len_does {d : D} {v : Value} (r : Rep (Vw s.heap hid) d v) : Does (model prog w) A fl s (call (.builtin "len") [v]) (R.of (lenD d)) (PV hid) := fun Q E f => by
  cases d with
  | list x =>
    refine r.list fun l ws nl hl rl => f.ofI fun hx f => ?_
    have e1 : ws.size = x.length := by simpa using reps_length rl
    refine Calls.call_len_list hl (by rw [e1]; unfold big at hx; omega) ?_
    rw [e1]
    exact f.ret (rep_int.mpr ⟨_, rfl⟩)
  | str x => exact r.str fun t => f.ofI fun hx f => P.len_str (by unfold big at hx; omega) (f.ret (rep_int.mpr ⟨_, rfl⟩))
  | bytes x => exact r.bytes fun t => f.ofI fun hx f => len_bytes (by unfold big at hx; omega) (f.ret (rep_int.mpr ⟨_, rfl⟩))
  | _ => exact f.elim
theorem isinst_does {d t : D} {v u : Value} (r : Rep (Vw s.heap hid) d v) (r' : Rep (Vw s.heap hid) t u) : Does (model prog w) A fl s (call (.builtin "isinstance") [v, u]) (R.of (isinstD d t)) (PV hid) := fun Q E f => by
  cases d with
  | str x =>
    refine r.str fun tk => FinT.type r' f fun n f => f.ofI fun hn f => ?_
    rw [eq_of_beq hn]
    exact IsiPair.str_str (f.val (rep_bool.mpr rfl))
  | bytes x =>
    refine r.bytes fun tk => ?_
    cases t with
    | type n =>
      refine r'.type (FinT.ofI f fun hn f => ?_)
      rw [eq_of_beq hn]
      exact isi_bytes_str (f.ret (rep_bool.mpr rfl))
    | tys l =>
      refine el_EAT (rep_tys.mp r') fun a hr1 ha => ?_
      subst hr1
      refine FinT.ofI f fun hn f => ?_
      rw [eq_of_beq hn] at ha
      exact isi_bytes_tys (Vw.of ha) fun tk => f.ret (rep_bool.mpr rfl)
    | _ => exact f.elim
  | _ => exact f.elim
theorem bi_does (c : Cx base A fl hid s.heap) {id : String} {args : List D} {vs : List Value} (r : Reps (Vw s.heap hid) args vs) :
    Does (model prog w) A fl s (call (.builtin id) vs) (R.of (biD id args)) (PV hid) := fun Q E f => by
  unfold biD at f
  by_cases h1 : (id == "len") = true
  · rw [if_pos h1] at f; rw [eq_of_beq h1]
    exact FinT.one r f fun d v r f => len_does r Q E f
  rw [if_neg h1] at f
  by_cases h2 : (id == "sum") = true
  · rw [if_pos h2] at f; rw [eq_of_beq h2]
    refine FinT.one r f fun d v r f => FinT.list r f fun x l ws nl hl rl f => f.ofM fun xs hx f => ?_
    refine el_EAT (intItems_of (ints_of hx rl)) fun ps q1 q2 => ?_
    refine sum_intListG c.hd (by rw [← q1]; simpa using hl) fun h' tk t' hk => ?_
    rw [preSum_eq, List.take_of_length_le (by simp), q2]
    exact f _ _ _ (Gr.keeps0 hk) (rep_int.mpr ⟨_, rfl⟩)
  rw [if_neg h2] at f
  by_cases h3 : (id == "chr") = true
  · rw [if_pos h3] at f; rw [eq_of_beq h3]
    exact FinT.one r f fun d v r f => FinT.int r f fun i t f => f.ofI fun hx f => P.chr_of_int (by simp; omega) (f.ret (rep_str.mpr ⟨_, rfl⟩))
  rw [if_neg h3] at f
  refine f.ofI fun h4 f => ?_
  rw [eq_of_beq h4]
  exact FinT.two r f fun p v u r r' f => isinst_does r r' Q E f

theorem typeq_does {d : D} {v : Value} (r : Rep (Vw s.heap hid) d v) : Does (model prog w) A fl s (call (.type "type") [v]) (R.of (typeD d)) (PV hid) := fun Q E f => by
  cases d with
  | bool => exact r.bool (call_type_of (PySem.typeIs_bool _ _) (by decide +kernel) (f.val (rep_type.mpr rfl)))
  | int => exact r.int fun _ => call_type_of (typeIs_int _ _ _) (by decide +kernel) (f.val (rep_type.mpr rfl))
  | str => exact r.str fun _ => call_type_of (typeIs_str _ _ _) (by decide +kernel) (f.val (rep_type.mpr rfl))
  | bytes => exact r.bytes fun _ => call_type_of (typeIs_bytes _ _ _) (by decide +kernel) (f.val (rep_type.mpr rfl))
  | list => exact r.list fun _ _ _ hl _ => call_type_of hl.typeIs (by decide +kernel) (f.val (rep_type.mpr rfl))
  | tuple => exact r.tuple fun _ _ _ hl _ => call_type_of hl.typeIs (by decide +kernel) (f.val (rep_type.mpr rfl))
  | _ => exact f.elim

theorem ty_does (c : Cx base A fl hid s.heap) {n : String} {args : List D} {vs : List Value} (r : Reps (Vw s.heap hid) args vs) :
    Does (model prog w) A fl s (call (.type n) vs) (R.of (tyD n args)) (PV hid) := fun Q E f => by
  refine FinT.one r f fun d v r f => ?_
  by_cases h1 : (n == "type") = true
  · rw [if_pos h1] at f; rw [eq_of_beq h1]
    exact typeq_does r Q E f
  rw [if_neg h1] at f
  refine f.ofI fun hn f => ?_
  rw [eq_of_beq hn]
  refine FinT.list r f fun x l ws nl hl rl f => f.ofB fun xs hx f => f.ofB fun b hb f => f.ofI fun hlen f => ?_
  refine el_AAT (toBytes_some hb) fun i1 i2 i3 => ?_
  have hi := ints_of hx rl
  refine call_bytes_ints (vs := ws.toList) (by simpa using hl) hi i2 (by rw [hi.length, ← i3]; exact Nat.le_trans hlen big_le) c.hd fun h' t k hk => ?_
  rw [← i1]
  exact f _ _ _ (Gr.keeps0 hk) (rep_bytes.mpr ⟨_, rfl⟩)
end
end Mine
end
section
namespace Mine
open Builtin

theorem gives_upper (b : Array UInt8) (t : Tok) : Gives (Builtin.«bytes.upper» ⟨[.bytes b t], []⟩) (.bytes (b.toList.map Bytes.toUpper).toArray) := .of_eq rfl
theorem gives_hex (b : Array UInt8) (t : Tok) : Gives (Builtin.«bytes.hex» ⟨[.bytes b t], []⟩) (.str ⟨b.toList.zipIdx.foldl (fun (out : Array Nat) (c, _) => (out.push (Bytes.hexDigit (c.toNat / 16))).push (Bytes.hexDigit (c.toNat % 16))) #[]⟩) := .of_eq rfl
theorem gives_maketrans (a b : Array UInt8) (t u : Tok) (h : a.size = b.size) : Gives (Builtin.«bytes.maketrans» ⟨[.bytes a t, .bytes b u], []⟩) (.bytes ((a.toList.zip b.toList).foldl (fun t (f, x) => t.setIfInBounds f.toNat x) ((Array.range 256).map (·.toUInt8)))) := by
  refine .of_wp fun M A E s Q hq => ?_
  show wpAny M A (Bytes.bytesLike "bytes.maketrans" (.bytes a t) >>= fun r => _) _ E s
  unfold Bytes.bytesLike
  rw [KBy.buffer_eq]
  show wpAny M A (Bytes.bytesLike "bytes.maketrans" (.bytes b u) >>= fun r => _) _ E s
  unfold Bytes.bytesLike
  rw [KBy.buffer_eq]
  show wpAny M A (if (a.size != b.size) = true then _ else _) _ E s
  rw [if_neg (by simp [h])]
  exact wpAny_bind (wpAny_mkBytes (wpAny_pure ⟨_, rfl, hq.2⟩) hq.1)
theorem gives_translate (b tb : Array UInt8) (t u : Tok) (h : tb.size = 256) : Gives (Builtin.«bytes.translate» ⟨[.bytes b t, .bytes tb u], []⟩) (if (((b.filter (!(#[] : Array UInt8).contains ·)).map fun c => tb.getD c.toNat c) == b) = true then .val (.bytes b t) else (.bytes ((b.filter (!(#[] : Array UInt8).contains ·)).map fun c => tb.getD c.toNat c))) := by
  refine .of_wp fun M A E s Q hq => ?_
  show wpAny M A (Bytes.bytesLike "bytes.translate" (.bytes tb u) >>= fun r => _) _ E s
  unfold Bytes.bytesLike
  rw [KBy.buffer_eq]
  show wpAny M A (if (tb.size != 256) = true then _ else _) _ E s
  rw [if_neg (by simp [h])]
  show wpAny M A (if (((b.filter (!(#[] : Array UInt8).contains ·)).map fun c => tb.getD c.toNat c) == b) = true then _ else _) _ E s
  by_cases hc : (((b.filter (!(#[] : Array UInt8).contains ·)).map fun c => tb.getD c.toNat c) == b) = true
  · rw [if_pos hc] at hq ⊢
    refine wpAny_bind (wpAny_rule ?_)
    exact wpAny_bind (wpAny_of_eq (a := .bytes b t) (by rfl) (wpAny_pure ⟨.bytes b t, rfl, hq⟩))
  · rw [if_neg hc] at hq ⊢
    exact wpAny_bind (wpAny_mkBytes (wpAny_pure ⟨_, rfl, hq.2⟩) hq.1)
open Builtin._codecs in
theorem encodeRoad_ascii (id : String) (self : Value) (x : Str) (errors : Option Str) : encodeRoad id self x (Str.ofString "ascii") errors = (do mkBytes (← encodeNarrow id asciiCodec errors self x)) := by
  first | rfl | (unfold encodeRoad; rfl) | (unfold encodeRoad; simp only []; rfl) | decide
open Builtin._codecs in
theorem encode_ascii_tree (x : Str) (t u : Tok) : «str.encode» ⟨[.str x t, .str "ascii" u], []⟩ = (do ret (← encodeRoad "str.encode" (.str x t) x (Str.ofString "ascii") none)) := by kernel_rfl
noncomputable abbrev NSt := Nat × Array UInt8 × Builtin._codecs.Faults
theorem loop_two (x : Str) (f : NSt → Sem (ForInStep NSt)) (s0 s1 : NSt) (h0 : x.length ≠ 0 → f s0 = pure (.yield s1)) (h1 : x.length ≠ 0 → f s1 = pure (.done s1)) (hn : x.length = 0 → s0 = s1) : (forIn [0:x.length] s0 (fun _ => f)) = pure s1 := by
  rw [Std.Legacy.Range.forIn_eq_forIn_range']
  have e : ([0:x.length] : Std.Legacy.Range).size = x.length := by simp [Std.Legacy.Range.size]
  rw [e]
  generalize x.length = n at *
  cases n with
  | zero => rw [hn rfl]; rfl
  | succ n =>
    rw [List.range'_succ, List.forIn_cons, h0 (by simp), pure_bind]
    cases n with
    | zero => rfl
    | succ n =>
      rw [List.range'_succ]
      show forIn (_ :: _) s1 _ = _
      rw [List.forIn_cons, h1 (by simp), pure_bind]
open Builtin._codecs in
theorem narrow_form (id : String) (self : Value) (x : Str) : ∃ f : NSt → Sem (ForInStep NSt), encodeNarrow id asciiCodec none self x = (forIn [0:x.length] ((0, #[], {}) : NSt) fun _ s => f s) >>= (fun s => pure s.2.1) ∧
    (∀ s, ¬ s.2.1.size > sizeLine → x.cps[s.1]? = none → f s = pure (.done s)) ∧
    (∀ s y, ¬ s.2.1.size > sizeLine → x.cps[s.1]? = some y → asciiCodec.bad y = false → f s = pure (.yield (s.1 + ((Array.findIdx? asciiCodec.bad (x.cps.extract s.1)).getD (x.cps.extract s.1).size), ((x.cps.extract s.1).extract 0 ((Array.findIdx? asciiCodec.bad (x.cps.extract s.1)).getD (x.cps.extract s.1).size)).foldl (fun acc y => acc ++ (asciiCodec.bytesOf y).toArray) s.2.1, s.2.2))) := by
  refine ⟨_, rfl, ?_, ?_⟩
  · intro s h e
    refine (if_neg h).trans ?_
    rw [e]
  · intro s y h e b
    refine (if_neg h).trans ?_
    rw [e]
    exact if_pos (by rw [b]; rfl)
open Builtin._codecs in
theorem narrow_ascii (id : String) (self : Value) (x : Str) (h : x.cps.all (· < 128) = true) (hs : x.length ≤ big) : encodeNarrow id asciiCodec none self x = pure (x.cps.map (·.toUInt8)) := by
  obtain ⟨f, e, f0, f1⟩ := narrow_form id self x
  have hbad : ∀ i (hi : i < x.cps.size), asciiCodec.bad x.cps[i] = false := fun i hi => by
    have := Array.all_eq_true.mp h i hi
    simp [asciiCodec] at this ⊢; exact this
  have hf : Array.findIdx? asciiCodec.bad x.cps = none := by
    rw [Array.findIdx?_eq_none_iff]
    intro y hy
    obtain ⟨i, hi, rfl⟩ := Array.mem_iff_getElem.mp hy
    exact hbad i hi
  have hfold : ∀ (l : List Nat) (acc : Array UInt8), (l.foldl (fun acc y => acc ++ (asciiCodec.bytesOf y).toArray) acc).toList = acc.toList ++ l.map (·.toUInt8) := by
    intro l
    induction l with
    | nil => simp
    | cons a l ih => intro acc; rw [List.foldl_cons, ih]; simp [asciiCodec]
  rw [e, loop_two x f _ (x.cps.size, x.cps.map (·.toUInt8), {})]
  · rfl
  · intro hl
    have hx : 0 < x.cps.size := Nat.pos_of_ne_zero hl
    have hz : x.cps.extract 0 = x.cps := by simp
    refine (f1 (0, #[], {}) x.cps[0] (Nat.not_lt_zero _) (Array.getElem?_eq_getElem hx) (hbad 0 hx)).trans ?_
    rw [hz, hf, Option.getD_none, hz, Nat.zero_add]
    congr 4
    apply Array.ext'
    rw [← Array.foldl_toList, hfold]; simp
  · intro hl
    refine f0 _ ?_ (Array.getElem?_eq_none (Nat.le_refl _))
    show ¬ (x.cps.map (·.toUInt8)).size > sizeLine
    rw [Array.size_map]; exact Nat.not_lt.mpr (Nat.le_trans hs big_le)
  · intro hl
    rw [show x.cps = #[] from Array.eq_empty_of_size_eq_zero hl, Array.map_empty]; rfl
theorem gives_encode_ascii (x : Str) (t u : Tok) (h : x.cps.all (· < 128) = true) (hs : x.length ≤ big) : Gives («str.encode» ⟨[.str x t, .str "ascii" u], []⟩) (.bytes (x.cps.map (·.toUInt8))) := by
  refine .of_eq ?_
  rw [encode_ascii_tree, encodeRoad_ascii, narrow_ascii _ _ _ h hs]
  rfl

theorem hex_fold (l : List (UInt8 × Nat)) (acc : Array Nat) : (l.foldl (fun (out : Array Nat) (p : UInt8 × Nat) => (out.push (Bytes.hexDigit (p.1.toNat / 16))).push (Bytes.hexDigit (p.1.toNat % 16))) acc) = acc ++ (hexNs (l.map (·.1))).toArray := by
  induction l generalizing acc with
  | nil => simp [hexNs]
  | cons a l ih =>
    rw [List.foldl_cons, ih]
    apply Array.ext'
    simp [hexNs, Bytes.hexDigit, hexN]

theorem split1_spec (c : Nat) : ∀ l : List Nat, (split1 c l = none ∧ ∀ i : Nat, l[i]? ≠ some c) ∨ ∃ i : Nat, l[i]? = some c ∧ (∀ k : Nat, k < i → l[k]? ≠ some c) ∧ split1 c l = some (l.take i, l.drop (i + 1))
  | [] => .inl ⟨rfl, by simp⟩
  | x :: r => by
    by_cases hx : x = c
    · exact .inr ⟨0, by simp [hx], fun k hk => absurd hk (Nat.not_lt_zero _), by simp [split1, hx]⟩
    · rcases split1_spec c r with ⟨h1, h2⟩ | ⟨i, h1, h2, h3⟩
      · refine .inl ⟨by simp [split1, hx, h1], fun i => ?_⟩
        cases i with
        | zero => simpa using hx
        | succ i => simpa using h2 i
      · refine .inr ⟨i + 1, by simpa using h1, fun k hk => ?_, by simp [split1, hx, h3]⟩
        cases k with
        | zero => simpa using hx
        | succ k => simpa using h2 k (by omega)

theorem occ_one (x : Str) (c : Nat) : (Builtin.Str.occurrences x ⟨#[c]⟩ 0 x.length 1 = [] ∧ split1 c x.cps.toList = none) ∨
    ∃ i, Builtin.Str.occurrences x ⟨#[c]⟩ 0 x.length 1 = [i] ∧ i < x.length ∧ split1 c x.cps.toList = some (x.cps.toList.take i, x.cps.toList.drop (i + 1)) := by
  have at_ : ∀ i, StrLaws.At x ⟨#[c]⟩ x.length i ↔ x.cps.toList[i]? = some c := fun i => StrLaws.subAt_one x c i
  rcases StrLaws.occ_head x ⟨#[c]⟩ 1 (Nat.le_refl _) with ⟨h1, h2⟩ | ⟨i, r, h1, h2, h3⟩
  · refine .inl ⟨h1, ?_⟩
    rcases split1_spec c x.cps.toList with ⟨q, _⟩ | ⟨i, q, _⟩
    · exact q
    · exact absurd ((at_ i).mpr q) (h2 i)
  · have hl := StrLaws.occ_length_le x ⟨#[c]⟩ 0 x.length 1
    rw [h1] at hl
    have hr : r = [] := by simpa using hl
    subst hr
    have hi := (at_ i).mp h2
    refine el_ET (List.getElem?_eq_some_iff.mp hi) fun hlt _ => ?_
    refine .inr ⟨i, h1, by simpa [Str.length] using hlt, ?_⟩
    rcases split1_spec c x.cps.toList with ⟨_, q⟩ | ⟨j, q1, q2, q3⟩
    · exact absurd hi (q i)
    · have : i = j := by
        rcases Nat.lt_trichotomy i j with hij | hij | hij
        · exact absurd hi (q2 i hij)
        · exact hij
        · exact absurd ((at_ j).mpr q1) (h3 j hij)
      subst this; exact q3

theorem strs_of {ρ : PH} : ∀ {l : List D} {vs : List Value} {xs : List Str}, strL l = some xs → Reps ρ l vs → ∃ ps : List (Str × Tok), vs = strValues ps ∧ ps.map (·.1) = xs := by
  intro l
  induction l with
  | nil => intro vs xs h r; cases h; rw [reps_nil.mp r]; exact ⟨[], rfl, rfl⟩
  | cons d l ih =>
    intro vs xs h r
    refine el_EEAAT (reps_cons.mp r) fun v r' hr2 h1 h2 => ?_
    subst hr2
    refine bind_some h fun i hi h => map_some h fun ys h3 h => ?_
    refine el_EAT (ih h3 h2) fun ps hr1 hr2 => ?_
    subst hr1
    subst hr2
    rw [← h]
    exact rep_s h1 hi fun t => ⟨(_, t) :: ps, rfl, rfl⟩

theorem glued_empty (sep : Str) (h : sep.length = 0) : ∀ xs : List Str, (Builtin.Str.glued sep xs).cps.toList = catS xs := by
  intro xs
  have hs : sep.cps = #[] := Array.eq_empty_of_size_eq_zero h
  have : ∀ (l : List Str) (acc : Array Nat), (l.foldl (fun acc p => acc ++ sep.cps ++ p.cps) acc).toList = acc.toList ++ catS l := by
    intro l
    induction l with
    | nil => simp [catS]
    | cons a l ih => intro acc; rw [List.foldl_cons, ih]; simp [catS, hs]
  unfold Builtin.Str.glued
  cases xs with
  | nil => simp [catS, Str.empty]
  | cons a l =>
    show (List.foldl _ a.cps l).toList = _
    rw [this]; simp [catS]
theorem joined_len (sep : Str) (h : sep.length = 0) (xs : List Str) : xs.toArray.foldl (fun n s => n + s.length + sep.length) 0 = (catS xs).length := by
  have : ∀ (l : List Str) (n : Nat), l.foldl (fun n s => n + s.length + sep.length) n = n + (catS l).length := by
    intro l
    induction l with
    | nil => simp [catS]
    | cons a l ih => intro n; rw [List.foldl_cons, ih, h]; simp [catS, Str.length]; omega
  rw [List.foldl_toArray, this]; simp
end Mine
end
section
set_option maxHeartbeats 4000000
namespace Mine
theorem slot_search : Slot "re.Pattern" "search" "re.Pattern.search" :=
  .of (owner := "re.Pattern") (n := "search") (by rw [typeLookup_type, builtinLookup_eq_fast]; kernel_rfl) (by decide +kernel) (by decide +kernel) (by decide +kernel)
    (by first | exact .inl (by decide +kernel) | exact .inr (by decide +kernel)) (by rw [isSubtype_type]; kernel_rfl)
theorem type_search : typeOf (.builtin "re.Pattern.search") = pure (.type "method_descriptor") := by show builtinType _ = _; rw [builtinType_eq_fast]; kernel_rfl
theorem entry_search : entryFor table "re.Pattern.search" = some Builtin.«re.Pattern.search» := entryFor_of_tree (by kernel_rfl)
theorem args_search (a b : Value) : argsOk "re.Pattern.search" ⟨[a, b], []⟩ := by unfold argsOk; kernel_rfl
theorem slot_upper : Slot "bytes" "upper" "bytes.upper" :=
  .of (owner := "bytes") (n := "upper") (by rw [typeLookup_type, builtinLookup_eq_fast]; kernel_rfl) (by decide +kernel) (by decide +kernel) (by decide +kernel)
    (by first | exact .inl (by decide +kernel) | exact .inr (by decide +kernel)) (by rw [isSubtype_type]; kernel_rfl)
theorem type_upper : typeOf (.builtin "bytes.upper") = pure (.type "method_descriptor") := by show builtinType _ = _; rw [builtinType_eq_fast]; kernel_rfl
theorem entry_upper : entryFor table "bytes.upper" = some Builtin.«bytes.upper» := entryFor_of_tree (by kernel_rfl)
theorem args_upper (a : Value) : argsOk "bytes.upper" ⟨[a], []⟩ := by unfold argsOk; kernel_rfl
theorem slot_translate : Slot "bytes" "translate" "bytes.translate" :=
  .of (owner := "bytes") (n := "translate") (by rw [typeLookup_type, builtinLookup_eq_fast]; kernel_rfl) (by decide +kernel) (by decide +kernel) (by decide +kernel)
    (by first | exact .inl (by decide +kernel) | exact .inr (by decide +kernel)) (by rw [isSubtype_type]; kernel_rfl)
theorem type_translate : typeOf (.builtin "bytes.translate") = pure (.type "method_descriptor") := by show builtinType _ = _; rw [builtinType_eq_fast]; kernel_rfl
theorem entry_translate : entryFor table "bytes.translate" = some Builtin.«bytes.translate» := entryFor_of_tree (by kernel_rfl)
theorem args_translate (a b : Value) : argsOk "bytes.translate" ⟨[a, b], []⟩ := by unfold argsOk; kernel_rfl
theorem entry_maketrans : entryFor table "bytes.maketrans" = some Builtin.«bytes.maketrans» := entryFor_of_tree (by kernel_rfl)
theorem check_maketrans (a b : Value) : checkBuiltinCall "bytes.maketrans" ⟨[a, b], []⟩ = pure () := by kernel_rfl
theorem plain_maketrans : plainId "bytes.maketrans" = true := by decide +kernel
theorem find_maketrans : findCls [] (.type "bytes") (.type "type") (Str.ofString "maketrans") = some (.val (.builtin "bytes.maketrans")) := by kernel_rfl
theorem plainAttrs_pattern : PlainAttrs "re.Pattern" := ⟨⟨"object.__getattribute__", by rw [typeLookup_type, builtinLookup_eq_fast]; kernel_rfl, by decide +kernel⟩, by rw [typeLookup_type, builtinLookup_eq_fast]; kernel_rfl⟩

section
open Builtin PySem.Sre
noncomputable def patCode : Array Nat := #[14, 12, 4, 1, 1, 21, 22, 48, 57, 22, 65, 70, 0, 13, 9, 21, 22, 48, 57, 22, 65, 70, 0, 1]
noncomputable def hexC (c : Nat) : Bool := (48 ≤ c && c ≤ 57) || (65 ≤ c && c ≤ 70)

theorem inSet_pat5 (c : Nat) (seen : Sre.Seen) : ∃ seen', inSet patCode c 24 5 true seen = .ok (!hexC c, seen') := by
  have e : inSet patCode c 24 5 true seen = (if (decide (48 ≤ c) && decide (c ≤ 57)) = true then .ok (false, (seen.add 21).add 22) else if (decide (65 ≤ c) && decide (c ≤ 70)) = true then .ok (false, ((seen.add 21).add 22).add 22) else .ok (true, (((seen.add 21).add 22).add 22).add 0)) := rfl
  rw [e]
  unfold hexC
  by_cases h1 : (decide (48 ≤ c) && decide (c ≤ 57)) = true
  · rw [if_pos h1, h1]; exact ⟨_, rfl⟩
  · rw [if_neg h1]
    by_cases h2 : (decide (65 ≤ c) && decide (c ≤ 70)) = true
    · rw [if_pos h2, h2, Bool.or_true]; exact ⟨_, rfl⟩
    · rw [if_neg h2, Bool.eq_false_iff.mpr h1, Bool.eq_false_iff.mpr h2]; exact ⟨_, rfl⟩
theorem inSet_pat15 (c : Nat) (seen : Sre.Seen) : ∃ seen', inSet patCode c 24 15 true seen = .ok (!hexC c, seen') := by
  have e : inSet patCode c 24 15 true seen = (if (decide (48 ≤ c) && decide (c ≤ 57)) = true then .ok (false, (seen.add 21).add 22) else if (decide (65 ≤ c) && decide (c ≤ 70)) = true then .ok (false, ((seen.add 21).add 22).add 22) else .ok (true, (((seen.add 21).add 22).add 22).add 0)) := rfl
  rw [e]
  unfold hexC
  by_cases h1 : (decide (48 ≤ c) && decide (c ≤ 57)) = true
  · rw [if_pos h1, h1]; exact ⟨_, rfl⟩
  · rw [if_neg h1]
    by_cases h2 : (decide (65 ≤ c) && decide (c ≤ 70)) = true
    · rw [if_pos h2, h2, Bool.or_true]; exact ⟨_, rfl⟩
    · rw [if_neg h2, Bool.eq_false_iff.mpr h1, Bool.eq_false_iff.mpr h2]; exact ⟨_, rfl⟩

noncomputable def m0 (text : Array Nat) : Sre.M := { code := patCode, text, lim := text.size, start := 0, pc := 13, pos := 0, handed := 0, marks := #[], mustAdvance := false, seen := ({} : Sre.Seen).add 14 }
noncomputable def m1 (text : Array Nat) : Sre.M := { code := patCode, text, lim := text.size, start := 0, pc := 13, pos := 0, handed := 0, marks := #[], mustAdvance := false, seen := ({} : Sre.Seen).add 14, lastStart := text.size }
theorem search_eq (text : Array Nat) : forSearch patCode text 0 0 text.size false = (if (decide (0 > text.size) || decide (text.size - 0 < 1)) = true then (m0 text).say false else M.attemptFrom (m1 text) 0 true) := rfl

theorem admitted_none {m : Sre.M} (hc : m.code = patCode) (hl : m.lim = m.text.size) (h : m.text.all hexC = true) : ∀ (fuel s : Nat) (seen : Sre.Seen), ∃ seen', M.admitted m fuel s seen = .ok (none, seen')
  | 0, s, seen => ⟨seen, rfl⟩
  | fuel + 1, s, seen => by
    unfold M.admitted
    by_cases hs : s ≥ m.lim
    · rw [if_pos hs]; exact ⟨_, rfl⟩
    · rw [if_neg hs]
      have hlt : s < m.text.size := by omega
      have hx : hexC (m.text.getD s 0) = true := by
        have := Array.all_eq_true.mp h s hlt
        simpa [Array.getD, hlt] using this
      refine el_ET (inSet_pat5 (m.text.getD s 0) seen) fun s' e => ?_
      rw [hc, show patCode.size = 24 from rfl, e, hx]
      exact admitted_none hc hl h fuel (s + 1) s'
theorem admitted_some {m : Sre.M} (hc : m.code = patCode) (hl : m.lim = m.text.size) : ∀ (fuel s : Nat) (seen : Sre.Seen), m.lim + 1 ≤ s + fuel → (∃ i, s ≤ i ∧ i < m.lim ∧ hexC (m.text.getD i 0) = false) →
    ∃ i seen', M.admitted m fuel s seen = .ok (some i, seen') ∧ i < m.lim ∧ hexC (m.text.getD i 0) = false
  | 0, s, seen, hf, ⟨i, h1, h2, _⟩ => by omega
  | fuel + 1, s, seen, hf, ⟨i, h1, h2, h3⟩ => by
    unfold M.admitted
    rw [if_neg (by omega)]
    refine el_ET (inSet_pat5 (m.text.getD s 0) seen) fun s' e => ?_
    rw [hc, show patCode.size = 24 from rfl, e]
    cases hx : hexC (m.text.getD s 0) with
    | false => exact ⟨s, s', rfl, by omega, hx⟩
    | true =>
      refine admitted_some hc hl fuel (s + 1) s' (by omega) ⟨i, ?_, h2, h3⟩
      rcases Nat.eq_or_lt_of_le h1 with q | q
      · subst q; rw [hx] at h3; cases h3
      · exact q

theorem run_none (text : Array Nat) (h : text.all hexC = true) : ∃ m, (forSearch patCode text 0 0 text.size false).runFor 4 = m ∧ m.outcome = some .failed := by
  rw [search_eq]
  by_cases hs : (decide (0 > text.size) || decide (text.size - 0 < 1)) = true
  · rw [if_pos hs]; exact ⟨_, rfl, rfl⟩
  · rw [if_neg hs]
    refine el_ET (admitted_none (m := m1 text) rfl rfl h (text.size + 1 - 0) 0 (({} : Sre.Seen).add 14)) fun s' e => ?_
    unfold M.attemptFrom
    rw [show M.hasFirstSet (m1 text) = true from rfl, if_neg (by decide)]
    rw [show M.admitted (m1 text) ((m1 text).lim + 1 - 0) 0 (m1 text).seen = .ok (none, s') from e]
    exact ⟨_, rfl, rfl⟩

theorem run_hit (text : Array Nat) (h : text.all hexC = false) : ∃ m, (forSearch patCode text 0 0 text.size false).runFor 4 = m ∧ m.outcome = some .matched := by
  have hex : ∃ i, 0 ≤ i ∧ i < text.size ∧ hexC (text.getD i 0) = false := by
    refine Classical.byContradiction fun hn => ?_
    have : text.all hexC = true := by
      rw [Array.all_eq_true]
      intro i hi
      refine Classical.byContradiction fun q => hn ⟨i, Nat.zero_le _, hi, ?_⟩
      simpa [Array.getD, hi] using q
    rw [this] at h; cases h
  rw [search_eq]
  rw [if_neg (by obtain ⟨i, _, h2, _⟩ := hex; simp; intro q; rw [q] at h2; exact absurd h2 (Nat.not_lt_zero _))]
  refine el_EEAAT (admitted_some (m := m1 text) rfl rfl (text.size + 1 - 0) 0 (({} : Sre.Seen).add 14) (by show text.size + 1 ≤ _; omega) hex) fun i s' e h1 h2 => ?_
  unfold M.attemptFrom
  rw [show M.hasFirstSet (m1 text) = true from rfl, if_neg (by decide)]
  rw [show M.admitted (m1 text) ((m1 text).lim + 1 - 0) 0 (m1 text).seen = .ok (some i, s') from e]
  refine el_ET (inSet_pat15 (text.getD i 0) (s'.add 13)) fun s2 e2 => ?_
  have h2' : hexC (text.getD i 0) = false := h2
  rw [h2'] at e2
  have hi : ¬ (i ≥ text.size) := Nat.not_le.mpr h1
  refine ⟨_, rfl, ?_⟩
  have at1 : M.attemptAt { m1 text with mustAdvance := false, seen := s' } i true = { m1 text with mustAdvance := false, seen := s', start := i, pos := i, lastmark := -1, lastindex := -1, frames := [{ wait := .nextStart, pc := 13, pos := i, outermost := true }], weight := 1, pc := 13, handed := i, outermost := true } := rfl
  have ex1 : M.exec { m1 text with mustAdvance := false, seen := s', start := i, pos := i, lastmark := -1, lastindex := -1, frames := [{ wait := .nextStart, pc := 13, pos := i, outermost := true }], weight := 1, pc := 13, handed := i, outermost := true } =
      { m1 text with mustAdvance := false, seen := s2, start := i, pos := i + 1, lastmark := -1, lastindex := -1, frames := [{ wait := .nextStart, pc := 13, pos := i, outermost := true }], weight := 1, pc := 23, handed := i, outermost := true } := by
    unfold M.exec
    show (if i ≥ text.size then _ else match inSet patCode (text.getD i 0) 24 15 true (s'.add 13) with | .error why => _ | .ok (false, seen) => _ | .ok (true, seen) => _) = _
    rw [if_neg hi, e2]
    rfl
  have stp1 : (M.attemptAt { m1 text with mustAdvance := false, seen := s' } i true).step = { m1 text with mustAdvance := false, seen := s2, start := i, pos := i + 1, lastmark := -1, lastindex := -1, frames := [{ wait := .nextStart, pc := 13, pos := i, outermost := true }], weight := 1, pc := 23, handed := i, outermost := true } := by
    rw [at1, ← ex1]
    rfl
  show (M.runFor 3 (M.attemptAt { m1 text with mustAdvance := false, seen := s' } i true).step).outcome = _
  rw [stp1]
  rfl
end

open Builtin Builtin.Re in
theorem drive_end {turns : Nat} {m m' : Sre.M} {o : Sre.Outcome} (e : m.runFor 4 = m') (h : m'.outcome = some o) : reDrive (turns + 1) m = pure m' := by
  unfold reDrive
  show (if (m.runFor 4).outcome.isSome = true then pure (m.runFor 4) else _) = _
  rw [e, h]; rfl

theorem rules_loop {M : Model} {A : Around} {E : Value → Shared → Prop} {s : Shared} {Q : PUnit → Shared → Prop} (p : Nat → Bool) (tag : Nat → String) (h : Q ⟨⟩ s) : ∀ l : List Nat,
    wpAny M A (forIn l PUnit.unit (fun i (_ : PUnit) => if p i = true then (do rule (tag i); pure (ForInStep.yield PUnit.unit)) else pure (ForInStep.yield PUnit.unit))) Q E s
  | [] => wpAny_pure h
  | i :: l => by
    rw [List.forIn_cons]
    cases hp : p i with
    | true =>
      rw [if_pos rfl]
      exact wpAny_bind (wpAny_bind (wpAny_rule (wpAny_pure (rules_loop p tag h l))))
    | false =>
      rw [if_neg (by decide)]
      exact wpAny_bind (wpAny_pure (rules_loop p tag h l))

noncomputable def PatAt (h : Heap) (p : Addr) : Prop := ∃ c t u v, h.get? p = some { cls := .type "re.Pattern", data := .fields #[v, .int 0 t, .int 0 u, .none, .none, .ref c, .int 1 0] } ∧
  h.get? c = some { cls := .type "tuple", data := .seq (patCode.map fun n : Nat => Value.int (n : Int) 0) }

open Builtin Builtin.Re in
theorem run_end {M : Model} {A : Around} {E : Value → Shared → Prop} {s : Shared} {Q : Option Sre.M → Shared → Prop} {m m' : Sre.M} {o : Sre.Outcome} (e : m.runFor 4 = m') (h : m'.outcome = some o)
    (h1 : o = .matched → Q (some m') s) (h2 : o = .failed → Q none s) (ho : o = .matched ∨ o = .failed) : wpAny M A (reRunToEnd m) Q E s := by
  unfold reRunToEnd
  rw [show (2 : Nat) ^ 64 = 18446744073709551615 + 1 from rfl, drive_end e h]
  refine wpAny_bind (wpAny_pure ?_)
  refine wpAny_bind (rules_loop (fun i => m'.seen.has i) (fun i => Sre.names.getD i "") ?_ _)
  rw [h]
  rcases ho with rfl | rfl
  · exact wpAny_pure (h1 rfl)
  · exact wpAny_pure (h2 rfl)

section
variable {prog : Program} {w : World} {base : Heap} {A : Around} {fl : List Env} {hid : List Addr} {s : Shared}
open Builtin Builtin.Re

theorem hex_all (b : Array UInt8) : (b.map (·.toNat)).all hexC = b.all isHexB := by
  rw [← Array.all_toList, ← Array.all_toList, Array.toList_map, List.all_map]
  rfl

theorem no_coll (b : Array UInt8) (t : Tok) : reNoCollectionInside (.bytes b t) 1 = pure () := by
  unfold reNoCollectionInside
  rw [KBy.isInstance_eq]
  rfl
theorem search_meets (p : Addr) (b : Array UInt8) (t : Tok) (hb : b.size ≤ big) : Meets («re.Pattern.search» ⟨[.ref p, .bytes b t], []⟩)
    (fun _ R s => PatAt s.heap p ∧ (b.all isHexB = true → R (.ok (.ret .none)) s) ∧ (b.all isHexB = false → ∀ x f, R (.ok (.ret (.ref (s.heap.push { cls := .type "tuple", data := .seq x }).objs.size))) { s with heap := (s.heap.push { cls := .type "tuple", data := .seq x }).push { cls := .type "re.Match", data := .fields f } })) := by
  refine .of_wp fun prog w A R s hS => ?_
  refine el_AAT (hS) fun hn0 h1 h2 => ?_
  obtain ⟨c, t1, u1, v1, hp, hc⟩ := hn0
  unfold «re.Pattern.search»
  refine wpAny_bind ?_
  unfold reTarget
  refine wpAny_bind (wpAny_of_eq (a := [some (.bytes b t), none, none]) rfl ?_)
  refine wpAny_bind (wpAny_pure ?_)
  refine wpAny_bind (wpAny_pure ?_)
  refine wpAny_bind (wpAny_bind (wpAny_load hp (wpAny_pure ?_)))
  refine wpAny_bind ?_
  unfold reTextOf
  refine wpAny_bind (wpAny_of_eq (a := none) rfl ?_)
  refine wpAny_bind (wpAny_of_eq KBy.quiet_eq (wpAny_pure ?_))
  dsimp only
  refine KFB.if_not rfl ?_
  refine KFB.if_not rfl ?_
  refine wpAny_bind (wpAny_of_eq (no_coll b t) ?_)
  refine wpAny_bind ?_
  unfold reRawItems
  refine wpAny_bind (wpAny_seqItems hc rfl (wpAny_pure (wpAny_pure ?_)))
  have e1 : ((((some (patCode.map fun n : Nat => Value.int (n : Int) 0)).getD #[]).map reRawOf).map (·.toNat)) = patCode := by decide +kernel
  have e2 : min (2 ^ 63 - 1 : Int).toNat (b.map (·.toNat)).size = (b.map (·.toNat)).size := by
    unfold big at hb
    simp; omega
  have e3 : min (0 : Int).toNat (b.map (·.toNat)).size = 0 := by simp
  have e4 : reRawNat (#[v1, Value.int 0 t1, Value.int 0 u1, Value.none, Value.none, Value.ref c, Value.int 1 0].getD 2 Value.none) = 0 := rfl
  dsimp only
  rw [e1, e2, e3, e4]
  unfold reAnswer
  cases hx : (b.map (·.toNat)).all hexC with
  | true =>
    refine el_EAT (run_none _ hx) fun m' q1 q2 => ?_
    refine wpAny_bind (run_end q1 q2 (fun q => by cases q) (fun _ => ?_) (.inr rfl))
    exact wpAny_pure ⟨_, rfl, h1 (by rw [← hex_all]; exact hx)⟩
  | false =>
    refine el_EAT (run_hit _ hx) fun m' q1 q2 => ?_
    refine wpAny_bind (run_end q1 q2 (fun _ => ?_) (fun q => by cases q) (.inl rfl))
    refine wpAny_bind ?_
    unfold reNewMatch
    refine KFB.if_not rfl ?_
    refine wpAny_bind (wpAny_newTuple ?_ (by show 2 ≤ sizeLine; decide))
    refine wpAny_newObj_type ?_ (by show 6 ≤ sizeLine + 2; decide)
    exact wpAny_pure ⟨_, rfl, h2 (by rw [← hex_all]; exact hx) _ _⟩

noncomputable def mself (m : Mt) (v : Value) : List Value := match m with | .maketrans => [] | _ => [v]

theorem getm_type {K : Frag} {T : String} {name : Str} {v : Value} {pl : Sem Bool} {E : Value → Shared → Prop} {Q : Value × List Value → Shared → Prop} (X : K.In s.heap) (ht : typeOf (.type T) = pure (.type "type")) (hs : Manifest.isStub T = false)
    (e : findCls K (.type T) (.type "type") name = some (.val v)) (hh : handedIn v = true) (h : Q (v, []) { s with toks := s.toks + 1 }) : wpAny (model prog w) A (getMethod (.type T) name pl) Q E s := by
  have hg : findIn K (.type "type") "__getattribute__" = some (some (.builtin "type.__getattribute__")) := type_tga
  have L0 : Looks (model prog w) s.heap (typeOf (.type T)) (.type "type") := Looks.of_pure ht
  have LO : Looks (model prog w) s.heap (opaqueClassAbove (.type T)) none := Looks.of_pure (by unfold opaqueClassAbove; dsimp only; rw [hs]; rfl)
  unfold getMethod specialOf
  refine wpAny_bind (wpAny_bind (L0.here ((looks_findIn X hg).here ?_)))
  dsimp only
  rw [if_pos canon_tga]
  refine wpAny_bind (wpAny_mono (Q := fun v => Q (v, [])) (E := E) ?_ (fun _ _ z => wpAny_pure z) fun _ _ z => z)
  refine cls_open X LO L0 hg (looks_hook X (r := none) (by rfl)) (by show subIn K _ _ = _; rfl) e
    (wpAny_pure (by show wpAny _ _ (handedOut v) _ _ _; rw [handedOut_of hh]; exact wpAny_pure h))
theorem nil_in {h : Heap} : Frag.In [] h := fun _ _ q => by cases q
theorem type_bytes : typeOf (.type "bytes") = pure (.type "type") := by kernel_rfl
theorem stub_bytes : Manifest.isStub "bytes" = false := by decide +kernel
theorem hand_maketrans : handedIn (.builtin "bytes.maketrans") = true := by decide +kernel
theorem getm_bytes {pl : Sem Bool} {E : Value → Shared → Prop} {Q : Value × List Value → Shared → Prop} (h : Q (.builtin "bytes.maketrans", []) { s with toks := s.toks + 1 }) :
    wpAny (model prog w) A (getMethod (.type "bytes") (Str.ofString "maketrans") pl) Q E s :=
  getm_type (K := []) (T := "bytes") (name := Str.ofString "maketrans") (v := .builtin "bytes.maketrans") nil_in type_bytes stub_bytes find_maketrans hand_maketrans h

theorem ite_elim {α : Type} {X p : Prop} [Decidable p] {a b : Option α} {c : α} (h : (if p then a else b) = some c) (x : p → a = some c → X) (y : ¬ p → b = some c → X) : X := by
  by_cases q : p
  · rw [if_pos q] at h; exact x q h
  · rw [if_neg q] at h; exact y q h
theorem getm_does {pat : Addr} (hp : PatAt s.heap pat) {o : D} {vo : Value} {name : Str} {m : Mt} (ro : Rep (Vw s.heap hid) o vo) (e : methOf pat o name = some m) {pl : Sem Bool} {E : Value → Shared → Prop} {Q : Value × List Value → Shared → Prop}
    (h : ∀ tk, Q (.builtin m.id, mself m vo) { s with toks := tk }) : wpAny (model prog w) A (getMethod vo name pl) Q E s := by
  revert h
  cases o with
  | str x =>
    refine ro.str fun t h => ?_
    refine ite_elim e (fun hn e => ?_) fun _ e => ite_elim e (fun hn e => ?_) fun _ e => ite_elim e (fun hn e => ?_) fun _ e => ite_elim e (fun hn e => ?_) fun _ e => no_some e
    · cases e; rw [hn]; exact getMethod_builtin (T := "str") (name := Str.ofString "split") (id := "str.split") (typeIs_str _ _ _) F.plainAttrs_str F.slot_str_split F.type_str_split (fun _ q => nomatch q) (h s.toks)
    · cases e; rw [hn]; exact getMethod_builtin (T := "str") (name := Str.ofString "join") (id := "str.join") (typeIs_str _ _ _) F.plainAttrs_str F.slot_str_join F.type_str_join (fun _ q => nomatch q) (h s.toks)
    · cases e; rw [hn]; exact getMethod_builtin (T := "str") (name := Str.ofString "encode") (id := "str.encode") (typeIs_str _ _ _) F.plainAttrs_str F.slot_str_encode F.type_str_encode (fun _ q => nomatch q) (h s.toks)
    · cases e; rw [hn]; exact getMethod_builtin (T := "str") (name := Str.ofString "isascii") (id := "str.isascii") (typeIs_str _ _ _) F.plainAttrs_str F.slot_str_isascii F.type_str_isascii (fun _ q => nomatch q) (h s.toks)
  | bytes x =>
    refine ro.bytes fun t h => ?_
    refine ite_elim e (fun hn e => ?_) fun _ e => ite_elim e (fun hn e => ?_) fun _ e => ite_elim e (fun hn e => ?_) fun _ e => no_some e
    · cases e; rw [hn]; exact getMethod_builtin (T := "bytes") (name := Str.ofString "hex") (id := "bytes.hex") (typeIs_bytes _ _ _) FB.plainAttrs_bytes FB.slot_bytes_hex FB.type_bytes_hex (fun _ q => nomatch q) (h s.toks)
    · cases e; rw [hn]; exact getMethod_builtin (T := "bytes") (name := Str.ofString "upper") (id := "bytes.upper") (typeIs_bytes _ _ _) FB.plainAttrs_bytes slot_upper type_upper (fun _ q => nomatch q) (h s.toks)
    · cases e; rw [hn]; exact getMethod_builtin (T := "bytes") (name := Str.ofString "translate") (id := "bytes.translate") (typeIs_bytes _ _ _) FB.plainAttrs_bytes slot_translate type_translate (fun _ q => nomatch q) (h s.toks)
  | type n =>
    refine el_AT (ite_some e) fun hn e => ?_
    cases e; refine ro.type fun h => ?_
    rw [hn.2, hn.1]; exact getm_bytes (h _)
  | obj a =>
    refine el_AT (ite_some e) fun hn e => ?_
    cases e; rw [hn.2]; rw [hn.1] at ro
    refine el_EEEEAT (hp) fun c t1 u1 v1 hp hc => ?_
    exact ro.obj (fun h => getMethod_builtin (T := "re.Pattern") (name := Str.ofString "search") (id := "re.Pattern.search") ⟨_, hp, rfl⟩ plainAttrs_pattern slot_search type_search (fun _ q => by cases q; exact ⟨_, hp, rfl⟩) (h s.toks))
  | _ => exact no_some e

theorem split_does (c : Cx base A fl hid s.heap) {o : D} {vo : Value} {args : List D} {vs : List Value} (ro : Rep (Vw s.heap hid) o vo) (r : Reps (Vw s.heap hid) args vs) :
    Does (model prog w) A fl s (call (.builtin "str.split") (vo :: vs)) (R.of (methD .split o args)) (PV hid) := fun Q E f0 => by
  refine FinT.str ro f0 fun x t f1 => FinT.two r f1 fun p v v' r r' f2 => FinT.str r f2 fun y u f3 => FinT.int r' f3 fun k u' f4 => f4.ofI fun hk f5 => f5.ofI fun hx f => ?_
  clear f0 f1 f2 f3 f4 f5
  refine el_AAT (hk) fun hr0 hy hc => ?_
  subst hr0
  have hkk : (decide ((1 : Int) < -(2 ^ 63 : Int)) || decide ((1 : Int) ≥ 2 ^ 63)) = false := by decide
  have ey : y = ⟨#[y.cps.getD 0 0]⟩ := by
    obtain ⟨cps⟩ := y
    obtain ⟨l⟩ := cps
    match l, hy with
    | [c], _ => rfl
  have hk1 : Builtin.Str.strKind y = 1 := by
    unfold Builtin.Str.strKind
    rw [if_pos]
    rw [ey]; simpa using hc
  have hx1 : ¬ (Builtin.Str.strKind x < Builtin.Str.strKind y) := by
    rw [hk1]; unfold Builtin.Str.strKind; split
    · omega
    · split <;> omega
  have hy0 : (y.length == 0) = false := by rw [hy]; rfl
  have lim1 : limitOf x 1 = 1 := rfl
  have occ := occ_one x (y.cps.getD 0 0)
  rw [← ey] at occ
  by_cases hs : x.length < y.length
  · have h1 : (decide (x.length < y.length) || decide (Builtin.Str.strKind x < Builtin.Str.strKind y)) = true := by simp [hs]
    have : split1 (y.cps.getD 0 0) x.cps.toList = none := by
      have h0 : x.cps.size = 0 := by have q := hs; rw [hy] at q; exact Nat.lt_one_iff.mp q
      have : x.cps.toList = [] := by simp [Array.eq_empty_of_size_eq_zero h0]
      rw [this]; rfl
    rw [this] at f
    refine call_meets F.slot_str_split (typeIs_str _ _ _) F.entry_str_split (F.args_str_split_3 _ _ _) (meets_str_split_max_cannot_occur x y 1 t u u' hkk h1) ?_
    refine f _ _ _ (Gr.push _) (c.newList ?_)
    exact reps_cons' (rep_str.mpr ⟨_, rfl⟩) reps_nil'
  · have h1 : (decide (x.length < y.length) || decide (Builtin.Str.strKind x < Builtin.Str.strKind y)) = false := by rw [decide_eq_false hs, decide_eq_false hx1]; rfl
    rcases occ with ⟨o1, o2⟩ | ⟨i, o1, o2, o3⟩
    · rw [o2] at f
      refine call_meets F.slot_str_split (typeIs_str _ _ _) F.entry_str_split (F.args_str_split_3 _ _ _) (meets_str_split_max_not_found x y 1 t u u' hkk h1 hy0 (by rw [lim1, o1]; rfl)) ?_
      refine f _ _ _ (Gr.push _) (c.newList ?_)
      exact reps_cons' (rep_str.mpr ⟨_, rfl⟩) reps_nil'
    · rw [o3] at f
      have hsz := Nat.le_trans hx big_le
      have hpb : Builtin.Str.partsBetween x (Builtin.Str.occurrences x y 0 x.length (limitOf x 1)) y.length = [⟨(x.cps.toList.take i).toArray⟩, ⟨(x.cps.toList.drop (i + 1)).toArray⟩] := by
        rw [lim1, o1, hy]
        show [Builtin.Str.strSub x 0 i, Builtin.Str.strSub x (i + 1) x.length] = _
        have e1 : Builtin.Str.strSub x 0 i = ⟨(x.cps.toList.take i).toArray⟩ := by
          unfold Builtin.Str.strSub; congr 1; apply Array.ext'; simp
        have e2 : Builtin.Str.strSub x (i + 1) x.length = ⟨(x.cps.toList.drop (i + 1)).toArray⟩ := by
          unfold Builtin.Str.strSub; congr 1; apply Array.ext'; simp [Str.length, List.take_of_length_le]
        rw [e1, e2]
      refine call_meets F.slot_str_split (typeIs_str _ _ _) F.entry_str_split (F.args_str_split_3 _ _ _) (meets_str_split_sep_max x y 1 t u u' hkk h1 hy0 (by rw [lim1, o1]; rfl) hsz (by rw [hpb]; show 2 ≤ sizeLine; decide)) ?_
      rw [hpb]
      refine f _ _ _ (Gr.push _) (c.newList ?_)
      exact reps_cons' (rep_str.mpr ⟨_, rfl⟩) (reps_cons' (rep_str.mpr ⟨_, rfl⟩) reps_nil')
set_option tactic.hygienic true in
theorem join_does {o : D} {vo : Value} {args : List D} {vs : List Value} (ro : Rep (Vw s.heap hid) o vo) (r : Reps (Vw s.heap hid) args vs) :
    Does (model prog w) A fl s (call (.builtin "str.join") (vo :: vs)) (R.of (methD .join o args)) (PV hid) := fun Q E f => by
  refine FinT.str ro f fun x t f => FinT.one r f fun d v r f => FinT.list r f fun l a ws nl hl rl f => f.ofB fun xs hx f => f.ofI fun hk f => f.ofI fun hk2 f => ?_
  refine el_EAT (strs_of hx rl) fun ps q1 q2 => ?_
  refine el_EAAET (hl) fun ob hob hcl n hdat => ?_
  refine el_ET (join_tree x t a) fun other htree => ?_
  have hlen : Builtin.Str.tooLong ((ps.map (·.1)).toArray.foldl (· + ·.length + x.length) 0) = false := by
    rw [q2, joined_len x hk]
    have := big_le
    simp [Builtin.Str.tooLong]; omega
  have hj := gives_joinTail x ps hlen
  refine call_meets (S := fun _ R s => s.heap.get? a = some ob ∧ ∀ t' tk, R (.ok (.ret (.str ⟨(catS xs).toArray⟩ t'))) { s with toks := tk }) F.slot_str_join (typeIs_str _ _ _) F.entry_str_join (F.args_str_join_2 _ _) (fun prog w A R s hS => ?_) ⟨hob, fun t' tk => f.ret (rep_str.mpr ⟨t', rfl⟩)⟩
  show wpAny _ _ («str.join» ⟨[.str x t, .ref a], []⟩) _ _ s
  rw [htree]
  refine wpAny_bind (wpAny_typeOf (T := "list") ⟨ob, hS.1, hcl⟩ ?_)
  refine KFB.if_so (by decide +kernel) ?_
  refine wpAny_bind (wpAny_seqItems hS.1 hdat ?_)
  show wpAny _ _ (joinTail x ws.toList) _ _ s
  rw [q1]
  refine hj prog w A R s ?_
  have hc : ∀ ys : List Str, ys = xs → (⟨(catS xs).toArray⟩ : Str) = Builtin.Str.glued x ys := fun ys q => by
    subst q
    have := glued_empty x hk ys
    rw [← this]
  have hle : (⟨(catS xs).toArray⟩ : Str).length ≤ sizeLine := by
    have := big_le
    simp [Str.length]; omega
  split
  · rename_i p _
    have : (⟨(catS xs).toArray⟩ : Str) = p.1 := by rw [← q2]; simp [catS]
    have h3 := hS.2 p.2 s.toks
    rw [this] at h3
    exact h3
  · show _ ∧ _
    rw [← hc _ q2]
    exact ⟨hle, hS.2 _ _⟩
theorem hex_does {b : Array UInt8} {t : Tok} (hb : b.size ≤ big) {Q E : Value → Shared → Prop} (f : FinT fl s (.ok (D.str ⟨(hexNs b.toList).toArray⟩)) (PV hid) Q E) : wpAny (model prog w) A (call (.builtin "bytes.hex") [.bytes b t]) Q E s := by
  have e : (⟨b.toList.zipIdx.foldl (fun (out : Array Nat) (c, _) => (out.push (Bytes.hexDigit (c.toNat / 16))).push (Bytes.hexDigit (c.toNat % 16))) #[]⟩ : Str) = ⟨(hexNs b.toList).toArray⟩ := by
    rw [show (b.toList.zipIdx.foldl (fun (out : Array Nat) (c, _) => (out.push (Bytes.hexDigit (c.toNat / 16))).push (Bytes.hexDigit (c.toNat % 16))) #[]) = _ from hex_fold _ _]
    simp [List.zipIdx_map_fst]
  have g := gives_hex b t
  rw [e] at g
  refine call_gives FB.slot_bytes_hex (typeIs_bytes _ _ _) FB.entry_bytes_hex (FB.args_bytes_hex_1 _) g ⟨?_, f.ret (rep_str.mpr ⟨_, rfl⟩)⟩
  have : (hexNs b.toList).length = 2 * b.size := by
    have : ∀ l : List UInt8, (hexNs l).length = 2 * l.length := fun l => by
      induction l with
      | nil => rfl
      | cons a l ih => simp [hexNs] at ih ⊢; omega
    rw [this]; simp
  unfold big at hb
  have h2 : (2 : Nat) * 1048576 ≤ sizeLine := by decide
  show (hexNs b.toList).toArray.size ≤ sizeLine
  simp; omega
theorem mt_size : ∀ (l : List (UInt8 × UInt8)) (acc : Array UInt8), (l.foldl (fun t p => t.setIfInBounds p.1.toNat p.2) acc).size = acc.size
  | [], acc => rfl
  | a :: l, acc => by rw [List.foldl_cons, mt_size l]; simp

set_option tactic.hygienic true in
theorem meth_does {pat : Addr} (hp : PatAt s.heap pat) (c : Cx base A fl hid s.heap) (hu : A.units + 7 < cLine) {m : Mt} {o : D} {vo : Value} {args : List D} {vs : List Value} (ro : Rep (Vw s.heap hid) o vo) (r : Reps (Vw s.heap hid) args vs) (ho : ∀ a, o = .obj a → a = pat) :
    Does (model prog w) A fl s (call (.builtin m.id) (mself m vo ++ vs)) (R.of (methD m o args)) (PV hid) := by
  intro Q E f
  cases m with
  | split => exact split_does c ro r Q E f
  | join => exact join_does ro r Q E f
  | encode =>
    refine FinT.str ro f fun x t f => FinT.one r f fun d v r f => FinT.str r f fun y u f => f.ofI fun hy f => f.ofI fun hk f => ?_
    rw [hy]
    exact call_gives F.slot_str_encode (typeIs_str _ _ _) F.entry_str_encode (F.args_str_encode_2 _ _) (gives_encode_ascii x t u hk.1 hk.2) ⟨by have := big_le; have := hk.2; simp [Str.length] at this ⊢; omega, f.ret (rep_bytes.mpr ⟨_, rfl⟩)⟩
  | isascii =>
    refine FinT.str ro f fun x t f => FinT.nil r f fun f => ?_
    exact call_gives F.slot_str_isascii (typeIs_str _ _ _) F.entry_str_isascii (F.args_str_isascii_1 _) (gives_str_isascii _ t) (f.val (rep_bool.mpr rfl))
  | hex => exact FinT.bytes ro f fun b t f => FinT.nil r f fun f => f.ofI fun hb f => hex_does hb f
  | upper =>
    refine FinT.bytes ro f fun b t f => FinT.nil r f fun f => f.ofI fun hb f => ?_
    have e : (b.toList.map Bytes.toUpper).toArray = b.map upByte := by apply Array.ext'; simp; intro q _; rfl
    have g := gives_upper b t
    rw [e] at g
    exact call_gives slot_upper (typeIs_bytes _ _ _) entry_upper (args_upper _) g ⟨by have := big_le; simp; omega, f.ret (rep_bytes.mpr ⟨_, rfl⟩)⟩
  | translate =>
    refine FinT.bytes ro f fun b t f => FinT.one r f fun d v r f => FinT.bytes r f fun tb u f => f.ofI fun hk f => ?_
    have e : (b.filter (!(#[] : Array UInt8).contains ·)) = b := by
      rw [Array.filter_eq_self]; simp
    have g := gives_translate b tb t u hk.1
    rw [e] at g
    refine call_gives slot_translate (typeIs_bytes _ _ _) entry_translate (args_translate _ _) g ?_
    split
    · rename_i hq
      refine f _ s.heap s.toks (Gr.refl _ _ _) (rep_bytes.mpr ⟨t, ?_⟩)
      rw [eq_of_beq hq]
    · exact ⟨by have := big_le; have := hk.2; simp; omega, f.ret (rep_bytes.mpr ⟨_, rfl⟩)⟩
  | maketrans =>
    refine FinT.type ro f fun n f => FinT.two r f fun p v v' r r' f => FinT.bytes r f fun a t f => FinT.bytes r' f fun b u f => f.ofI fun hk f => ?_
    refine wpAny_call (codeAny_call_builtin plain_maketrans entry_maketrans (wpAny_of_eq (check_maketrans _ _) ?_))
    refine gives_maketrans a b t u hk prog w A (wants Q E) s ⟨?_, f.ret (rep_bytes.mpr ⟨_, rfl⟩)⟩
    exact Nat.le_trans (Nat.le_of_eq (mt_size (a.toList.zip b.toList) ((Array.range 256).map (·.toUInt8)))) (by rw [Array.size_map, Array.size_range]; decide)
  | search =>
    refine f.ofB fun ad ha f => FinT.one r f fun d v r f => FinT.bytes r f fun b t f => f.ofI fun hk f => ?_
    have ha := D.obj?_s ha
    have ha' := ho _ ha
    rw [ha, ha'] at ro
    refine ro.obj ?_
    have hp' := hp
    refine el_EEEEAT (hp) fun c' t1 u1 v1 hp1 hc1 => ?_
    refine call_meets slot_search ⟨_, hp1, rfl⟩ entry_search (args_search _ _) (search_meets pat b t hk) ⟨hp', fun q => ?_, fun q xx ff => ?_⟩
    · rw [if_pos q] at f
      exact f.val (rep_none.mpr rfl)
    · rw [if_neg (by rw [q]; decide)] at f
      have g1 : Gr (faOf fl) [] s.heap (s.heap.push { cls := .type "tuple", data := .seq xx }) := Gr.push _
      exact f _ _ _ (g1.trans (Gr.push _)) (rep_hit.mpr ⟨_, _, rfl, Vw.mk (Heap.get?_push_size _ rfl) (c.grow g1).size, rfl⟩)
end
end Mine
end
section
namespace Mine

noncomputable def KwR (ρ : PH) : Vs → List (Str × Value) → Prop
  | [], kw => kw = []
  | (x, d) :: r, kw => ∃ v t, kw = (x, v) :: t ∧ Rep ρ d v ∧ KwR ρ r t
theorem KwR.mono {ρ ρ' : PH} (h : PH.le ρ ρ') : ∀ {l : Vs} {kw : List (Str × Value)}, KwR ρ l kw → KwR ρ' l kw
  | [], _, x => x
  | (_, _) :: _, _, ⟨v, t, e, r, k⟩ => ⟨v, t, e, r.mono h, KwR.mono h k⟩

noncomputable abbrev PA (hid : List Addr) : List D × Vs → Args → Heap → Prop := fun d a h => Reps (Vw h hid) d.1 a.pos ∧ KwR (Vw h hid) d.2 a.kw

section
variable {g : G} {prog : Program} {w : World} {base : Heap} {A : Around} {fl : List Env} {hid : List Addr} {env : Env} {sc : Scope} {σ : Vs} {n : Nat} {s : Shared} {F : Fns}

theorem kw_names (pos : Pos) : ∀ (ks : List Keyword) {kes : List (Str × Expr)}, kwNames ks = some kes → (backToKw pos (keywordEach ks env)).all (·.1.isSome) = true ∧ (backToKw pos (keywordEach ks env)).filterMap (·.1) = kes.map (·.1) ∧
    (backToKw pos (keywordEach ks env)).map (·.2) = kes.map fun p => (do let v ← eval p.2 env; standAt pos; pure v)
  | [], kes, h => by cases h; exact ⟨rfl, rfl, rfl⟩
  | ⟨none, _, _⟩ :: _, _, h => no_some h
  | ⟨some x, e, p⟩ :: ks, kes, h => by
    refine map_some (o := kwNames ks) h fun r h1 h => ?_
    subst h
    refine el_AAT (kw_names pos ks h1) fun i1 i2 i3 => ?_
    refine ⟨?_, ?_, ?_⟩
    · show ((some x).isSome && (backToKw pos (keywordEach ks env)).all (·.1.isSome)) = true
      rw [i1]; rfl
    · show x :: (backToKw pos (keywordEach ks env)).filterMap (·.1) = _
      rw [i2]; rfl
    · show _ :: (backToKw pos (keywordEach ks env)).map (·.2) = _
      rw [i3]; rfl

theorem evalAll_snd (S : SndE prog w base F n) (pos : Pos) : ∀ (kes : List (Str × Expr)) (s : Shared), Here base A fl hid env sc σ n s.heap →
    Does (model prog w) A fl s (evalAll (kes.map fun p => (do let v ← eval p.2 env; standAt pos; pure v))) (mapR (fun p => (F.ev sc σ p.2).map fun v => (p.1, v)) kes) (fun kvs vs h => KwR (Vw h hid) kvs ((kes.map (·.1)).zip vs))
  | [], s, H => fun Q E f => wpAny_evalAll_nil (f _ s.heap s.toks (Gr.refl _ _ _) rfl)
  | p :: kes, s, H => fun Q E f => by
    simp only [List.map_cons]
    refine wpAny_evalAll_cons (wpAny_bind ?_)
    rw [mapR_c] at f
    have f' : FinT fl s ((F.ev sc σ p.2).bind fun v => (mapR (fun p => (F.ev sc σ p.2).map fun v => (p.1, v)) kes).map ((p.1, v) :: ·)) (fun kvs vs h => KwR (Vw h hid) kvs (((p :: kes).map (·.1)).zip vs)) Q E := by
      cases hx : F.ev sc σ p.2 with
      | ok a => rw [hx] at f; exact f
      | exc c m => rw [hx] at f; exact f
      | bad => rw [hx] at f; exact f
    refine (S.ev H).use f' fun d v h₁ tk₁ _ g₁ r₁ f₁ => ?_
    refine wpAny_bind (wpAny_standAt (wpAny_pure ?_))
    refine evalAll_snd S pos kes _ (H.grow g₁) _ E (f₁.map fun kvs vs h' tk _ g' p' k => ?_)
    exact k _ _ _ (Gr.refl _ _ _) ⟨v, _, rfl, r₁.mono ((H.grow g₁).view g'), p'⟩

theorem args_snd (S : SndE prog w base F n) (H : Here base A fl hid env sc σ n s.heap) (f : Value) (as : List Expr) (ks : List Keyword) (pos : Pos) (hs : as.any starred = false) :
    Does (model prog w) A fl s (evalArgs f true (backTo pos (starEach as env)) (backToKw pos (keywordEach ks env))) (argsD F sc σ as ks) (PA hid) := fun Q E fin => by
  unfold argsD at fin
  cases hk : kwNames ks with
  | none => rw [hk] at fin; exact fin.elim
  | some kes =>
    rw [hk] at fin
    refine el_AAT (kw_names (env := env) pos ks hk) fun k1 k2 k3 => ?_
    have tail : ∀ (avs : List D) (vs : List Value) (h₁ : Heap) (tk₁ : Nat), Gr (faOf fl) [] s.heap h₁ → Reps (Vw h₁ hid) avs vs → FinT fl { s with heap := h₁, toks := tk₁ } ((mapR (fun p => (F.ev sc σ p.2).map fun v => (p.1, v)) kes).map fun kvs => (avs, kvs)) (PA hid) Q E →
        wpAny (model prog w) A (evalAll ((backToKw pos (keywordEach ks env)).map (·.2))) (fun kvs s₂ => Q ⟨vs, ((backToKw pos (keywordEach ks env)).filterMap (·.1)).zip kvs⟩ s₂) E { s with heap := h₁, toks := tk₁ } := fun avs vs h₁ tk₁ g₁ r₁ f₁ => by
      rw [k3, k2]
      refine evalAll_snd S pos kes _ (H.grow g₁) _ E (f₁.map fun kvs kv h' tk _ g' p' k => ?_)
      exact k _ _ _ (Gr.refl _ _ _) ⟨r₁.mono ((H.grow g₁).view g'), p'⟩
    cases as with
    | nil =>
      refine evalArgs_kw_nil k1 ?_
      exact tail [] [] s.heap s.toks (Gr.refl _ _ _) reps_nil' fin
    | cons e as =>
      have hs' : starred e = false ∧ as.any starred = false := by simpa using hs
      have he : starEach (e :: as) env = (false, eval e env) :: starEach as env := star_cons hs'.1
      have hb : backTo pos (starEach (e :: as) env) = (false, eval e env) :: backTo pos (starEach as env) := by rw [he]; rfl
      rw [hb]
      refine evalArgs_kw k1 ?_
      rw [← hb]
      exact (evs_snd S pos (e :: as) s H hs).use fin fun avs vs h₁ tk₁ _ g₁ r₁ f₁ => tail avs vs h₁ tk₁ g₁ r₁ f₁

theorem star_plain (pos : Pos) : ∀ (as : List Expr), as.any starred = false → (backTo pos (starEach as env)).any (·.1) = false ∧ (backTo pos (starEach as env)).all (fun x => !x.1) = true
  | [], _ => ⟨rfl, rfl⟩
  | e :: as, hs => by
    have hs' : starred e = false ∧ as.any starred = false := by simpa using hs
    have he : starEach (e :: as) env = (false, eval e env) :: starEach as env := star_cons hs'.1
    refine el_AT (star_plain pos as hs'.2) fun i1 i2 => ?_
    rw [he]
    exact ⟨by show (false || _) = false; rw [Bool.false_or]; exact i1, by show (true && _) = true; rw [Bool.true_and]; exact i2⟩

theorem keep_builtin {M : Model} {h : Heap} {id : String} : ∃ k, (k = Keeper.frame ∨ k = Keeper.machine ∨ k = Keeper.boundFrame) ∧ Looks M h (keeperOf (.builtin id)) k := ⟨.machine, .inr (.inl rfl), Looks.of_pure rfl⟩
theorem keep_type {M : Model} {h : Heap} {id : String} : ∃ k, (k = Keeper.frame ∨ k = Keeper.machine ∨ k = Keeper.boundFrame) ∧ Looks M h (keeperOf (.type id)) k := ⟨.machine, .inr (.inl rfl), Looks.of_pure rfl⟩

theorem base_plain {o : Expr} {name : Str} (h : superForm o = false) : attributeBase o name env (eval o env) = eval o env := by
  cases o with
  | Call f as ks p => cases f with
    | Name x q => cases as with
      | cons a r => rfl
      | nil => cases ks with
        | cons a r => rfl
        | nil => exact no_true h.symm
    | _ => rfl
  | _ => rfl

theorem PatAt.keeps {h h' : Heap} {p : Addr} (x : PatAt h p) (k : h.StaysIn h') : PatAt h' p := by
  refine el_EEEEAT (x) fun c t u v h1 h2 => ?_
  exact ⟨c, t, u, v, k _ _ h1, k _ _ h2⟩

theorem meth_snd (hp : PatAt base g.pat) (S : SndE prog w base F n) (H : Here base A fl hid env sc σ n s.heap) (o : Expr) (name : Str) (apos pos : Pos) (as : List Expr) :
    Does (model prog w) A fl s (eval (.Call (.Attribute o name apos) as [] pos) env) (methE g F sc σ o name apos as pos) (PV hid) := fun Q E f => by
  refine f.itn fun hc f => ?_
  simp only [Bool.or_eq_true, not_or, Bool.not_eq_true, decide_eq_true_eq, Nat.not_lt, Bool.not_eq_false'] at hc
  refine el_AT (hc) fun hn0 h4 => ?_
  obtain ⟨⟨h1, h2⟩, h3⟩ := hn0
  · rw [arm_eval_Call, base_plain h3]
    refine wpAny_bind ((S.ev H).use f fun ov vo h₁ tk₁ _ g₁ r₁ f₁ => f₁.ofR fun m hm f₁ => ?_)
    · have H₁ := H.grow g₁
      refine wpAny_bind (wpAny_standAt ?_)
      have hform : methodCallForm (as.length + ([] : List Keyword).length) (backTo pos (starEach as env)) (backToKw pos (keywordEach [] env)) = true := by
        unfold methodCallForm
        rw [(star_plain pos as h1).2]
        show (true && true && decide _) = true
        have e0 : (backToKw pos (keywordEach [] env)).isEmpty = true := rfl
        rw [e0]
        simp; omega
      have hpos : methodCallPos true o env apos pos = pure pos := by unfold methodCallPos; simp [h4]
      unfold methodCall
      rw [hform]
      have H₁' : ∀ tk, Here base A fl hid env sc σ n ({ s with heap := h₁, toks := tk } : Shared).heap := fun tk => H₁
      refine wpAny_bind (wpAny_holding (getm_does (s := { s with heap := h₁, toks := tk₁ }) (hp.keeps H₁.cx.stays) r₁ hm fun tk => ?_))
      refine wpAny_bind (wpAny_of_eq hpos ?_)
      refine callWith_of (P := fun _ => True) (by rw [(star_plain pos as h1).1]; rfl) (fun _ _ => keep_builtin) ?_
      have f₁' : FinT fl { s with heap := h₁, toks := tk } ((argsD F sc σ as []).bind fun p => R.of (methD m ov p.1)) (PV hid) Q E := FinT.shift (s := { s with heap := h₁, toks := tk₁ }) f₁ (Gr.refl _ _ _)
      refine (args_snd S (H₁' tk) _ as [] pos h1).use f₁' fun p a h₂ tk₂ ep g₂ r₂ f₂ => ⟨trivial, ?_⟩
      have H₂ := (H₁' tk).grow g₂
      have hkw : a.kw = [] := by
        have : p.2 = [] := by
          have ep : (evs F sc σ as).bind (fun avs => (R.ok []).map fun kvs => (avs, kvs)) = .ok p := ep
          cases hx : evs F sc σ as with
          | ok x => rw [hx] at ep; cases ep; rfl
          | exc c m => rw [hx] at ep; cases ep
          | bad => rw [hx] at ep; cases ep
        have := r₂.2
        rw [‹p.2 = []›] at this
        exact this
      rw [hkw]
      refine meth_does (hp.keeps H₂.cx.stays) H₂.cx H₂.u7 (r₁.mono ((H₁' tk).view g₂)) r₂.1 (fun a q => ?_) Q E f₂
      rw [q] at hm
      exact (ite_some hm).1.1
end
end Mine
end
section
namespace Mine

structure Itr (prog : Program) (w : World) (A : Around) (hid : List Addr) (own : Bool) (I : Addr) (wr : List Addr) (St : List D → Heap → Prop) : Prop where
  frame : ∀ l h h', St l h → (∀ b o, b ∈ wr → h.get? b = some o → h'.get? b = some o) → PH.le (Vw h (wr ++ hid)) (Vw h' (wr ++ hid)) → St l h'
  item : ∀ (target : Expr) d l (s : Shared) (Q : Value → Shared → Prop) (E : Value → Shared → Prop), (own = true → isTup target = true) → St (d :: l) s.heap → (∀ b ∈ hid, ∃ o, s.heap.get? b = some o) →
    (∀ v h' tk, Rep (Vw h' (wr ++ hid)) d v → St l h' → (∀ b o, b ∉ wr → s.heap.get? b = some o → h'.get? b = some o) → Q v { s with heap := h', toks := tk }) →
    wpAny (model prog w) A (pyNext (.ref I)) (fun r s₁ => ∃ v, r = some v ∧ wpAny (model prog w) A (letOwnedTupleGo target (.ref I) v) (fun _ s₂ => Q v s₂) E s₁) E s
  done : ∀ (s : Shared) (Q : Option Value → Shared → Prop) (E : Value → Shared → Prop), St [] s.heap →
    (∀ h' tk, (∀ b o, b ∉ wr → s.heap.get? b = some o → h'.get? b = some o) → Q none { s with heap := h', toks := tk }) → wpAny (model prog w) A (pyNext (.ref I)) Q E s
  self : ∀ l (s : Shared) (Q : Value → Shared → Prop) (E : Value → Shared → Prop), St l s.heap → Q (.ref I) s → wpAny (model prog w) A (pyIter (.ref I)) Q E s
  live : ∀ l h, St l h → ∀ b ∈ wr, ∃ o, h.get? b = some o

section
variable {prog : Program} {w : World} {base : Heap} {A : Around} {fl : List Env} {hid : List Addr} {s : Shared} {E : Value → Shared → Prop}

noncomputable def goes : List String := ["enumerate", "zip", "dict_itemiterator", "dict_reverseitemiterator", "odict_iterator", "itertools.zip_longest", "itertools.pairwise"]
set_option tactic.hygienic true in
theorem go_plain {target : Expr} {I : Addr} {v : Value} {o : Obj} {n : String} {Q : Unit → Shared → Prop} (ho : s.heap.get? I = some o) (hc : o.cls = .type n) (hn : goes.contains n = false) (h : Q () s) :
    wpAny (model prog w) A (letOwnedTupleGo target (.ref I) v) Q E s := by
  have key : ∀ a, wpAny (model prog w) A (do
      let o ← load I
      match o.cls, o.data with
      | .type n, .fields vs =>
        if goes.contains n && vs[0]? == some (rawInt a) then
          rule "for.unpacks-the-owned-tuple"
          updateField I 0 .none
      | _, _ => pure ()) Q E s := fun a => by
    refine wpAny_bind (wpAny_load ho ?_)
    rw [hc]
    split
    · rename_i q _
      cases q
      rw [hn, Bool.false_and]
      exact wpAny_pure h
    · exact wpAny_pure h
  unfold letOwnedTupleGo
  cases target with
  | Tuple _ _ _ =>
    cases v with
    | ref a => exact key a
    | _ => exact wpAny_pure h
  | List _ _ =>
    cases v with
    | ref a => exact key a
    | _ => exact wpAny_pure h
  | _ => exact wpAny_pure h

theorem drop_cons {ρ : PH} {d : D} {l : List D} {items : Array Value} {i : Nat} (r : Reps ρ (d :: l) (items.toList.drop i)) : ∃ v, items[i]? = some v ∧ Rep ρ d v ∧ Reps ρ l (items.toList.drop (i + 1)) := by
  refine el_EEAAT (reps_cons.mp r) fun v t e h1 h2 => ?_
  have e1 : items.toList[i]? = some v := by
    have := congrArg (·[0]?) e
    simpa using this
  refine ⟨v, by simpa using e1, h1, ?_⟩
  have : items.toList.drop (i + 1) = t := by rw [← List.tail_drop, e]; rfl
  rw [this]; exact h2

theorem le_wr {wr : List Addr} {h h' : Heap} (k : ∀ b o, b ∉ wr → h.get? b = some o → h'.get? b = some o) : PH.le (Vw h (wr ++ hid)) (Vw h' (wr ++ hid)) := fun a o e =>
  Vw.mk (k a o (fun q => Vw.nin e (List.mem_append_left _ q)) (Vw.of e)) (Vw.nin e)

noncomputable def LstIn (ρ : PH) (T : String) (ax : Addr) (items : Array Value) : Prop := ∃ o n, ρ ax = some o ∧ o.cls = .type T ∧ o.data = .seq items n
theorem LstIn.mono {ρ ρ' : PH} {T : String} {ax : Addr} {items : Array Value} (x : LstIn ρ T ax items) (h : PH.le ρ ρ') : LstIn ρ' T ax items := by
  obtain ⟨o, n, h1, h2, h3⟩ := x; exact ⟨o, n, h _ _ h1, h2, h3⟩

theorem Itr.list (hh : A.handled = none) (I ax : Addr) (items : Array Value) : Itr prog w A hid false I [I] (fun l h => ∃ i, h.IsListIter I ax i ∧ LstIn (Vw h ([I] ++ hid)) "list" ax items ∧ Reps (Vw h ([I] ++ hid)) l (items.toList.drop i)) where
  frame := fun l h h' ⟨i, h1, h2, h3⟩ k v => ⟨i, h1.at fun o e => k I o (by simp) e, h2.mono v, h3.mono v⟩
  item := fun target d l s Q E _ ⟨i, h1, h2, h3⟩ _ hQ => by
    refine el_EEAAT (h2) fun o n q1 q2 q3 => ?_
    refine el_EAAT (drop_cons h3) fun v e r1 r2 => ?_
    have hne : ax ≠ I := fun q => Vw.nin q1 (by simp [q])
    refine wpAny_pyNext_list_item h1 ⟨o, Vw.of q1, q2, n, q3⟩ e fun h' hit' hs' => ⟨v, rfl, ?_⟩
    have k : ∀ b o, b ∉ [I] → s.heap.get? b = some o → h'.get? b = some o := fun b o hb e => hs'.extBut b o (fun q => hb (by simp [q])) e
    refine el_EAAT (id hit') fun oi t1 t2 t3 => ?_
    refine go_plain t1 t2 (by decide) (hQ v h' s.toks (r1.mono (le_wr k)) ⟨i + 1, hit', ?_, r2.mono (le_wr k)⟩ k)
    exact LstIn.mono ⟨o, n, q1, q2, q3⟩ (le_wr k)
  done := fun s Q E ⟨i, h1, h2, h3⟩ hQ => by
    refine el_EEAAT (h2) fun o n q1 q2 q3 => ?_
    have : items[i]? = none := by
      have := reps_nil.mp h3
      simpa using this
    exact wpAny_pyNext_list_end hh h1 ⟨o, Vw.of q1, q2, n, q3⟩ this fun h' he' => hQ h' s.toks fun b o hb e => he' b o (fun q => hb (by simp [q])) e
  self := fun l s Q E ⟨i, h1, _⟩ hQ => wpAny_pyIter_listiter h1 hQ
  live := fun l h ⟨i, ⟨o, h1, _⟩, _⟩ b hb => by simp at hb; subst hb; exact ⟨o, h1⟩

theorem Itr.tuple (hh : A.handled = none) (I ax : Addr) (items : Array Value) : Itr prog w A hid false I [I] (fun l h => ∃ i, h.IsTupleIter I ax i ∧ LstIn (Vw h ([I] ++ hid)) "tuple" ax items ∧ Reps (Vw h ([I] ++ hid)) l (items.toList.drop i)) where
  frame := fun l h h' ⟨i, h1, h2, h3⟩ k v => ⟨i, h1.at fun o e => k I o (by simp) e, h2.mono v, h3.mono v⟩
  item := fun target d l s Q E _ ⟨i, h1, h2, h3⟩ _ hQ => by
    refine el_EEAAT (h2) fun o n q1 q2 q3 => ?_
    refine el_EAAT (drop_cons h3) fun v e r1 r2 => ?_
    have hne : ax ≠ I := fun q => Vw.nin q1 (by simp [q])
    refine wpAny_pyNext_tuple_item h1 ⟨o, Vw.of q1, q2, n, q3⟩ e fun h' hit' hs' => ⟨v, rfl, ?_⟩
    have k : ∀ b o, b ∉ [I] → s.heap.get? b = some o → h'.get? b = some o := fun b o hb e => hs'.extBut b o (fun q => hb (by simp [q])) e
    refine el_EAAT (id hit') fun oi t1 t2 t3 => ?_
    refine go_plain t1 t2 (by decide) (hQ v h' s.toks (r1.mono (le_wr k)) ⟨i + 1, hit', ?_, r2.mono (le_wr k)⟩ k)
    exact LstIn.mono ⟨o, n, q1, q2, q3⟩ (le_wr k)
  done := fun s Q E ⟨i, h1, h2, h3⟩ hQ => by
    refine el_EEAAT (h2) fun o n q1 q2 q3 => ?_
    have : items[i]? = none := by
      have := reps_nil.mp h3
      simpa using this
    exact wpAny_pyNext_tuple_end hh h1 ⟨o, Vw.of q1, q2, n, q3⟩ this fun h' he' => hQ h' s.toks fun b o hb e => he' b o (fun q => hb (by simp [q])) e
  self := fun l s Q E ⟨i, h1, _⟩ hQ => wpAny_pyIter_tupleiter h1 hQ
  live := fun l h ⟨i, ⟨o, h1, _⟩, _⟩ b hb => by simp at hb; subst hb; exact ⟨o, h1⟩

theorem Itr.bytes (hh : A.handled = none) (I : Addr) (x : Array UInt8) (t : Tok) : Itr prog w A hid false I [I] (fun l h => ∃ i, KBw.IsBytesIter h I x t i ∧ l = (x.toList.drop i).map fun c => .int c.toNat) where
  frame := fun l h h' ⟨i, ⟨o, h1, h2⟩, h3⟩ k v => ⟨i, ⟨o, k I o (by simp) h1, h2⟩, h3⟩
  item := fun target d l s Q E _ ⟨i, h1, h3⟩ _ hQ => by
    have hi : i < x.size := by
      refine Nat.lt_of_not_le fun q => ?_
      rw [List.drop_eq_nil_of_le (by simpa using q)] at h3; cases h3
    rw [List.drop_eq_getElem_cons (by simpa using hi)] at h3
    simp only [List.map_cons, List.cons.injEq] at h3
    refine el_AT (h3) fun hr0 hr1 => ?_
    subst hr0
    subst hr1
    refine KBw.next_item h1 (c := x[i]) (by simp [hi]) fun h' hit' hs' => ⟨_, rfl, ?_⟩
    have k : ∀ b o, b ∉ [I] → s.heap.get? b = some o → h'.get? b = some o := fun b o hb e => hs'.extBut b o (fun q => hb (by simp [q])) e
    refine el_EAAT (id hit') fun oi t1 t2 t3 => ?_
    refine go_plain t1 t2 (by decide) (hQ _ h' _ (rep_int.mpr ⟨_, by rw [Array.getElem_toList]⟩) ⟨i + 1, hit', rfl⟩ k)
  done := fun s Q E ⟨i, h1, h3⟩ hQ => by
    have hi : x.size ≤ i := by
      have := h3.symm
      simpa using this
    exact KBw.next_end hh h1 (by simp [hi]) fun h' he' => hQ h' s.toks fun b o hb e => he' b o (fun h => hb (by simp [h])) e
  self := fun l s Q E ⟨i, h1, _⟩ hQ => KBw.pyIter_self h1 hQ
  live := fun l h ⟨i, ⟨o, h1, _⟩, _⟩ b hb => by simp at hb; subst hb; exact ⟨o, h1⟩

noncomputable def arith (x c : Int) : Nat → List D
  | 0 => []
  | n + 1 => .int x :: arith (x + c) c n
theorem upTo_eq : ∀ (n : Nat) (x : Int), upTo x n = arith x 1 n
  | 0, _ => rfl
  | n + 1, x => by rw [upTo, arith, upTo_eq n]
theorem Itr.range (hh : A.handled = none) (I : Addr) (c : Int) : Itr prog w A hid false I [I] (fun l h => ∃ x n, IsRangeIter h I x n c ∧ l = arith x c n.toNat) where
  frame := fun l h h' ⟨x, n, h1, h3⟩ k v => ⟨x, n, k I _ (by simp) h1, h3⟩
  item := fun target d l s Q E _ ⟨x, n, h1, h3⟩ _ hQ => by
    obtain ⟨m, hm⟩ : ∃ m, n.toNat = m + 1 := by
      cases hn : n.toNat with
      | zero => rw [hn] at h3; cases h3
      | succ m => exact ⟨m, rfl⟩
    rw [hm] at h3
    simp only [arith, List.cons.injEq] at h3
    refine el_AT (h3) fun hr0 hr1 => ?_
    subst hr0
    subst hr1
    refine wpAny_pyNext_range_item h1 (by omega) fun h' hit' hs' => ⟨_, rfl, ?_⟩
    have k : ∀ b o, b ∉ [I] → s.heap.get? b = some o → h'.get? b = some o := fun b o hb e => hs'.extBut b o (fun q => hb (by simp [q])) e
    exact go_plain hit' rfl (by decide) (hQ _ h' _ (rep_int.mpr ⟨_, rfl⟩) ⟨x + c, n - 1, hit', by rw [show (n - 1).toNat = m by omega]⟩ k)
  done := fun s Q E ⟨x, n, h1, h3⟩ hQ => by
    have hn : n ≤ 0 := by
      cases hn : n.toNat with
      | zero => omega
      | succ m => rw [hn] at h3; cases h3
    exact wpAny_pyNext_range_end hh h1 hn fun h' he' => hQ h' s.toks fun b o hb e => he' b o (fun h => hb (by simp [h])) e
  self := fun l s Q E ⟨x, n, h1, _⟩ hQ => wpAny_pyIter_rangeiter h1 hQ
  live := fun l h ⟨x, n, h1, _⟩ b hb => by simp at hb; subst hb; exact ⟨_, h1⟩

theorem le_new {wr ex : List Addr} {h h' : Heap} {fa : List Addr} (g : Gr fa [] h h') (hf : ∀ a ∈ fa, a ∈ hid) (hw : ∀ b ∈ wr, h.get? b = none) (hx : ∀ b ∈ ex, h'.get? b = none) : PH.le (Vw h hid) (Vw h' (wr ++ (ex ++ hid))) := fun a o e => by
  have e' := (g a o (Vw.of e) (by simp)).2 fun q => Vw.nin e (hf a q)
  refine Vw.mk e' fun q => ?_
  rcases List.mem_append.mp q with q | q
  · exact absurd (Vw.of e) (by rw [hw a q]; simp)
  · rcases List.mem_append.mp q with q | q
    · rw [hx a q] at e'; cases e'
    · exact Vw.nin e q

noncomputable abbrev Hands (prog : Program) (w : World) (A : Around) (hid : List Addr) (own : Bool) (I : Addr) (wr : List Addr) (l : List D) (h : Heap) : Prop :=
  ∀ ex : List Addr, (∀ b ∈ ex, h.get? b = none) → ∃ St, Itr prog w A (ex ++ hid) own I wr St ∧ St l h
noncomputable abbrev PI (prog : Program) (w : World) (A : Around) (hid : List Addr) (h₀ : Heap) : Bool × List D → Value → Heap → Prop := fun p v h =>
  ∃ I wr, v = .ref I ∧ Hands prog w A hid p.1 I wr p.2 h ∧ ∀ b ∈ wr, h₀.get? b = none

noncomputable def ItDoes (prog : Program) (w : World) (A : Around) (fl : List Env) (hid : List Addr) (s : Shared) (e : Expr) (env : Env) (r : R (Bool × List D)) : Prop :=
  ∀ Q E, FinT fl s r (PI prog w A hid s.heap) Q E → wpAny (model prog w) A (eval e env) (fun v s₁ => wpAny (model prog w) A (pyIter v) Q E s₁) E s

theorem new_none {h h' : Heap} {fa : List Addr} (g : Gr fa [] h h') {b : Addr} (e : h'.get? b = none) : h.get? b = none := by
  cases x : h.get? b with
  | none => rfl
  | some o =>
    refine el_AT (g b o x (by simp)) fun hn0 _ => ?_
    obtain ⟨sl, q⟩ := hn0
    rw [e] at q; cases q

theorem iter_does (c : Cx base A fl hid s.heap) {d : D} {v : Value} (r : Rep (Vw s.heap hid) d v) {l : List D} (hl : itemsD d = some l) {Q : Value → Shared → Prop}
    (k : ∀ v h', Gr (faOf fl) [] s.heap h' → PI prog w A hid s.heap (false, l) v h' → Q v { s with heap := h' }) : wpAny (model prog w) A (pyIter v) Q E s := by
  have fr : ∀ b ∈ [s.heap.objs.size], s.heap.get? b = none := fun b hb => by simp at hb; subst hb; exact Heap.get?_none_of_le (Nat.le_refl _)
  cases d with
  | list l' =>
    cases hl
    refine el_EEAAAT (rep_isList r) fun a vs hr2 nl hli rl => ?_
    subst hr2
    refine wpAny_pyIter_list hli ?_
    have g : Gr (faOf fl) [] s.heap (s.heap.push { cls := .type "list_iterator", data := .fields #[.ref a, .int 0 0] }) := Gr.push _
    refine k _ _ g ⟨s.heap.objs.size, [s.heap.objs.size], rfl, fun ex hex => ?_, fr⟩
    have le := le_new (wr := [s.heap.objs.size]) (ex := ex) g c.fhid fr hex
    refine ⟨_, Itr.list c.hd _ a vs, ⟨0, ⟨_, Heap.get?_push_size _ rfl, rfl, rfl⟩, ?_, ?_⟩⟩
    · refine el_EAAET (hli) fun o ho hc n hd => ?_
      exact LstIn.mono ⟨o, n, Vw.mk ho nl, hc, hd⟩ le
    · simpa using rl.mono le
  | tuple l' =>
    cases hl
    refine el_EEAAAT (rep_isTup r) fun a vs hr2 nl hli rl => ?_
    subst hr2
    refine wpAny_pyIter_tuple hli ?_
    have g : Gr (faOf fl) [] s.heap (s.heap.push { cls := .type "tuple_iterator", data := .fields #[.ref a, .int 0 0] }) := Gr.push _
    refine k _ _ g ⟨s.heap.objs.size, [s.heap.objs.size], rfl, fun ex hex => ?_, fr⟩
    have le := le_new (wr := [s.heap.objs.size]) (ex := ex) g c.fhid fr hex
    refine ⟨_, Itr.tuple c.hd _ a vs, ⟨0, ⟨_, Heap.get?_push_size _ rfl, rfl, rfl⟩, ?_, ?_⟩⟩
    · refine el_EAAET (hli) fun o ho hc n hd => ?_
      exact LstIn.mono ⟨o, n, Vw.mk ho nl, hc, hd⟩ le
    · simpa using rl.mono le
  | bytes b =>
    cases hl
    refine el_ET (rep_bytes.mp r) fun t hr1 => ?_
    subst hr1
    refine KBw.pyIter_bytes ?_
    exact k _ _ (Gr.push _) ⟨s.heap.objs.size, [s.heap.objs.size], rfl, fun ex hex => ⟨_, Itr.bytes c.hd _ b t, ⟨0, ⟨_, Heap.get?_push_size _ rfl, rfl, rfl⟩, by simp⟩⟩, fr⟩
  | _ => exact no_some hl

theorem PI.old {h₀ h₁ : Heap} {fa : List Addr} {p : Bool × List D} {v : Value} {h : Heap} (g : Gr fa [] h₀ h₁) (x : PI prog w A hid h₁ p v h) : PI prog w A hid h₀ p v h := by
  refine el_EEAAT (x) fun I wr e i q => ?_
  exact ⟨I, wr, e, i, fun b hb => new_none g (q b hb)⟩
end

section
variable {g : G} {prog : Program} {w : World} {base : Heap} {A : Around} {fl : List Env} {hid : List Addr} {env : Env} {sc : Scope} {σ : Vs} {n : Nat} {s : Shared} {F : Fns}
theorem val_it (S : SndE prog w base F n) (H : Here base A fl hid env sc σ n s.heap) (e : Expr) : ItDoes prog w A fl hid s e env (valI F sc σ e) := fun Q E f => by
  refine (S.ev H).use f fun d v h₁ tk₁ _ g₁ r₁ f₁ => ?_
  cases hl : itemsD d with
  | none => rw [hl] at f₁; exact f₁.elim
  | some l =>
    rw [hl] at f₁
    exact iter_does (s := { s with heap := h₁, toks := tk₁ }) (H.grow g₁).cx r₁ hl fun v h' g' p => f₁ v h' tk₁ g' (p.old g₁)
end
end Mine
end
section
namespace Mine

section
variable {g : G} {prog : Program} {w : World} {base : Heap} {A : Around} {fl : List Env} {hid : List Addr} {env : Env} {sc : Scope} {σ : Vs} {n : Nat} {s : Shared} {F : Fns}

theorem argsD_nil (as : List Expr) : argsD F sc σ as [] = (evs F sc σ as).map fun avs => (avs, []) := by
  unfold argsD
  cases h : evs F sc σ as <;> rfl

theorem args0_snd (S : SndE prog w base F n) (H : Here base A fl hid env sc σ n s.heap) (f : Value) (as : List Expr) (pos : Pos) (hs : as.any starred = false) :
    Does (model prog w) A fl s (evalArgs f true (backTo pos (starEach as env)) (backToKw pos (keywordEach [] env))) (evs F sc σ as) (fun avs a h => Reps (Vw h hid) avs a.pos ∧ a.kw = []) := fun Q E fin => by
  refine args_snd S H f as [] pos hs Q E ?_
  rw [argsD_nil]
  cases hx : evs F sc σ as with
  | ok avs =>
    rw [hx] at fin
    exact fun v h' tk g' p => fin v h' tk g' ⟨p.1, p.2⟩
  | exc c m => rw [hx] at fin; exact fin
  | bad => rw [hx] at fin; exact fin

theorem arith_up (m : Int) : upTo 0 m.toNat = arith 0 1 (Builtin.Range.rangeSize 0 m 1).toNat := by
  rw [upTo_eq, rangeSize_nat, Int.toNat_natCast, Int.sub_zero]
theorem fits_of {x : Int} (h : x.natAbs < 2 ^ 63) : Builtin.Range.rangeFitsLong x = true := by
  unfold Builtin.Range.rangeFitsLong
  rw [decide_eq_true (by omega), decide_eq_true (by omega)]; rfl
theorem small_of {a b c : Int} (h1 : a.natAbs < 2 ^ 62) (h2 : b.natAbs < 2 ^ 61) (h3 : c.natAbs < 2 ^ 61) (h4 : (Builtin.Range.rangeSize a b c).natAbs < 2 ^ 62) : Builtin.Range.small a b c = true := by
  unfold Builtin.Range.small
  rw [fits_of (Nat.lt_trans h1 (by decide)), fits_of (Nat.lt_trans h2 (by decide)), fits_of (Nat.lt_trans h3 (by decide)), fits_of (Nat.lt_trans h4 (by decide)), fits_of (x := b + (c - 1)) (by omega), fits_of (x := b + (c + 1)) (by omega), ite_self, Bool.or_true]; rfl

theorem intL3 {ρ : PH} : ∀ {vs : List D} {l : List Int} {ws : List Value} {X : List Value → Prop}, Reps ρ vs ws → intL vs = some l → (∀ ps : List (Int × Tok), l = ps.map (·.1) → X (ps.map fun p => .int p.1 p.2)) → X ws
  | [], l, ws, X, r, h, k => by cases h; rw [reps_nil.mp r]; exact k [] rfl
  | d :: vs, l, ws, X, r, h, k => by
    refine el_EEAAT (reps_cons.mp r) fun v t e q1 q2 => ?_
    refine bind_some h fun a ha h => map_some h fun b hb h => ?_
    subst e
    refine intL3 (X := fun t => X (v :: t)) q2 hb fun ps e => ?_
    refine rep_i (X := fun v => X (v :: ps.map fun p => .int p.1 p.2)) q1 ha fun t => ?_
    exact k ((a, t) :: ps) (by rw [← h, e]; rfl)
theorem ints1 {ps : List (Int × Tok)} {n : Int} (h : one? (ps.map (·.1)) = some n) : ∃ t, ps = [(n, t)] := by
  have := one?_s h
  cases ps with
  | nil => cases this
  | cons p ps =>
    cases ps with
    | nil => cases this; exact ⟨p.2, rfl⟩
    | cons p' ps => cases this
theorem range1 (c : Cx base A fl hid s.heap) {m : Int} {u : Tok} (hm : m.natAbs ≤ 4096) {Q E : Value → Shared → Prop} (k : ∀ v h' tk, Gr (faOf fl) [] s.heap h' → PI prog w A hid s.heap (false, upTo 0 m.toNat) v h' → Q v { s with heap := h', toks := tk }) :
    wpAny (model prog w) A (call (.type "range") [.int m u]) (fun v s₁ => wpAny (model prog w) A (pyIter v) Q E s₁) E s := by
  refine call_range_1 ?_
  refine wpAny_pyIter_range (a := 0) (b := m) (c := 1) (Heap.get?_push_size _ rfl) (small_of (by decide) (Nat.lt_of_le_of_lt hm (by decide)) (by decide) (by rw [rangeSize_nat, Int.sub_zero]; show m.toNat < _; omega)) ?_
  have g3 : Gr (faOf fl) [] s.heap ((s.heap.push { cls := .type "range", data := .fields #[.int 0 s.toks, .int m u, .int 1 (s.toks + 1)] }).push { cls := .type "range_iterator", data := .fields #[rawInt 0, rawInt (Builtin.Range.rangeSize 0 m 1), rawInt 1] }) := (Gr.push _).trans (Gr.push _)
  refine k _ _ _ g3 ⟨_, [_], rfl, fun ex hex => ⟨_, Itr.range c.hd _ 1, ⟨0, _, Heap.get?_push_size _ rfl, arith_up m⟩⟩, fun b hb => ?_⟩
  rw [List.mem_singleton.mp hb]
  exact new_none (Gr.push (fa := faOf fl) (W := []) { cls := .type "range", data := .fields #[.int 0 s.toks, .int m u, .int 1 (s.toks + 1)] }) (Heap.get?_none_of_le (Nat.le_refl _))
theorem range_it (T : TpN g base) (S : SndE prog w base F n) (H : Here base A fl hid env sc σ n s.heap) (x : Str) (np pos : Pos) (as : List Expr) (hs : as.any starred = false) :
    ItDoes prog w A fl hid s (.Call (.Name x np) as [] pos) env ((nameD g sc σ x).bind fun f => if f.isTy "range" then (evs F sc σ as).bind fun vs => (R.of (rangeD vs)).map fun l => (false, l) else .bad) := fun Q E fin => by
  refine wpAny_Call_ofName ((name_does T H x np).use fin fun d v h₁ tk₁ _ g₁ r₁ f₁ => ?_)
  have H₁ := H.grow g₁
  refine FinT.ite f₁ fun hd f₁ => ?_
  rw [D.isTy_t hd] at r₁
  refine r₁.type (callWith_of (P := fun _ => True) (by rw [(star_plain pos as hs).1]; rfl) (fun _ _ => keep_type) ?_)
  refine (args0_snd S (s := { s with heap := h₁, toks := tk₁ }) H₁ _ as pos hs).use f₁ fun vs a h₂ tk₂ _ g₂ r₂ f₂ => ⟨trivial, ?_⟩
  have H₂ := H₁.grow g₂
  rw [r₂.2]
  cases hr : rangeD vs with
  | none => rw [hr] at f₂; exact f₂.elim
  | some l =>
    rw [hr] at f₂
    have k : ∀ v h' tk, Gr (faOf fl) [] h₂ h' → PI prog w A hid h₂ (false, l) v h' → Q v { s with heap := h', toks := tk } := fun v h' tk g' p => f₂ v h' tk g' ((p.old g₂).old g₁)
    clear f₂ fin f₁
    refine bind_some hr fun is hi hr => intL3 (X := fun ws => wpAny (model prog w) A (call (.type "range") ws) (fun v s₁ => wpAny (model prog w) A (pyIter v) Q E s₁) E { s with heap := h₂, toks := tk₂ }) r₂.1 hi fun ps e => ?_
    subst e
    cases h1 : one? (ps.map (·.1)) with
    | some n =>
      rw [h1] at hr
      refine el_AT (ite_some hr) fun hm hr => ?_
      cases hr
      refine el_ET (ints1 h1) fun t hr1 => ?_
      subst hr1
      exact range1 (s := { s with heap := h₂, toks := tk₂ }) H₂.cx hm k
    | none =>
      rw [h1] at hr; cases hr
end

section
variable {prog : Program} {w : World} {base : Heap} {A : Around} {fl : List Env} {hid : List Addr} {s : Shared} {E : Value → Shared → Prop}

noncomputable def ZRow (h : Heap) (ρ : PH) (it L : Addr) (xs : Array Value) (i : Nat) (l : List D) : Prop := h.IsListIter it L i ∧ LstIn ρ "list" L xs ∧ Reps ρ l (xs.toList.drop i)
section
variable {h h' : Heap} {ρ ρ' : PH} {it L : Addr} {xs : Array Value} {i : Nat} {l : List D} {d : D}
theorem ZRow.mono (x : ZRow h ρ it L xs i l) (k : ∀ o, h.get? it = some o → h'.get? it = some o) (v : PH.le ρ ρ') : ZRow h' ρ' it L xs i l := ⟨x.1.at k, x.2.1.mono v, x.2.2.mono v⟩
theorem ZRow.isList {ex : List Addr} (x : ZRow h (Vw h ex) it L xs i l) : h.IsList L xs := by
  obtain ⟨o, n, p, c, e⟩ := x.2.1
  exact ⟨o, Vw.of p, c, n, e⟩
theorem ZRow.live (x : ZRow h ρ it L xs i l) : ∃ o, h.get? it = some o := x.1.imp fun _ q => q.1
theorem ZRow.end (x : ZRow h ρ it L xs i []) : xs[i]? = Option.none := by simpa using reps_nil.mp x.2.2
theorem ZRow.some (x : ZRow h ρ it L xs i (d :: l)) : ∃ v, xs[i]? = Option.some v ∧ Rep ρ d v ∧ ∀ h' ρ', h'.IsListIter it L (i + 1) → PH.le ρ ρ' → ZRow h' ρ' it L xs (i + 1) l := by
  refine el_EAAT (drop_cons x.2.2) fun v e r1 r2 => ?_
  exact ⟨v, e, r1, fun h' ρ' q le => ⟨q, x.2.1.mono le, r2.mono le⟩⟩
theorem ZRow.made {ex : List Addr} (q1 : h'.IsListIter it L 0) (q2 : h.IsList L xs) (n : L ∉ ex) (r : Reps (Vw h ex) l xs.toList) (le : PH.le (Vw h ex) ρ) : ZRow h' ρ it L xs 0 l := by
  obtain ⟨o, ho, hc, m, hd⟩ := q2
  exact ⟨q1, LstIn.mono ⟨o, m, Vw.mk ho n, hc, hd⟩ le, by rw [List.drop_zero]; exact r.mono le⟩
end
theorem nin_c {b a : Addr} {l : List Addr} (h : b ∉ a :: l) : b ≠ a ∧ b ∉ l := ⟨List.ne_of_not_mem_cons h, List.not_mem_of_not_mem_cons h⟩
theorem out_c {b a : Addr} {l : List Addr} (h : b ≠ a) (k : b ∉ l) : b ∉ a :: l := List.not_mem_cons_of_ne_of_not_mem h k
theorem all_c {P : Addr → Prop} {a : Addr} {l : List Addr} (h : P a) (k : ∀ b ∈ l, P b) : ∀ b ∈ a :: l, P b := List.forall_mem_cons.mpr ⟨h, k⟩
theorem all_n {P : Addr → Prop} : ∀ b ∈ ([] : List Addr), P b := fun _ h => nomatch h
theorem size_ne {h : Heap} {c : Addr} (q : ∃ o, h.get? c = some o) : h.objs.size ≠ c := by
  obtain ⟨o, e⟩ := q
  exact Nat.ne_of_gt (Heap.lt_size e)

inductive Z2 (h : Heap) (ρ : PH) (z TI TO i1 i2 l1 l2 : Addr) (xs ys : Array Value) (l : List D) : Prop
  | mk (i : Nat) (a b : Value) (la lb : List D) (hz : IsZip h z TI TO .none) (hTI : IsPair h TI (.ref i1) (.ref i2)) (hTO : IsPair h TO a b) (r1 : ZRow h ρ i1 l1 xs i la) (r2 : ZRow h ρ i2 l2 ys i lb) (e : l = Mine.zip2 la lb)

theorem Itr.zip2 (hh : A.handled = none) (z TI TO i1 i2 l1 l2 : Addr) (xs ys : Array Value) (Ap : ZipApart z TI TO i1 i2 l1 l2) : Itr prog w A hid true z [z, TI, TO, i1, i2]
    (fun l h => Z2 h (Vw h ([z, TI, TO, i1, i2] ++ hid)) z TI TO i1 i2 l1 l2 xs ys l) := by
  constructor
  · intro l h h' st k v
    cases st with
    | mk i a b la lb hz hTI hTO r1 r2 e =>
    have K := fun b hb o => k b o hb
    have k1 := List.forall_mem_cons.mp K
    have k2 := List.forall_mem_cons.mp k1.2
    have k3 := List.forall_mem_cons.mp k2.2
    have k4 := List.forall_mem_cons.mp k3.2
    exact ⟨i, a, b, la, lb, k1.1 _ hz, k2.1 _ hTI, k3.1 _ hTO, r1.mono k4.1 v, r2.mono (List.forall_mem_cons.mp k4.2).1 v, e⟩
  · intro target d l s Q E ht st hlive hQ
    cases st with
    | mk i a b la lb hz hTI hTO r1 r2 e =>
    cases la with
    | nil => cases e
    | cons x la =>
    cases lb with
    | nil => cases e
    | cons y lb =>
    refine el_AT (List.cons.inj e) fun e1 e2 => ?_
    subst e1
    subst e2
    refine el_EAAT r1.some fun v1 e1 x1 y1 => ?_
    refine el_EAAT r2.some fun v2 e2 x2 y2 => ?_
    refine el_EEET (isTup_t (ht rfl)) fun elts kk pos e => ?_
    subst e
    refine wpAny_pyNext_zip_item Ap hz hTI hTO r1.1 r2.1 r1.isList r2.isList e1 e2 fun h' a1 a2 a3 a4 a5 a6 hk => ⟨_, rfl, ?_⟩
    refine wpAny_letOwnedTupleGo_zip a1 fun h'' hz' hs' => ?_
    have k : ∀ b o, b ∉ [z, TI, TO, i1, i2] → s.heap.get? b = some o → h''.get? b = some o := fun b o hb e => by
      have n1 := nin_c hb
      have n3 := nin_c (nin_c n1.2).2
      have n4 := nin_c n3.2
      exact hs'.extBut b o n1.1 (hk b o n1.1 n3.1 n4.1 (nin_c n4.2).1 e)
    have le := le_wr (hid := hid) k
    refine hQ _ h'' s.toks ?_ ⟨i + 1, _, _, la, lb, hz', hs'.extBut _ _ Ap.TIz (hk _ _ Ap.TIz Ap.TITO Ap.TIi1 Ap.TIi2 hTI), hs'.extBut _ _ Ap.TOz a2, y1 _ _ (a3.extBut hs'.extBut Ap.i1z) le, y2 _ _ (a4.extBut hs'.extBut Ap.i2z) le, rfl⟩ k
    refine rep_tuple.mpr ⟨_, _, #[v1, v2], 0, rfl, Vw.mk (hs'.extBut _ _ (size_ne ⟨_, hz⟩) a5) ?_, ⟨rfl, rfl⟩, rfl, reps_cons' (x1.mono le) (reps_cons' (x2.mono le) reps_nil')⟩
    exact out_c (size_ne ⟨_, hz⟩) (out_c (size_ne ⟨_, hTI⟩) (out_c (size_ne ⟨_, hTO⟩) (out_c (size_ne r1.live) (out_c (size_ne r2.live) fun q => size_ne (hlive _ q) rfl))))
  · intro s Q E st hQ
    cases st with
    | mk i a b la lb hz hTI hTO r1 r2 e =>
    have hend : xs[i]? = none ∨ ys[i]? = none := by
      cases la with
      | nil => exact .inl r1.end
      | cons x la =>
        cases lb with
        | nil => exact .inr r2.end
        | cons y lb => cases e
    exact wpAny_pyNext_zip_end hh Ap hz hTI hTO r1.1 r2.1 r1.isList r2.isList hend fun h' hk => hQ h' s.toks fun b o hb e => by
      have n1 := nin_c hb
      have n3 := nin_c (nin_c n1.2).2
      have n4 := nin_c n3.2
      exact hk b o n1.1 n3.1 n4.1 (nin_c n4.2).1 e
  · intro l s Q E st hQ
    cases st with
    | mk i a b la lb hz hTI hTO r1 r2 e => exact wpAny_pyIter_zip hz hQ
  · intro l h st
    cases st with
    | mk i a b la lb hz hTI hTO r1 r2 e => exact all_c ⟨_, hz⟩ (all_c ⟨_, hTI⟩ (all_c ⟨_, hTO⟩ (all_c r1.live (all_c r2.live all_n))))
end
end Mine
end
section
namespace Mine

noncomputable abbrev IsTri (h : Heap) (T : Addr) (a b c : Value) : Prop := h.get? T = some { cls := .type "tuple", data := .seq #[a, b, c] }
theorem isList_lt {h : Heap} {a : Addr} {items : Array Value} (x : h.IsList a items) : a < h.objs.size := by
  obtain ⟨o, ho, _⟩ := x; exact Heap.lt_size ho
structure Ap3 (z TI TO i1 i2 i3 l1 l2 l3 : Addr) : Prop where
  TIz : TI ≠ z
  TOz : TO ≠ z
  i1z : i1 ≠ z
  i2z : i2 ≠ z
  i3z : i3 ≠ z
  TITO : TI ≠ TO
  TIi1 : TI ≠ i1
  TIi2 : TI ≠ i2
  TIi3 : TI ≠ i3
  TOi1 : TO ≠ i1
  TOi2 : TO ≠ i2
  TOi3 : TO ≠ i3
  i12 : i1 ≠ i2
  i13 : i1 ≠ i3
  i23 : i2 ≠ i3
  l1z : l1 ≠ z
  l2z : l2 ≠ z
  l2TO : l2 ≠ TO
  l2i1 : l2 ≠ i1
  l3z : l3 ≠ z
  l3TO : l3 ≠ TO
  l3i1 : l3 ≠ i1
  l3i2 : l3 ≠ i2

section
variable {prog : Program} {w : World} {A : Around} {E : Value → Shared → Prop} {s : Shared}

theorem updTri {T : Addr} {a b c x : Value} {k : Nat} {Q : Unit → Shared → Prop} (hT : IsTri s.heap T a b c)
    (h : ∀ h', h'.get? T = some { cls := .type "tuple", data := .seq ((#[a, b, c] : Array Value).setIfInBounds k x) } → Heap.SameBut T s.heap h' → Q () { s with heap := h' }) :
    wpAny (model prog w) A (updateSeq T (·.setIfInBounds k x)) Q E s := by
  refine wpAny_updateSeq hT rfl (h _ ?_ (Heap.SameBut.update ..))
  rw [Heap.get?_update_self _ hT rfl]
  simp [Obj.mapSeq]

theorem zip3_next_item {z TI TO i1 i2 i3 l1 l2 l3 : Addr} {k1 k2 k3 : Nat} {xs ys zs : Array Value} {x y u a b c : Value} {Q : Value → Shared → Prop} (D : Ap3 z TI TO i1 i2 i3 l1 l2 l3)
    (hz : IsZip s.heap z TI TO .none) (hTI : IsTri s.heap TI (.ref i1) (.ref i2) (.ref i3)) (hTO : IsTri s.heap TO a b c)
    (h1 : s.heap.IsListIter i1 l1 k1) (h2 : s.heap.IsListIter i2 l2 k2) (h3 : s.heap.IsListIter i3 l3 k3) (hl1 : s.heap.IsList l1 xs) (hl2 : s.heap.IsList l2 ys) (hl3 : s.heap.IsList l3 zs) (hx : xs[k1]? = some x) (hy : ys[k2]? = some y) (hu : zs[k3]? = some u)
    (hQ : ∀ h', IsZip h' z TI TO (rawInt s.heap.objs.size) → IsTri h' TO x y u → h'.IsListIter i1 l1 (k1 + 1) → h'.IsListIter i2 l2 (k2 + 1) → h'.IsListIter i3 l3 (k3 + 1) → IsTri h' s.heap.objs.size x y u →
      (∀ c o, c ≠ z → c ≠ TO → c ≠ i1 → c ≠ i2 → c ≠ i3 → s.heap.get? c = some o → h'.get? c = some o) → Q (.ref s.heap.objs.size) { s with heap := h' }) :
    wpAny (model prog w) A (Builtin.«zip.__next__» ⟨[.ref z], []⟩) (fun fin s' => ∃ v, fin = .done (.ret v) ∧ Q v s') E s := by
  show wpAny _ _ (field (.ref z) 2 >>= _) _ _ _
  refine wpAny_bind (wpAny_field hz rfl (x := .bool false) rfl ?_)
  show wpAny _ _ (field (.ref z) 3 >>= _) _ _ _
  refine wpAny_bind (wpAny_field hz rfl (x := .ref TI) rfl ?_)
  refine wpAny_bind (wpAny_seqItems hTI rfl ?_)
  show wpAny _ _ (Builtin.SmallTypes.ownedTupleIsFree (.ref z) >>= _) _ _ _
  refine wpAny_bind ?_
  unfold Builtin.SmallTypes.ownedTupleIsFree
  refine wpAny_bind (wpAny_field hz rfl (x := .none) rfl (wpAny_pure ?_))
  simp only [if_true]
  refine wpAny_bind (wpAny_rule ?_)
  refine wpAny_bind (wpAny_field hz rfl (x := .ref TO) rfl ?_)
  refine wpAny_bind (wpAny_setField_rec hz (Nat.le_of_ble_eq_true rfl) fun h₁ hz₁ hs₁ => ?_)
  replace hz₁ : IsZip h₁ z TI TO .ellipsis := hz₁
  refine wpAny_bind ?_
  simp only [List.zipIdx_cons, List.zipIdx_nil, List.forIn_cons, List.forIn_nil]
  refine wpAny_bind (wpAny_bind (wpAny_onRaise ?_))
  show wpAny _ _ (Builtin.SmallTypes.nextOf (.ref i1) >>= _) _ _ _
  refine wpAny_bind (wpAny_nextOf_list_item (h1.extBut hs₁.extBut D.i1z) (hl1.extBut hs₁.extBut D.l1z) hx fun h₂ h1₂ hs₂ => wpAny_pure ?_)
  have hTO₂ : IsTri h₂ TO a b c := hs₂.extBut _ _ D.TOi1 (hs₁.extBut _ _ D.TOz hTO)
  refine wpAny_bind (wpAny_seqItems hTO₂ rfl ?_)
  refine wpAny_bind (updTri hTO₂ fun h₃ hTO₃ hs₃ => ?_)
  replace hTO₃ : IsTri h₃ TO x b c := hTO₃
  refine wpAny_bind (wpAny_letGo (wpAny_pure ?_))
  refine wpAny_bind (wpAny_bind (wpAny_onRaise ?_))
  show wpAny _ _ (Builtin.SmallTypes.nextOf (.ref i2) >>= _) _ _ _
  refine wpAny_bind (wpAny_nextOf_list_item (((h2.extBut hs₁.extBut D.i2z).extBut hs₂.extBut D.i12.symm).extBut hs₃.extBut D.TOi2.symm)
    (((hl2.extBut hs₁.extBut D.l2z).extBut hs₂.extBut D.l2i1).extBut hs₃.extBut D.l2TO) hy fun h₄ h2₄ hs₄ => wpAny_pure ?_)
  have hTO₄ : IsTri h₄ TO x b c := hs₄.extBut _ _ D.TOi2 hTO₃
  refine wpAny_bind (wpAny_seqItems hTO₄ rfl ?_)
  refine wpAny_bind (updTri hTO₄ fun h₅ hTO₅ hs₅ => ?_)
  replace hTO₅ : IsTri h₅ TO x y c := hTO₅
  refine wpAny_bind (wpAny_letGo (wpAny_pure ?_))
  refine wpAny_bind (wpAny_bind (wpAny_onRaise ?_))
  show wpAny _ _ (Builtin.SmallTypes.nextOf (.ref i3) >>= _) _ _ _
  refine wpAny_bind (wpAny_nextOf_list_item (((((h3.extBut hs₁.extBut D.i3z).extBut hs₂.extBut D.i13.symm).extBut hs₃.extBut D.TOi3.symm).extBut hs₄.extBut D.i23.symm).extBut hs₅.extBut D.TOi3.symm)
    (((((hl3.extBut hs₁.extBut D.l3z).extBut hs₂.extBut D.l3i1).extBut hs₃.extBut D.l3TO).extBut hs₄.extBut D.l3i2).extBut hs₅.extBut D.l3TO) hu fun h₆ h3₆ hs₆ => wpAny_pure ?_)
  have hTO₆ : IsTri h₆ TO x y c := hs₆.extBut _ _ D.TOi3 hTO₅
  refine wpAny_bind (wpAny_seqItems hTO₆ rfl ?_)
  refine wpAny_bind (updTri hTO₆ fun h₇ hTO₇ hs₇ => ?_)
  replace hTO₇ : IsTri h₇ TO x y u := hTO₇
  refine wpAny_bind (wpAny_letGo (wpAny_pure (wpAny_pure ?_)))
  refine wpAny_bind (wpAny_seqItems hTO₇ rfl ?_)
  refine wpAny_bind (wpAny_newTuple ?_)
  have hsz : h₇.objs.size = s.heap.objs.size := by rw [hs₇.1, hs₆.1, hs₅.1, hs₄.1, hs₃.1, hs₂.1, hs₁.1]
  have hz₇ : IsZip h₇ z TI TO .ellipsis := hs₇.extBut _ _ D.TOz.symm (hs₆.extBut _ _ D.i3z.symm (hs₅.extBut _ _ D.TOz.symm (hs₄.extBut _ _ D.i2z.symm (hs₃.extBut _ _ D.TOz.symm (hs₂.extBut _ _ D.i1z.symm hz₁)))))
  have hk₇ : ∀ c o, c ≠ z → c ≠ TO → c ≠ i1 → c ≠ i2 → c ≠ i3 → s.heap.get? c = some o → h₇.get? c = some o := fun c o c1 c2 c3 c4 c5 e =>
    hs₇.extBut _ _ c2 (hs₆.extBut _ _ c5 (hs₅.extBut _ _ c2 (hs₄.extBut _ _ c4 (hs₃.extBut _ _ c2 (hs₂.extBut _ _ c3 (hs₁.extBut _ _ c1 e))))))
  have h1₇ : h₇.IsListIter i1 l1 (k1 + 1) := ((((h1₂.extBut hs₃.extBut D.TOi1.symm).extBut hs₄.extBut D.i12).extBut hs₅.extBut D.TOi1.symm).extBut hs₆.extBut D.i13).extBut hs₇.extBut D.TOi1.symm
  have h2₇ : h₇.IsListIter i2 l2 (k2 + 1) := ((h2₄.extBut hs₅.extBut D.TOi2.symm).extBut hs₆.extBut D.i23).extBut hs₇.extBut D.TOi2.symm
  have h3₇ : h₇.IsListIter i3 l3 (k3 + 1) := h3₆.extBut hs₇.extBut D.TOi3.symm
  have hzlt : z < h₇.objs.size := Heap.lt_size hz₇
  show wpAny _ _ (Builtin.SmallTypes.ownedTupleHandOut (.ref z) (.ref h₇.objs.size) >>= _) _ _ _
  refine wpAny_bind ?_
  unfold Builtin.SmallTypes.ownedTupleHandOut
  have hz₈ : IsZip (h₇.push { cls := .type "tuple", data := .seq #[x, y, u] }) z TI TO .ellipsis := Heap.get?_push_of_some _ hz₇
  refine wpAny_bind (wpAny_setField_rec hz₈ (Nat.le_of_ble_eq_true rfl) fun h₉ hz₉ hs₉ => ?_)
  replace hz₉ : IsZip h₉ z TI TO (rawInt h₇.objs.size) := hz₉
  refine wpAny_setField_rec hz₉ (Nat.le_of_ble_eq_true rfl) fun hA hzA hsA => ?_
  replace hzA : IsZip hA z TI TO (rawInt h₇.objs.size) := hzA
  have up : ∀ c o, c ≠ z → h₇.get? c = some o → hA.get? c = some o := fun c o c1 e => hsA.extBut _ _ c1 (hs₉.extBut _ _ c1 (Heap.get?_push_of_some _ e))
  have hTA : IsTri hA h₇.objs.size x y u := hsA.extBut _ _ (Nat.ne_of_gt hzlt) (hs₉.extBut _ _ (Nat.ne_of_gt hzlt) (Heap.get?_push_size _ rfl))
  rw [hsz] at hzA hTA
  refine wpAny_pure ⟨_, rfl, ?_⟩
  show Q (.ref h₇.objs.size) _
  rw [hsz]
  exact hQ hA hzA (up _ _ D.TOz hTO₇) (h1₇.at fun o e => up _ o D.i1z e) (h2₇.at fun o e => up _ o D.i2z e) (h3₇.at fun o e => up _ o D.i3z e) hTA fun c o c1 c2 c3 c4 c5 e => up c o c1 (hk₇ c o c1 c2 c3 c4 c5 e)

theorem zip3_next_end {z TI TO i1 i2 i3 l1 l2 l3 : Addr} {k1 : Nat} {xs : Array Value} {Q : PySem.Fin → Shared → Prop} (hh : A.handled = none) (D : Ap3 z TI TO i1 i2 i3 l1 l2 l3)
    (hz : IsZip s.heap z TI TO .none) (hTI : IsTri s.heap TI (.ref i1) (.ref i2) (.ref i3))
    (h1 : s.heap.IsListIter i1 l1 k1) (hl1 : s.heap.IsList l1 xs) (hx : xs[k1]? = none)
    (hE : ∀ h' e, (∀ c o, c ≠ z → c ≠ i1 → s.heap.get? c = some o → h'.get? c = some o) → (∃ o, h'.get? e = some o ∧ o.cls = .type "StopIteration") → E (.ref e) { s with heap := h' }) :
    wpAny (model prog w) A (Builtin.«zip.__next__» ⟨[.ref z], []⟩) Q E s := by
  show wpAny _ _ (field (.ref z) 2 >>= _) _ _ _
  refine wpAny_bind (wpAny_field hz rfl (x := .bool false) rfl ?_)
  show wpAny _ _ (field (.ref z) 3 >>= _) _ _ _
  refine wpAny_bind (wpAny_field hz rfl (x := .ref TI) rfl ?_)
  refine wpAny_bind (wpAny_seqItems hTI rfl ?_)
  show wpAny _ _ (Builtin.SmallTypes.ownedTupleIsFree (.ref z) >>= _) _ _ _
  refine wpAny_bind ?_
  unfold Builtin.SmallTypes.ownedTupleIsFree
  refine wpAny_bind (wpAny_field hz rfl (x := .none) rfl (wpAny_pure ?_))
  simp only [if_true]
  refine wpAny_bind (wpAny_rule ?_)
  refine wpAny_bind (wpAny_field hz rfl (x := .ref TO) rfl ?_)
  refine wpAny_bind (wpAny_setField_rec hz (Nat.le_of_ble_eq_true rfl) fun h₁ hz₁ hs₁ => ?_)
  replace hz₁ : IsZip h₁ z TI TO .ellipsis := hz₁
  refine wpAny_bind ?_
  simp only [List.zipIdx_cons, List.zipIdx_nil, List.forIn_cons, List.forIn_nil]
  refine wpAny_bind (wpAny_bind (wpAny_onRaise ?_))
  show wpAny _ _ (Builtin.SmallTypes.nextOf (.ref i1) >>= _) _ _ _
  refine wpAny_bind (wpAny_nextOf_list_end hh (h1.extBut hs₁.extBut D.i1z) (hl1.extBut hs₁.extBut D.l1z) hx fun h₂ e hs₂ he => ?_)
  refine el_EAT (he) fun oe hoe hce => ?_
  have hz₂ : IsZip h₂ z TI TO .ellipsis := hs₂ _ _ D.i1z.symm hz₁
  have hez : e ≠ z := fun x => by subst x; rw [hz₂] at hoe; cases hoe; simp at hce
  refine wpAny_setField_rec hz₂ (Nat.le_of_ble_eq_true rfl) fun h₃ _ hs₃ => hE h₃ e (fun c o c1 c3 x => hs₃.extBut _ _ c1 (hs₂ _ _ c3 (hs₁.extBut _ _ c1 x))) ⟨oe, hs₃.extBut _ _ hez hoe, hce⟩

theorem typeCall_zip_3 (a b c : Value) : checkTypeCall "zip" ⟨[a, b, c], []⟩ = pure () := by kernel_rfl
theorem newCall_zip_3 (a b c : Value) : checkBuiltinCall "zip.__new__" ⟨[.type "zip", a, b, c], []⟩ = pure () := by kernel_rfl
theorem args_object_init_4 (a b c d : Value) : argsOk "object.__init__" ⟨[a, b, c, d], []⟩ := by unfold argsOk; kernel_rfl
noncomputable abbrev li (l : Addr) : Obj := { cls := .type "list_iterator", data := .fields #[.ref l, .int 0 0] }
noncomputable abbrev z3a (h : Heap) (l1 l2 l3 : Addr) : Heap := ((h.push (li l1)).push (li l2)).push (li l3)
noncomputable abbrev z3b (h : Heap) (l1 l2 l3 : Addr) : Heap := (z3a h l1 l2 l3).push { cls := .type "tuple", data := .seq #[.ref h.objs.size, .ref (h.push (li l1)).objs.size, .ref ((h.push (li l1)).push (li l2)).objs.size] }
noncomputable abbrev z3c (h : Heap) (l1 l2 l3 : Addr) : Heap := (z3b h l1 l2 l3).push { cls := .type "tuple", data := .seq #[.none, .none, .none] }
noncomputable abbrev z3d (h : Heap) (l1 l2 l3 : Addr) : Heap := (z3c h l1 l2 l3).push { cls := .type "zip", data := .fields #[.none, .bool false, .bool false, .ref (z3a h l1 l2 l3).objs.size, .ref (z3b h l1 l2 l3).objs.size] }
theorem isType_zip : isType (.type "zip") = pure true := by first | rfl | kernel_rfl
theorem newClass_zip (rest : List Value) : Builtin.SmallTypes.newClass "zip" ⟨.type "zip" :: rest, []⟩ = pure (.type "zip", rest) := by
  unfold Builtin.SmallTypes.newClass
  simp only [isType_zip, PySem.sub_zip]
  rfl
theorem meets_zip3_new (l1 l2 l3 : Addr) (xs ys zs : Array Value) :
    Meets (Builtin.«zip.__new__» ⟨[.type "zip", .ref l1, .ref l2, .ref l3], []⟩) (fun _ R s => s.heap.IsList l1 xs ∧ s.heap.IsList l2 ys ∧ s.heap.IsList l3 zs ∧
      R (.ok (.ret (.ref (z3c s.heap l1 l2 l3).objs.size))) { s with heap := z3d s.heap l1 l2 l3 }) :=
  .of_wp fun prog w A R s h => by
    refine el_AAAT (h) fun hl1 hl2 hl3 h => ?_
    unfold Builtin.«zip.__new__»
    rw [newClass_zip]
    refine wpAny_bind (wpAny_pure ?_)
    show wpAny _ _ (Builtin.SmallTypes.iterAll [.ref l1, .ref l2, .ref l3] >>= _) _ _ s
    refine wpAny_bind ?_
    unfold Builtin.SmallTypes.iterAll
    refine wpAny_bind ?_
    simp only [List.forIn_cons, List.forIn_nil]
    refine wpAny_bind (wpAny_bind (wpAny_holding (wpAny_pyIter_list hl1 (wpAny_pure ?_))))
    refine wpAny_bind (wpAny_bind (wpAny_holding (wpAny_pyIter_list (s := { s with heap := s.heap.push (li l1) }) (hl2.push _) (wpAny_pure ?_))))
    refine wpAny_bind (wpAny_bind (wpAny_holding (wpAny_pyIter_list (s := { s with heap := (s.heap.push (li l1)).push (li l2) }) ((hl3.push _).push _) (wpAny_pure ?_))))
    refine wpAny_pure (wpAny_pure ?_)
    refine wpAny_bind (wpAny_newTuple ?_ (by show 3 ≤ sizeLine; decide))
    refine wpAny_bind (wpAny_newTuple ?_ (by show 3 ≤ sizeLine; decide))
    refine wpAny_bind (wpAny_newObj_type (T := "zip") (dict := none) (data := .fields #[.none, .bool false, .bool false, .ref (z3a s.heap l1 l2 l3).objs.size, .ref (z3b s.heap l1 l2 l3).objs.size]) ?_ (by show 5 ≤ sizeLine + 2; decide))
    exact wpAny_pure ⟨_, rfl, h⟩

theorem call_zip_3 {l1 l2 l3 : Addr} {xs ys zs : Array Value} {Q : Value → Shared → Prop} (hl1 : s.heap.IsList l1 xs) (hl2 : s.heap.IsList l2 ys) (hl3 : s.heap.IsList l3 zs)
    (h : ∀ h' z TI TO i1 i2 i3, IsZip h' z TI TO .none → IsTri h' TI (.ref i1) (.ref i2) (.ref i3) → IsTri h' TO .none .none .none → h'.IsListIter i1 l1 0 → h'.IsListIter i2 l2 0 → h'.IsListIter i3 l3 0 → Ap3 z TI TO i1 i2 i3 l1 l2 l3 →
      (∀ b ∈ [z, TI, TO, i1, i2, i3], s.heap.get? b = none) →
      (∀ c o, s.heap.get? c = some o → h'.get? c = some o) → Q (.ref z) { s with heap := h' }) :
    wpAny (model prog w) A (call (.type "zip") [.ref l1, .ref l2, .ref l3]) Q E s := by
  refine callType_new F.called_zip (by decide) (typeCall_zip_3 _ _ _) (newCall_zip_3 _ _ _) (fun obj => args_object_init_4 obj _ _ _) F.entry_zip_new
    (meets_zip3_new l1 l2 l3 xs ys zs) ⟨hl1, hl2, hl3, ?_⟩
  have y1 : (s.heap.push (li l1)).objs.size = s.heap.objs.size + 1 := Heap.size_push ..
  have y2 : ((s.heap.push (li l1)).push (li l2)).objs.size = s.heap.objs.size + 2 := by rw [Heap.size_push, y1]
  have y3 : (z3a s.heap l1 l2 l3).objs.size = s.heap.objs.size + 3 := by rw [Heap.size_push, y2]
  have y4 : (z3b s.heap l1 l2 l3).objs.size = s.heap.objs.size + 4 := by rw [Heap.size_push, y3]
  have y5 : (z3c s.heap l1 l2 l3).objs.size = s.heap.objs.size + 5 := by rw [Heap.size_push, y4]
  have g6 : (z3d s.heap l1 l2 l3).get? (z3c s.heap l1 l2 l3).objs.size = some _ := Heap.get?_push_size _ rfl
  have g5 : (z3d s.heap l1 l2 l3).get? (z3b s.heap l1 l2 l3).objs.size = some _ := Heap.get?_push_of_some _ (Heap.get?_push_size _ rfl)
  have g4 : (z3d s.heap l1 l2 l3).get? (z3a s.heap l1 l2 l3).objs.size = some _ := Heap.get?_push_of_some _ (Heap.get?_push_of_some _ (Heap.get?_push_size _ rfl))
  have g3 : (z3d s.heap l1 l2 l3).get? ((s.heap.push (li l1)).push (li l2)).objs.size = some _ := Heap.get?_push_of_some _ (Heap.get?_push_of_some _ (Heap.get?_push_of_some _ (Heap.get?_push_size _ rfl)))
  have g2 : (z3d s.heap l1 l2 l3).get? (s.heap.push (li l1)).objs.size = some _ := Heap.get?_push_of_some _ (Heap.get?_push_of_some _ (Heap.get?_push_of_some _ (Heap.get?_push_of_some _ (Heap.get?_push_size _ rfl))))
  have g1 : (z3d s.heap l1 l2 l3).get? s.heap.objs.size = some _ := Heap.get?_push_of_some _ (Heap.get?_push_of_some _ (Heap.get?_push_of_some _ (Heap.get?_push_of_some _ (Heap.get?_push_of_some _ (Heap.get?_push_size _ rfl)))))
  have q1 : @LT.lt Nat _ l1 s.heap.objs.size := isList_lt hl1
  have q2 : @LT.lt Nat _ l2 s.heap.objs.size := isList_lt hl2
  have q3 : @LT.lt Nat _ l3 s.heap.objs.size := isList_lt hl3
  refine ⟨⟨_, g6, rfl⟩, h _ _ _ _ _ _ _ g6 g4 g5 ⟨_, g1, rfl, rfl⟩ ⟨_, g2, rfl, rfl⟩ ⟨_, g3, rfl, rfl⟩ ?_ ?_ fun c o x =>
    Heap.get?_push_of_some _ (Heap.get?_push_of_some _ (Heap.get?_push_of_some _ (Heap.get?_push_of_some _ (Heap.get?_push_of_some _ (Heap.get?_push_of_some _ x)))))⟩
  · generalize (z3c s.heap l1 l2 l3).objs.size = a5 at *
    generalize (z3b s.heap l1 l2 l3).objs.size = a4 at *
    generalize (z3a s.heap l1 l2 l3).objs.size = a3 at *
    generalize ((s.heap.push (li l1)).push (li l2)).objs.size = a2 at *
    generalize (s.heap.push (li l1)).objs.size = a1 at *
    generalize s.heap.objs.size = a0 at *
    subst y1 y2 y3 y4 y5
    clear g1 g2 g3 g4 g5 g6 h
    constructor <;> (show @Ne Nat _ _; omega)
  · intro b hb
    simp only [List.mem_cons, List.not_mem_nil, or_false] at hb
    rcases hb with hb | hb | hb | hb | hb | hb <;> rw [hb] <;> refine Heap.get?_none_of_le ?_
    · rw [y5]; exact Nat.le_add_right _ _
    · rw [y3]; exact Nat.le_add_right _ _
    · rw [y4]; exact Nat.le_add_right _ _
    · exact Nat.le_refl _
    · rw [y1]; exact Nat.le_add_right _ _
    · rw [y2]; exact Nat.le_add_right _ _
end
end Mine
end
section
namespace Mine

section
variable {prog : Program} {w : World} {base : Heap} {A : Around} {fl : List Env} {hid : List Addr} {s : Shared} {E : Value → Shared → Prop}

inductive Z3 (h : Heap) (ρ : PH) (z TI TO i1 i2 i3 l1 l2 l3 : Addr) (xs ys zs : Array Value) (l : List D) : Prop
  | mk (i : Nat) (a b c : Value) (la lb lc : List D) (hz : IsZip h z TI TO .none) (hTI : IsTri h TI (.ref i1) (.ref i2) (.ref i3)) (hTO : IsTri h TO a b c)
    (r1 : ZRow h ρ i1 l1 xs i la) (r2 : ZRow h ρ i2 l2 ys i lb) (r3 : ZRow h ρ i3 l3 zs i lc) (m1 : la.length = lb.length) (m2 : lb.length = lc.length) (e : l = Mine.zip3 la lb lc)

theorem Itr.zip3 (hh : A.handled = none) (z TI TO i1 i2 i3 l1 l2 l3 : Addr) (xs ys zs : Array Value) (Ap : Ap3 z TI TO i1 i2 i3 l1 l2 l3) : Itr prog w A hid true z [z, TI, TO, i1, i2, i3]
    (fun l h => Z3 h (Vw h ([z, TI, TO, i1, i2, i3] ++ hid)) z TI TO i1 i2 i3 l1 l2 l3 xs ys zs l) := by
  constructor
  · intro l h h' st k v
    cases st with
    | mk i a b c la lb lc hz hTI hTO r1 r2 r3 m1 m2 e =>
    have K := fun b hb o => k b o hb
    have k1 := List.forall_mem_cons.mp K
    have k2 := List.forall_mem_cons.mp k1.2
    have k3 := List.forall_mem_cons.mp k2.2
    have k4 := List.forall_mem_cons.mp k3.2
    have k5 := List.forall_mem_cons.mp k4.2
    exact ⟨i, a, b, c, la, lb, lc, k1.1 _ hz, k2.1 _ hTI, k3.1 _ hTO, r1.mono k4.1 v, r2.mono k5.1 v, r3.mono (List.forall_mem_cons.mp k5.2).1 v, m1, m2, e⟩
  · intro target d l s Q E ht st hlive hQ
    cases st with
    | mk i a b c la lb lc hz hTI hTO r1 r2 r3 m1 m2 e =>
    cases la with
    | nil => cases e
    | cons x la =>
    cases lb with
    | nil => cases m1
    | cons y lb =>
    cases lc with
    | nil => cases m2
    | cons u lc =>
    refine el_AT (List.cons.inj e) fun e1 e2 => ?_
    subst e1
    subst e2
    refine el_EAAT r1.some fun v1 e1 x1 y1 => ?_
    refine el_EAAT r2.some fun v2 e2 x2 y2 => ?_
    refine el_EAAT r3.some fun v3 e3 x3 y3 => ?_
    refine el_EEET (isTup_t (ht rfl)) fun elts kk pos e => ?_
    subst e
    have hT : s.TypeIs (.ref z) "zip" := ⟨_, hz, rfl⟩
    unfold pyNext
    refine wpAny_bind (wpAny_attempt (wpAny_callSpecial?_slot (name := Str.ofString "__next__") hT F.slot_zip_next (wpAny_call_entry F.slot_zip_next hT F.entry_zip_next
      (zip3_next_item Ap hz hTI hTO r1.1 r2.1 r3.1 r1.isList r2.isList r3.isList e1 e2 e3 fun h' a1 a2 a3 a4 a5 a6 hk => wpAny_pure ⟨_, rfl, ?_⟩) (F.args_zip_next_1 _))))
    refine wpAny_letOwnedTupleGo_zip a1 fun h'' hz' hs' => ?_
    have k : ∀ b o, b ∉ [z, TI, TO, i1, i2, i3] → s.heap.get? b = some o → h''.get? b = some o := fun b o hb e => by
      have n1 := nin_c hb
      have n3 := nin_c (nin_c n1.2).2
      have n4 := nin_c n3.2
      have n5 := nin_c n4.2
      exact hs'.extBut b o n1.1 (hk b o n1.1 n3.1 n4.1 n5.1 (nin_c n5.2).1 e)
    have le := le_wr (hid := hid) k
    refine hQ _ h'' s.toks ?_ ⟨i + 1, _, _, _, la, lb, lc, hz', hs'.extBut _ _ Ap.TIz (hk _ _ Ap.TIz Ap.TITO Ap.TIi1 Ap.TIi2 Ap.TIi3 hTI), hs'.extBut _ _ Ap.TOz a2, y1 _ _ (a3.extBut hs'.extBut Ap.i1z) le, y2 _ _ (a4.extBut hs'.extBut Ap.i2z) le, y3 _ _ (a5.extBut hs'.extBut Ap.i3z) le, Nat.succ.inj m1, Nat.succ.inj m2, rfl⟩ k
    refine rep_tuple.mpr ⟨_, _, #[v1, v2, v3], 0, rfl, Vw.mk (hs'.extBut _ _ (size_ne ⟨_, hz⟩) a6) ?_, ⟨rfl, rfl⟩, rfl, reps_cons' (x1.mono le) (reps_cons' (x2.mono le) (reps_cons' (x3.mono le) reps_nil'))⟩
    exact out_c (size_ne ⟨_, hz⟩) (out_c (size_ne ⟨_, hTI⟩) (out_c (size_ne ⟨_, hTO⟩) (out_c (size_ne r1.live) (out_c (size_ne r2.live) (out_c (size_ne r3.live) fun q => size_ne (hlive _ q) rfl)))))
  · intro s Q E st hQ
    cases st with
    | mk i a b c la lb lc hz hTI hTO r1 r2 r3 m1 m2 e =>
    have hend : xs[i]? = none := by
      cases la with
      | nil => exact r1.end
      | cons x la =>
        cases lb with
        | nil => cases m1
        | cons y lb =>
          cases lc with
          | nil => cases m2
          | cons u lc => cases e
    have hT : s.TypeIs (.ref z) "zip" := ⟨_, hz, rfl⟩
    unfold pyNext
    refine wpAny_bind (wpAny_attempt (wpAny_callSpecial?_slot (name := Str.ofString "__next__") hT F.slot_zip_next
      (wpAny_call_entry F.slot_zip_next hT F.entry_zip_next (zip3_next_end hh Ap hz hTI r1.1 r1.isList hend fun h' e hk he => ?_) (F.args_zip_next_1 _))))
    obtain ⟨o, ho, hc⟩ := he
    refine wpAny_bind (wpAny_isInstance (T := "StopIteration") (b := true) ⟨o, ho, hc⟩ isSubtype_stop ?_)
    exact wpAny_pure (hQ _ s.toks fun b o hb e => by
      have n1 := nin_c hb
      exact hk b o n1.1 (nin_c (nin_c (nin_c n1.2).2).2).1 e)
  · intro l s Q E st hQ
    cases st with
    | mk i a b c la lb lc hz hTI hTO r1 r2 r3 m1 m2 e => exact wpAny_pyIter_zip hz hQ
  · intro l h st
    cases st with
    | mk i a b c la lb lc hz hTI hTO r1 r2 r3 m1 m2 e => exact all_c ⟨_, hz⟩ (all_c ⟨_, hTI⟩ (all_c ⟨_, hTO⟩ (all_c r1.live (all_c r2.live (all_c r3.live all_n)))))
end

section
variable {g : G} {prog : Program} {w : World} {base : Heap} {A : Around} {fl : List Env} {hid : List Addr} {env : Env} {sc : Scope} {σ : Vs} {n : Nat} {s : Shared} {F : Fns}

theorem zip2_made (c : Cx base A fl hid s.heap) {a b : List D} {va vb : Value} (ra : Rep (Vw s.heap hid) (.list a) va) (rb : Rep (Vw s.heap hid) (.list b) vb) {Q E : Value → Shared → Prop}
    (k : ∀ h' z wr, Gr (faOf fl) [] s.heap h' → Hands prog w A hid true z wr (zip2 a b) h' → (∀ b ∈ wr, s.heap.get? b = none) → Q (.ref z) { s with heap := h' }) :
    wpAny (model prog w) A (call (.type "zip") [va, vb]) Q E s := by
  obtain ⟨l1, xs, rfl, n1, L1, r1⟩ := rep_isList ra
  obtain ⟨l2, ys, rfl, n2, L2, r2⟩ := rep_isList rb
  have q1 : @LT.lt Nat _ l1 s.heap.objs.size := isList_lt L1
  have q2 : @LT.lt Nat _ l2 s.heap.objs.size := isList_lt L2
  refine call_zip_2 L1 L2 fun h' hz hTI hTO h1 h2 hsz hk => ?_
  have g' : Gr (faOf fl) [] s.heap h' := Gr.keeps0 hk
  have fresh : ∀ b ∈ [s.heap.objs.size + 4, s.heap.objs.size + 2, s.heap.objs.size + 3, s.heap.objs.size, s.heap.objs.size + 1], s.heap.get? b = none := fun b hb => by
    simp only [List.mem_cons, List.not_mem_nil, or_false] at hb
    rcases hb with hb | hb | hb | hb | hb <;> rw [hb] <;> exact Heap.get?_none_of_le (by first | exact Nat.le_add_right _ _ | exact Nat.le_refl _)
  refine k h' _ _ g' (fun ex hex => ?_) fresh
  have le := le_new (ex := ex) g' c.fhid fresh hex
  refine ⟨_, Itr.zip2 c.hd (s.heap.objs.size + 4) (s.heap.objs.size + 2) (s.heap.objs.size + 3) s.heap.objs.size (s.heap.objs.size + 1) l1 l2 xs ys ?_, ⟨0, _, _, a, b, hz, hTI, hTO, .made h1 L1 n1 r1 le, .made h2 L2 n2 r2 le, rfl⟩⟩
  constructor <;> (show @Ne Nat _ _; omega)

theorem zip3_made (c : Cx base A fl hid s.heap) {a b d : List D} {va vb vd : Value} (ra : Rep (Vw s.heap hid) (.list a) va) (rb : Rep (Vw s.heap hid) (.list b) vb) (rd : Rep (Vw s.heap hid) (.list d) vd) (m1 : a.length = b.length) (m2 : b.length = d.length) {Q E : Value → Shared → Prop}
    (k : ∀ h' z wr, Gr (faOf fl) [] s.heap h' → Hands prog w A hid true z wr (zip3 a b d) h' → (∀ b ∈ wr, s.heap.get? b = none) → Q (.ref z) { s with heap := h' }) :
    wpAny (model prog w) A (call (.type "zip") [va, vb, vd]) Q E s := by
  obtain ⟨l1, xs, rfl, n1, L1, r1⟩ := rep_isList ra
  obtain ⟨l2, ys, rfl, n2, L2, r2⟩ := rep_isList rb
  obtain ⟨l3, zs, rfl, n3, L3, r3⟩ := rep_isList rd
  refine call_zip_3 L1 L2 L3 fun h' z TI TO i1 i2 i3 hz hTI hTO h1 h2 h3 Ap fresh hk => ?_
  have g' : Gr (faOf fl) [] s.heap h' := Gr.keeps0 hk
  refine k h' _ _ g' (fun ex hex => ?_) fresh
  have le := le_new (ex := ex) g' c.fhid fresh hex
  exact ⟨_, Itr.zip3 c.hd z TI TO i1 i2 i3 l1 l2 l3 xs ys zs Ap, ⟨0, _, _, _, a, b, d, hz, hTI, hTO, .made h1 L1 n1 r1 le, .made h2 L2 n2 r2 le, .made h3 L3 n3 r3 le, m1, m2, rfl⟩⟩

theorem list_s {ρ : PH} {d : D} {v : Value} {l : List D} (r : Rep ρ d v) (h : d.list? = some l) : Rep ρ (.list l) v := by rw [← D.list?_s h]; exact r
theorem listL_s {ρ : PH} : ∀ {vs : List D} {l : List (List D)} {ws : List Value}, Reps ρ vs ws → listL vs = some l → Reps ρ (l.map .list) ws
  | [], l, ws, r, h => by cases h; exact r
  | d :: vs, l, ws, r, h => by
    refine el_EEAAT (reps_cons.mp r) fun v t e q1 q2 => ?_
    refine bind_some h fun a ha h => map_some h fun b hb h => ?_
    rw [← h, e]
    exact reps_cons' (list_s q1 ha) (listL_s q2 hb)

theorem zip_does (c : Cx base A fl hid s.heap) {vs : List D} {ws : List Value} (r : Reps (Vw s.heap hid) vs ws) {l : Bool × List D} (hl : zipD vs = some l) {Q E : Value → Shared → Prop}
    (k : ∀ v h' tk, Gr (faOf fl) [] s.heap h' → PI prog w A hid s.heap l v h' → Q v { s with heap := h', toks := tk }) :
    wpAny (model prog w) A (call (.type "zip") ws) (fun v s₁ => wpAny (model prog w) A (pyIter v) Q E s₁) E s := by
  have go : ∀ {h' z wr} {p : List D}, l = (true, p) → Gr (faOf fl) [] s.heap h' → Hands prog w A hid true z wr p h' → (∀ b ∈ wr, s.heap.get? b = none) → wpAny (model prog w) A (pyIter (.ref z)) Q E { s with heap := h' } := fun e g' hd fr => by
    refine el_EAT (hd [] (by simp)) fun St it st => ?_
    subst e
    exact it.self _ _ _ _ st (k _ _ s.toks g' ⟨_, _, rfl, hd, fr⟩)
  refine bind_some hl fun ls hls hl => ?_
  have r := listL_s r hls
  cases h2 : two? ls with
  | some p =>
    rw [h2] at hl
    cases hl
    rw [two?_s (a := p.1) (b := p.2) h2] at r
    refine el_EEAAT (reps_cons.mp r) fun v t e q1 q2 => ?_
    refine el_EEAAT (reps_cons.mp q2) fun v' t' e' q1' q2' => ?_
    rw [e, e', reps_nil.mp q2']
    exact zip2_made c q1 q1' fun h' z wr g' hd fr => go rfl g' hd fr
  | none =>
    rw [h2] at hl
    refine bind_some hl fun q hq hl => ?_
    refine el_AT (ite_some hl) fun hm hl => ?_
    cases hl
    rw [three?_s (a := q.1) (b := q.2.1) (c := q.2.2) hq] at r
    refine el_EEAAT (reps_cons.mp r) fun v t e q1 q2 => ?_
    refine el_EEAAT (reps_cons.mp q2) fun v' t' e' q1' q2' => ?_
    refine el_EEAAT (reps_cons.mp q2') fun v'' t'' e'' q1'' q2'' => ?_
    rw [e, e', e'', reps_nil.mp q2'']
    exact zip3_made c q1 q1' q1'' hm.1 hm.2 fun h' z wr g' hd fr => go rfl g' hd fr

theorem zip_it (T : TpN g base) (S : SndE prog w base F n) (H : Here base A fl hid env sc σ n s.heap) (x : Str) (np pos : Pos) (as : List Expr) (hs : as.any starred = false) :
    ItDoes prog w A fl hid s (.Call (.Name x np) as [] pos) env ((nameD g sc σ x).bind fun f => if f.isTy "zip" then (evs F sc σ as).bind fun vs => R.of (zipD vs) else .bad) := fun Q E fin => by
  refine wpAny_Call_ofName ((name_does T H x np).use fin fun d v h₁ tk₁ _ g₁ r₁ f₁ => ?_)
  have H₁ := H.grow g₁
  refine FinT.ite f₁ fun hd f₁ => ?_
  rw [D.isTy_t hd] at r₁
  refine r₁.type (callWith_of (P := fun _ => True) (by rw [(star_plain pos as hs).1]; rfl) (fun _ _ => keep_type) ?_)
  refine (args0_snd S (s := { s with heap := h₁, toks := tk₁ }) H₁ _ as pos hs).use f₁ fun vs a h₂ tk₂ _ g₂ r₂ f₂ => ⟨trivial, ?_⟩
  rw [r₂.2]
  refine f₂.ofI' fun l hl f₂ => ?_
  exact zip_does (s := { s with heap := h₂, toks := tk₂ }) (H₁.grow g₂).cx r₂.1 hl fun v h' tk g' p => f₂ v h' tk g' ((p.old g₂).old g₁)

theorem it_snd (T : TpN g base) (S : SndE prog w base F n) (H : Here base A fl hid env sc σ n s.heap) (e : Expr) : ItDoes prog w A fl hid s e env (itS g F sc σ e) := by
  cases e with
  | Call f as ks pos => cases f with
    | Name x np => cases ks with
      | nil =>
        intro Q E fin
        refine FinT.itn (show FinT fl s (callI g F sc σ x as _) _ Q E from fin) fun hs f => ?_
        have hs := Bool.eq_false_iff.mpr hs
        by_cases h1 : (x == "range") = true
        · rw [if_pos h1] at f; exact range_it T S H _ _ _ _ hs Q E f
        · rw [if_neg h1] at f
          by_cases h2 : (x == "zip") = true
          · rw [if_pos h2] at f; exact zip_it T S H _ _ _ _ hs Q E f
          · rw [if_neg h2] at f; exact val_it S H _ Q E f
      | cons k ks => exact val_it S H _
    | _ => exact val_it S H _
  | _ => exact val_it S H _
end
end Mine
end
section
namespace Mine

structure Stored (fa : List Addr) (a : Addr) (env : Env) (x : Str) (v : Value) (h h' : Heap) : Prop where
  gr : Gr fa [a] h h'
  var : Var h' env x v
  keep : ∀ y u, y ≠ x → Var h env y u → Var h' env y u
  ns : ∃ m, h'.Ns env.locals m

section
variable {prog : Program} {w : World} {A : Around} {s : Shared} {E : Value → Shared → Prop} {env : Env} {fa : List Addr}

theorem store_local {x : Str} {v : Value} {Q : Unit → Shared → Prop} (hk : env.scope.kind = .function) (hl : env.kindOf x = some .local) (hn : ∃ m, s.heap.Ns env.locals m) (hc : ∀ y c, env.cells.lookup y = some c → c ≠ env.locals)
    (k : ∀ h' tk, Stored fa env.locals env x v s.heap h' → Q () { s with heap := h', toks := tk }) : wpAny (model prog w) A (storeName env x v) Q E s := by
  refine el_ET (hn) fun m hn => ?_
  refine wpAny_storeName_local hl hn (fun h' hn' hs' => k h' _ ⟨Gr.sameBut hs', .inl ⟨hl, _, hn', by simp⟩, fun y u hy hv => ?_, _, hn'⟩) (by rw [hk]; rfl)
  rcases hv with ⟨k1, m', hm', e⟩ | ⟨k1, c, hl', hv⟩ | ⟨k1, q, c, hl', hv⟩
  · refine .inl ⟨k1, _, hn', ?_⟩
    have : m = m' := by rw [hn.eq_nsMap, hm'.eq_nsMap]
    subst this
    simp only [if_neg hy, e]
  · refine .inr (.inl ⟨k1, c, hl', ?_⟩)
    refine el_EAT (hv) fun o ho hd => ?_
    exact ⟨o, hs'.extBut c o (hc y c hl') ho, hd⟩
  · refine .inr (.inr ⟨k1, q, c, hl', ?_⟩)
    refine el_EAT (hv) fun o ho hd => ?_
    exact ⟨o, hs'.extBut c o (hc y c hl') ho, hd⟩

theorem store_cell {x : Str} {v : Value} {c : Addr} {Q : Unit → Shared → Prop} (hk : env.scope.kind = .function) (hl : env.kindOf x = some .cell) (hx : env.cells.lookup x = some c) (hv : ∃ v₀, s.heap.IsCell c v₀) (hn : ∃ m, s.heap.Ns env.locals m)
    (hc : ∀ y c, env.cells.lookup y = some c → c ≠ env.locals) (hi : ∀ y, env.cells.lookup y = some c → y = x)
    (k : ∀ h' tk, Stored fa c env x v s.heap h' → Q () { s with heap := h', toks := tk }) : wpAny (model prog w) A (storeName env x v) Q E s := by
  refine el_ET (hv) fun v₀ hv => ?_
  refine wpAny_storeName_cell hk hl hx hv fun h' hc' hs' => k h' s.toks ⟨Gr.sameBut hs', .inr (.inl ⟨hl, c, hx, hc'⟩), fun y u hy hw => ?_, ?_⟩
  · rcases hw with ⟨k1, m', hm', e⟩ | ⟨k1, c', hl', hw⟩ | ⟨k1, q, c', hl', hw⟩
    · exact .inl ⟨k1, m', hm'.sameBut hs' (fun q => hc x c hx q.symm), e⟩
    · refine .inr (.inl ⟨k1, c', hl', ?_⟩)
      refine el_EAT (hw) fun o ho hd => ?_
      exact ⟨o, hs'.extBut c' o (fun q => hy (hi y (q ▸ hl'))) ho, hd⟩
    · refine .inr (.inr ⟨k1, q, c', hl', ?_⟩)
      refine el_EAT (hw) fun o ho hd => ?_
      exact ⟨o, hs'.extBut c' o (fun q => hy (hi y (q ▸ hl'))) ho, hd⟩
  · refine el_ET (hn) fun m hn => ?_
    exact ⟨m, hn.sameBut hs' (fun q => hc x c hx q.symm)⟩
end
end Mine
end
section
namespace Mine

section
variable {prog : Program} {w : World} {A : Around} {R : Result → Shared → Prop} {s : Shared}

theorem comp_loop {elt target iter : Expr} {ifs : List Expr} {scope : Scope} {pos : Pos} {it acc : Value} {env : Env} (I : Nat → Shared → Prop)
    (turn : ∀ n s, I n s → wpAny (model prog w) A (pyNext it) (fun r s₁ => match r with
      | none => R (.ok .next) s₁
      | some v => wpAny (model prog w) A (letOwnedTupleGo target it v) (fun _ s₁' => wpAny (model prog w) A (assign target env v) (fun _ s₂ =>
          wpAny (model prog w) A (forIn ifs true fun c r => if r = true then do let ok ← isTrue c env (eval c env); pure (ForInStep.yield ok) else pure (ForInStep.yield r)) (fun ok s₃ =>
            if ok = true then wpAny (model prog w) A (eval elt env) (fun x s₄ =>
              wpAny (model prog w) A (call (.builtin "list.append") [acc, x]) (fun _ s₅ => ∃ m, m < n ∧ I m s₅) (fun _ _ => False) s₄) (fun _ _ => False) s₃
            else ∃ m, m < n ∧ I m s₃) (fun _ _ => False) s₂) (fun _ _ => False) s₁') (fun _ _ => False) s₁) (fun _ _ => False) s)
    (n : Nat) (h : I n s) : codeAny (model prog w) A (.compLoop (.ListComp elt [⟨target, iter, ifs, 0⟩] scope pos) 0 it acc env) R s := by
  refine codeAny_loop rfl I (fun n s hI => ?_) n h
  show wpAny _ A ((compTurn (.ListComp elt [⟨target, iter, ifs, 0⟩] scope pos) 0 it acc env).onRaise (fun x => do noteFrame x env; theTreesLotGoes x)) _ _ s
  refine wpAny_noted ?_
  rw [compTurn_list]
  refine wpAny_bind (wpAny_standAt (wpAny_bind (wpAny_mono (turn n s hI) (fun r s₁ h₁ => ?_) fun _ _ h' => h'.elim)))
  cases r with
  | none => exact wpAny_pure h₁
  | some v =>
    refine wpAny_bind (wpAny_mono h₁ (fun _ s₁' h₁' => ?_) fun _ _ h' => h'.elim)
    refine wpAny_bind (wpAny_mono h₁' (fun _ s₂ h₂ => wpAny_bind (wpAny_mono h₂ (fun ok s₃ h₃ => ?_) fun _ _ h' => h'.elim)) fun _ _ h' => h'.elim)
    cases ok with
    | false => exact wpAny_pure ⟨rfl, h₃⟩
    | true =>
      exact wpAny_bind (wpAny_bind (wpAny_mono h₃ (fun x s₄ h₄ => wpAny_bind (wpAny_mono h₄ (fun _ s₅ h₅ => wpAny_pure (wpAny_pure ⟨rfl, h₅⟩)) fun _ _ h' => h'.elim)) fun _ _ h' => h'.elim))
end

noncomputable def clOf (env : Env) : List (Str × NameKind) → List (Str × Addr) → List (Str × Addr)
  | [], cs => cs
  | (x, k) :: r, cs => if k == .free then clOf env r ((x, (env.cells.lookup x).getD 0) :: cs) else clOf env r cs

theorem closure_eq {env : Env} {csc : Scope} (h : ∀ p ∈ csc.names, (p.2 == NameKind.free) = true → ∃ c, env.cells.lookup p.1 = some c) : closureFor csc env = pure (clOf env csc.names []) := by
  have key : ∀ (l : List (Str × NameKind)) (cs : List (Str × Addr)), (∀ p ∈ l, (p.2 == NameKind.free) = true → ∃ c, env.cells.lookup p.1 = some c) →
      (forIn l cs (fun (x : Str × NameKind) (cs : List (Str × Addr)) => if (x.2 == NameKind.free) = true then (do let c ← cellOf env x.1; pure (ForInStep.yield ((x.1, c) :: cs))) else pure (ForInStep.yield cs)) : Sem (List (Str × Addr))) = pure (clOf env l cs) := by
    intro l
    induction l with
    | nil => intro cs _; rfl
    | cons p l ih =>
      intro cs hp
      obtain ⟨x, k⟩ := p
      rw [List.forIn_cons]
      cases hk : (k == NameKind.free) with
      | true =>
        refine el_ET (hp (x, k) (by simp) hk) fun c hc => ?_
        have e1 : cellOf env x = pure c := by unfold cellOf; rw [show env.cells.lookup x = some c from hc]
        simp only [hk, if_true, e1, pure_bind]
        rw [ih _ fun p hp' => hp p (by simp [hp'])]
        show _ = pure (if (k == NameKind.free) = true then _ else _)
        rw [if_pos hk, show env.cells.lookup x = some c from hc]
        rfl
      | false =>
        simp only [hk, Bool.false_eq_true, if_false, pure_bind]
        rw [ih _ fun p hp' => hp p (by simp [hp'])]
        show _ = pure (if (k == NameKind.free) = true then _ else _)
        rw [if_neg (by rw [hk]; decide)]
  unfold closureFor
  have := key csc.names [] h
  first | exact this | (simp only [bind_pure]; exact this) | (rw [show _ = _ from this]; rfl)
end Mine
end
section
namespace Mine

structure SO (env : Env) (loc : List Addr) (h : Heap) : Prop where
  kind : env.scope.kind = .function
  ns : ∃ m, h.Ns env.locals m
  lin : env.locals ∈ loc
  cne : ∀ y c, env.cells.lookup y = some c → c ≠ env.locals
  cell : ∀ y c, env.cells.lookup y = some c → c ∈ loc → ∃ v, h.IsCell c v

noncomputable def StOf (env : Env) (loc : List Addr) (x : Str) : Prop :=
  env.kindOf x = some .local ∨ (env.kindOf x = some .cell ∧ ∃ c, env.cells.lookup x = some c ∧ c ∈ loc ∧ ∀ y, env.cells.lookup y = some c → y = x)

structure Bound (fa loc : List Addr) (env : Env) (bs : List (Str × Value)) (h h' : Heap) : Prop where
  gr : Gr fa loc h h'
  var : ∀ y v, bs.reverse.lookup y = some v → Var h' env y v
  keep : ∀ y u, bs.lookup y = none → Var h env y u → Var h' env y u
  so : SO env loc h'

theorem Bound.nil {fa loc : List Addr} {env : Env} {h h' : Heap} (so : SO env loc h) (g : Gr fa [] h h') : Bound fa loc env [] h h' := by
  refine ⟨g.mono (by simp), by simp, fun y u _ hv => hv.grow0 g, so.kind, ?_, so.lin, so.cne, fun y c hc hl => ?_⟩
  · obtain ⟨m, hn⟩ := so.ns; exact ⟨m, g.ns (by simp) hn⟩
  · obtain ⟨v, hv⟩ := so.cell y c hc hl; exact ⟨v, g.cell (by simp) hv⟩

theorem lookup_snoc {α : Type} {l : List (Str × α)} {x y : Str} {v : α} : (l ++ [(x, v)]).lookup y = (l.lookup y).or (if y = x then some v else none) := by
  induction l with
  | nil =>
    by_cases h : y = x
    · subst h; simp [List.lookup]
    · have : (y == x) = false := by simpa using h
      simp [List.lookup, this, h]
  | cons p l ih =>
    obtain ⟨z, u⟩ := p
    rw [List.cons_append, List.lookup_cons, List.lookup_cons]
    cases y == z <;> simp [ih]

theorem lookup_rev_none {α : Type} {y : Str} : ∀ {l : List (Str × α)}, l.lookup y = none → l.reverse.lookup y = none
  | [], _ => rfl
  | (z, u) :: l, h => by
    rw [List.lookup_cons] at h
    rw [List.reverse_cons, lookup_snoc]
    cases hz : y == z with
    | true => rw [hz] at h; cases h
    | false =>
      rw [hz] at h
      have : y ≠ z := by simpa using hz
      rw [lookup_rev_none h, if_neg this]; rfl

section
variable {prog : Program} {w : World} {A : Around} {s : Shared} {E : Value → Shared → Prop} {env : Env} {fa loc : List Addr}

theorem store_more {x : Str} {v : Value} {bs : List (Str × Value)} {h₀ : Heap} {Q : Unit → Shared → Prop} (B : Bound fa loc env bs h₀ s.heap) (st : StOf env loc x)
    (k : ∀ h' tk, Bound fa loc env (bs ++ [(x, v)]) h₀ h' → Q () { s with heap := h', toks := tk }) : wpAny (model prog w) A (storeName env x v) Q E s := by
  have so := B.so
  have fin : ∀ (a : Addr) (h' : Heap), a ∈ loc → Stored fa a env x v s.heap h' → (∀ y c, env.cells.lookup y = some c → c ∈ loc → ∃ v, h'.IsCell c v) → Bound fa loc env (bs ++ [(x, v)]) h₀ h' := fun a h' ha S hc => by
    refine ⟨B.gr.trans (S.gr.mono (by simpa using ha)), fun y u e => ?_, fun y u e hv => ?_, so.kind, S.ns, so.lin, so.cne, hc⟩
    · rw [List.reverse_append, List.reverse_singleton, List.singleton_append, List.lookup_cons] at e
      cases hy : y == x with
      | true => rw [hy] at e; cases e; rw [eq_of_beq hy]; exact S.var
      | false =>
        rw [hy] at e
        exact S.keep y u (by simpa using hy) (B.var y u e)
    · rw [lookup_snoc] at e
      have e1 : bs.lookup y = none := by
        cases h : bs.lookup y with
        | none => rfl
        | some u => rw [h] at e; cases e
      rw [e1] at e
      have hy : y ≠ x := fun q => by rw [if_pos q] at e; cases e
      exact S.keep y u hy (B.keep y u e1 hv)
  rcases st with hl | ⟨hl, c, hx, hc, hi⟩
  · refine store_local (fa := fa) so.kind hl so.ns so.cne fun h' tk S => k h' tk (fin _ h' so.lin S fun y c hy hcl => ?_)
    refine el_ET (so.cell y c hy hcl) fun u hu => ?_
    exact ⟨u, S.gr.cell (by simpa using so.cne y c hy) hu⟩
  · refine store_cell (fa := fa) so.kind hl hx (so.cell x c hx hc) so.ns so.cne hi fun h' tk S => k h' tk (fin _ h' hc S fun y c' hy hcl => ?_)
    by_cases q : c' = c
    · subst q
      have : y = x := hi y hy
      subst this
      rcases S.var with ⟨k1, _⟩ | ⟨k1, c'', e, hv⟩ | ⟨k1, _⟩
      · rw [hl] at k1; cases k1
      · rw [hx] at e; cases e; exact ⟨_, hv⟩
      · rw [hl] at k1; cases k1
    · refine el_ET (so.cell y c' hy hcl) fun u hu => ?_
      exact ⟨u, S.gr.cell (by simpa using q) hu⟩

theorem assign_name {x : Str} {p : Pos} {v : Value} {Q : Unit → Shared → Prop} (so : SO env loc s.heap) (st : StOf env loc x)
    (k : ∀ h' tk, Bound fa loc env [(x, v)] s.heap h' → Q () { s with heap := h', toks := tk }) : wpAny (model prog w) A (assign (.Name x p) env v) Q E s :=
  wpAny_assign_Name (store_more (bs := []) (Bound.nil so (Gr.refl _ _ _)) st k)

theorem assign_pair {x y : Str} {p q pos : Pos} {kk : Nat} {t : Addr} {v u : Value} {Q : Unit → Shared → Prop} (hh : A.handled = none) (ht : s.heap.IsTuple t #[v, u]) (so : SO env loc s.heap) (sx : StOf env loc x) (sy : StOf env loc y)
    (k : ∀ h' tk, Bound fa loc env [(x, v), (y, u)] s.heap h' → Q () { s with heap := h', toks := tk }) : wpAny (model prog w) A (assign (.Tuple [.Name x p, .Name y q] kk pos) env (.ref t)) Q E s := by
  refine wpAny_assign_Tuple hh ht rfl rfl fun h' he => ?_
  have g : Gr fa [] s.heap h' := Gr.keeps0 fun b o e => he b o (Nat.ne_of_lt (Heap.lt_size e)) e
  refine assignInOrder_cons (wpAny_assign_Name (store_more (s := { s with heap := h' }) (bs := []) (Bound.nil so g) sx fun h₁ tk₁ B₁ => ?_))
  refine assignInOrder_cons (wpAny_assign_Name (store_more (s := { s with heap := h₁, toks := tk₁ }) B₁ sy fun h₂ tk₂ B₂ => ?_))
  exact assignInOrder_nil (k h₂ tk₂ B₂)

end
end Mine
end
section
namespace Mine

theorem Gr.alive' {fa W : List Addr} {h h' : Heap} (x : Gr fa W h h') (lw : ∀ b ∈ W, (∃ o, h.get? b = some o) → ∃ o, h'.get? b = some o) {b : Addr} (e : ∃ o, h.get? b = some o) : ∃ o, h'.get? b = some o := by
  by_cases q : b ∈ W
  · exact lw b q e
  · exact x.alive q e

theorem Cx.growW {base : Heap} {A : Around} {fl : List Env} {hid W : List Addr} {h h' : Heap} (c : Cx base A fl hid h) (x : Gr (faOf fl) W h h') (hW : ∀ a ∈ W, a ∈ hid) (hf : ∀ a ∈ faOf fl, a ∉ W) (lw : ∀ b ∈ W, ∃ o, h'.get? b = some o) : Cx base A fl hid h' where
  fr := c.fr
  hd := c.hd
  ff := x.funFrames c.ff hf
  stays := x.stays c.stays (fun a ha => c.nob a (hW a ha)) fun a ha => c.nob a (c.fhid a ha)
  fhid := c.fhid
  live := fun a ha => x.alive' (fun b hb _ => lw b hb) (c.live a ha)
  nob := c.nob
theorem Cx.viewW {base : Heap} {A : Around} {fl : List Env} {hid W : List Addr} {h h' : Heap} (c : Cx base A fl hid h) (x : Gr (faOf fl) W h h') (hW : ∀ a ∈ W, a ∈ hid) : PH.le (Vw h hid) (Vw h' hid) := Vw.grow x hW c.fhid

theorem Cx.more {base : Heap} {A : Around} {fl : List Env} {hid ex : List Addr} {h : Heap} (c : Cx base A fl hid h) (l : ∀ a ∈ ex, ∃ o, h.get? a = some o) (nb : ∀ a ∈ ex, base.get? a = none) : Cx base A fl (ex ++ hid) h where
  fr := c.fr
  hd := c.hd
  ff := c.ff
  stays := c.stays
  fhid := fun a ha => List.mem_append_right _ (c.fhid a ha)
  live := fun a ha => by
    rcases List.mem_append.mp ha with q | q
    · exact l a q
    · exact c.live a q
  nob := fun a ha => by
    rcases List.mem_append.mp ha with q | q
    · exact nb a q
    · exact c.nob a q
theorem Cx.new {base : Heap} {A : Around} {fl : List Env} {hid : List Addr} {h : Heap} (c : Cx base A fl hid h) {a : Addr} (e : h.get? a = none) : base.get? a = none := by
  cases x : base.get? a with
  | none => rfl
  | some o => rw [c.stays a o x] at e; cases e

section
variable {env : Env}
theorem relabel_glob : ∀ {names : List (Str × NameKind)} {x : Str} {k : NameKind}, k ≠ .free → names.lookup x = some k →
    (names.map fun (n, k) => if (k == NameKind.free && env.scope.kind == .function && env.kindOf n == some .cell) then (n, NameKind.cell) else (n, k)).lookup x = some k
  | [], _, _, _, h => by simp at h
  | (n, k) :: r, x, k', hk, h => by
    have ih := @relabel_glob r x k' hk
    show List.lookup x ((if (k == NameKind.free && env.scope.kind == .function && env.kindOf n == some .cell) = true then (n, NameKind.cell) else (n, k)) :: _) = _
    cases hx : x == n with
    | true =>
      simp only [List.lookup_cons, hx] at h
      cases h
      have : (k == NameKind.free) = false := by cases k <;> first | rfl | exact absurd rfl hk
      simp [List.lookup_cons, hx, this]
    | false =>
      simp only [List.lookup_cons, hx] at h
      by_cases hc : (k == NameKind.free && env.scope.kind == .function && env.kindOf n == some .cell) = true
      · rw [if_pos hc]; simp only [List.lookup_cons, hx]; exact ih h
      · rw [if_neg hc]; simp only [List.lookup_cons, hx]; exact ih h
theorem relabel_free (hf : env.scope.kind = .function) : ∀ {names : List (Str × NameKind)} {x : Str}, env.kindOf x = some .cell → names.lookup x = some .free →
    (names.map fun (n, k) => if (k == NameKind.free && env.scope.kind == .function && env.kindOf n == some .cell) then (n, NameKind.cell) else (n, k)).lookup x = some .cell
  | [], _, _, h => by simp at h
  | (n, k) :: r, x, hk, h => by
    have ih := @relabel_free hf r x hk
    show List.lookup x ((if (k == NameKind.free && env.scope.kind == .function && env.kindOf n == some .cell) = true then (n, NameKind.cell) else (n, k)) :: _) = _
    cases hx : x == n with
    | true =>
      simp only [List.lookup_cons, hx] at h
      cases h
      have e := eq_of_beq hx
      subst e
      rw [if_pos (by rw [hf, hk]; rfl)]
      simp [List.lookup_cons]
    | false =>
      simp only [List.lookup_cons, hx] at h
      by_cases hc : (k == NameKind.free && env.scope.kind == .function && env.kindOf n == some .cell) = true
      · rw [if_pos hc]; simp only [List.lookup_cons, hx]; exact ih h
      · rw [if_neg hc]; simp only [List.lookup_cons, hx]; exact ih h

theorem clOf_lookup {x : Str} {c : Addr} (hx : env.cells.lookup x = some c) : ∀ (l : List (Str × NameKind)) (cs : List (Str × Addr)), (cs.lookup x = none ∨ cs.lookup x = some c) →
    ((cs.lookup x = some c ∨ l.lookup x = some .free) → (clOf env l cs).lookup x = some c) ∧ ((clOf env l cs).lookup x = none ∨ (clOf env l cs).lookup x = some c)
  | [], cs, h => ⟨fun q => by rcases q with q | q; exact q; simp at q, h⟩
  | (y, k) :: r, cs, h => by
    unfold clOf
    cases hk : (k == NameKind.free) with
    | true =>
      rw [if_pos rfl]
      cases hy : x == y with
      | true =>
        have e := eq_of_beq hy
        subst e
        have e1 : ((x, (env.cells.lookup x).getD 0) :: cs).lookup x = some c := by rw [List.lookup_cons, beq_self_eq_true, hx]; rfl
        have ih := clOf_lookup hx r _ (.inr e1)
        exact ⟨fun _ => ih.1 (.inl e1), ih.2⟩
      | false =>
        have e1 : ((y, (env.cells.lookup y).getD 0) :: cs).lookup x = cs.lookup x := by rw [List.lookup_cons, hy]
        have ih := clOf_lookup hx r ((y, (env.cells.lookup y).getD 0) :: cs) (by rw [e1]; exact h)
        refine ⟨fun q => ih.1 ?_, ih.2⟩
        rcases q with q | q
        · left; rw [e1]; exact q
        · right; rw [List.lookup_cons, hy] at q; exact q
    | false =>
      rw [if_neg (by decide)]
      have ih := clOf_lookup hx r cs h
      refine ⟨fun q => ih.1 ?_, ih.2⟩
      rcases q with q | q
      · left; exact q
      · right
        rw [List.lookup_cons] at q
        cases hy : x == y with
        | true => rw [hy] at q; cases q; cases hk
        | false => rw [hy] at q; exact q
end

set_option tactic.hygienic true in
theorem capt_lookup {sc : Scope} {σ : Vs} {x : Str} {d : D} (h : (capt sc σ).lookup x = some d) : σ.lookup x = some d ∧ sc.names.lookup x = some .free := by
  unfold capt at h
  induction σ with
  | nil => simp at h
  | cons p σ ih =>
    obtain ⟨y, e⟩ := p
    rw [List.filter_cons] at h
    cases hy : x == y with
    | true =>
      have q := eq_of_beq hy
      subst q
      split at h
      · rename_i hc
        rw [List.lookup_cons, beq_self_eq_true] at h
        cases h
        exact ⟨by rw [List.lookup_cons, beq_self_eq_true], by simpa using hc⟩
      · rename_i hc
        exact absurd (ih h).2 (by simpa using hc)
    | false =>
      split at h
      · rw [List.lookup_cons, hy] at h
        exact ⟨by rw [List.lookup_cons, hy]; exact (ih h).1, (ih h).2⟩
      · exact ⟨by rw [List.lookup_cons, hy]; exact (ih h).1, (ih h).2⟩
end Mine
end
section
namespace Mine

section
variable {g : G} {prog : Program} {w : World} {base : Heap} {A : Around} {fl : List Env} {hid : List Addr} {env : Env} {sc : Scope} {σ : Vs} {n : Nat} {s : Shared} {F : Fns}

theorem tests_false {M : Model} {E : Value → Shared → Prop} {Q : Bool → Shared → Prop} (h : Q false s) : ∀ ifs : List Expr,
    wpAny M A (forIn ifs false fun c r => if r = true then do let ok ← isTrue c env (eval c env); pure (ForInStep.yield ok) else pure (ForInStep.yield r)) Q E s
  | [] => wpAny_pure h
  | c :: ifs => by
    rw [List.forIn_cons]
    exact wpAny_bind (wpAny_pure (tests_false h ifs))

theorem tests_snd (S : SndE prog w base F n) {E : Value → Shared → Prop} {Q : Bool → Shared → Prop} {b : Bool} : ∀ (ifs : List Expr) (s : Shared), Here base A fl hid env sc σ n s.heap → testAll F sc σ ifs = .ok b →
    (∀ h' tk, Gr (faOf fl) [] s.heap h' → Q b { s with heap := h', toks := tk }) →
    wpAny (model prog w) A (forIn ifs true fun c r => if r = true then do let ok ← isTrue c env (eval c env); pure (ForInStep.yield ok) else pure (ForInStep.yield r)) Q E s
  | [], s, H, e, k => by
    cases e
    exact wpAny_pure (k s.heap s.toks (Gr.refl _ _ _))
  | c :: ifs, s, H, e, k => by
    rw [List.forIn_cons]
    rw [testAll_c] at e
    cases hc : F.evT sc σ c with
    | exc c m => rw [hc] at e; cases e
    | bad => rw [hc] at e; cases e
    | ok b' =>
      rw [hc] at e
      refine wpAny_bind (wpAny_bind (S.evT H _ E ?_))
      rw [hc]
      intro v h' tk g' p
      have p' : v = b' := p
      subst p'
      refine wpAny_pure ?_
      simp only [R.bind] at e
      cases v with
      | true => exact tests_snd S ifs _ (H.grow g') e fun h'' tk' g'' => k h'' tk' (g'.trans g'')
      | false =>
        have : false = b := by simpa using e
        subst this
        exact tests_false (k h' tk g') ifs
end

section
variable {g : G} {prog : Program} {w : World} {base : Heap} {A : Around} {fl : List Env} {hid : List Addr} {env : Env} {sc csc : Scope} {σ : Vs} {n : Nat} {s : Shared} {F : Fns}

theorem compOK_kind {t : Expr} (h : compOK sc csc t = true) : csc.kind = .function := by
  unfold compOK at h
  simp only [Bool.and_eq_true] at h
  refine el_AT (h) fun hn0 _ => ?_
  obtain ⟨h1, _⟩ := hn0
  cases hk : csc.kind <;> rw [hk] at h1 <;> first | rfl | cases h1
theorem compOK_name {t : Expr} (h : compOK sc csc t = true) (p : Str × NameKind) (hp : p ∈ csc.names) : p.2 ≠ .cell ∧ (p.2 = .local → csc.names.lookup p.1 = some .local) ∧
    (p.2 = .free → csc.names.lookup p.1 = some .free ∧ sc.names.lookup p.1 = some .cell ∧ (p.1 == ("__classdict__" : Str)) = false) := by
  unfold compOK at h
  simp only [Bool.and_eq_true] at h
  refine el_AT (h) fun hn0 _ => ?_
  obtain ⟨_, h1⟩ := hn0
  have := List.all_eq_true.mp h1 p hp
  obtain ⟨x, k⟩ := p
  cases k <;> simp at this ⊢ <;> first | exact this | exact ⟨this.1.1, this.1.2, this.2⟩ | trivial
theorem compOK_t {t : Expr} (h : compOK sc csc t = true) : ∃ l, tNames t = some l ∧ ∀ x ∈ l, csc.names.lookup x = some .local := by
  unfold compOK at h
  simp only [Bool.and_eq_true] at h
  refine el_AT (h) fun _ h1 => ?_
  cases ht : tNames t with
  | none => rw [ht] at h1; cases h1
  | some l =>
    rw [ht] at h1
    exact ⟨l, rfl, fun x hx => by simpa using List.all_eq_true.mp h1 x hx⟩

theorem lookup_mem {α : Type} {x : Str} {k : α} : ∀ {l : List (Str × α)}, l.lookup x = some k → (x, k) ∈ l
  | [], h => by simp at h
  | (y, u) :: l, h => by
    rw [List.lookup_cons] at h
    cases hy : x == y with
    | true => rw [hy] at h; cases h; rw [eq_of_beq hy]; simp
    | false => rw [hy] at h; exact List.mem_cons_of_mem _ (lookup_mem h)

theorem comp_env {t : Expr} (h : compOK sc csc t = true) (en : EnvOK env sc) (C : Addr) : EnvOK (compEnvC csc (clOf env csc.names []) C env) csc where
  kind := show csc.kind = .function from compOK_kind h
  gl := en.gl
  bl := en.bl
  glob := fun x hx => relabel_glob (by intro q; cases q) hx
  cell := fun x hx => absurd rfl (compOK_name h _ (lookup_mem hx)).1

theorem comp_vars {t : Expr} (h : compOK sc csc t = true) (en : EnvOK env sc) {C : Addr} {hp : Heap} {hd : List Addr} (v : VarsOK hp hd env σ) : VarsOK hp hd (compEnvC csc (clOf env csc.names []) C env) (capt csc σ) := fun x d e => by
  refine el_AT (capt_lookup e) fun e1 e2 => ?_
  refine el_EAT (v x d e1) fun u hv r => ?_
  refine el_AAT ((compOK_name h _ (lookup_mem e2)).2.2 rfl) fun q1 q2 q3 => ?_
  refine el_AET (en.cell x q2) fun k1 c' hc' => ?_
  refine ⟨u, .inr (.inl ⟨relabel_free en.kind k1 e2, ?_⟩), r⟩
  rcases hv with ⟨k2, _⟩ | ⟨_, c, hl, hc⟩ | ⟨k2, _⟩
  · rw [k1] at k2; cases k2
  · exact ⟨c, ((clOf_lookup hl csc.names [] (.inl rfl)).1 (.inr e2)), hc⟩
  · rw [k1] at k2; cases k2
end
end Mine
end
section
namespace Mine

theorem R.bind_ok {α β : Type} {r : R α} {f : α → R β} {b : β} (h : r.bind f = .ok b) : ∃ a, r = .ok a ∧ f a = .ok b := by
  cases r with
  | ok a => exact ⟨a, rfl, h⟩
  | exc c m => cases h
  | bad => cases h
theorem R.map_ok {α β : Type} {r : R α} {f : α → β} {b : β} (h : r.map f = .ok b) : ∃ a, r = .ok a ∧ f a = b := by
  cases r with
  | ok a => exact ⟨a, rfl, by cases h; rfl⟩
  | exc c m => cases h
  | bad => cases h

theorem Gr.newW {fa W : List Addr} {h₀ h h' : Heap} (x : Gr fa [] h₀ h) (y : Gr fa W h h') (n : ∀ b ∈ W, h₀.get? b = none) : Gr fa [] h₀ h' := fun b o e _ => by
  refine el_AT (x b o e (by simp)) fun hn0 k₁ => ?_
  obtain ⟨sl, e₁⟩ := hn0
  have hn : b ∉ W := fun q => by rw [n b q] at e; cases e
  refine el_AT (y b _ e₁ hn) fun hn0 _ => ?_
  obtain ⟨sl₂, e₂⟩ := hn0
  exact ⟨⟨sl₂, e₂⟩, fun q => (y b o (k₁ q) hn).2 q⟩

theorem le_dead {fa hid ex : List Addr} {h h' : Heap} (g : Gr fa [] h h') (hf : ∀ a ∈ fa, a ∈ hid) (hw : ∀ b ∈ ex, h.get? b = none) : PH.le (Vw h hid) (Vw h' (ex ++ hid)) := fun a o e => by
  refine Vw.mk ((g a o (Vw.of e) (by simp)).2 fun q => Vw.nin e (hf a q)) fun q => ?_
  rcases List.mem_append.mp q with q | q
  · have := Vw.of e; rw [hw a q] at this; cases this
  · exact Vw.nin e q

theorem clOf_mem {env : Env} : ∀ (l : List (Str × NameKind)) (cs : List (Str × Addr)) {y : Str} {c : Addr}, (clOf env l cs).lookup y = some c → cs.lookup y = some c ∨ ((y, NameKind.free) ∈ l ∧ c = (env.cells.lookup y).getD 0)
  | [], cs, y, c, h => .inl h
  | (x, k) :: r, cs, y, c, h => by
    unfold clOf at h
    cases hk : (k == NameKind.free) with
    | true =>
      rw [hk, if_pos rfl] at h
      rcases clOf_mem r _ h with q | ⟨q, e⟩
      · rw [List.lookup_cons] at q
        cases hy : y == x with
        | true =>
          rw [hy] at q
          have := eq_of_beq hy
          subst this
          have hk' : k = .free := by cases k <;> first | rfl | cases hk
          subst hk'
          exact .inr ⟨List.mem_cons_self, by cases q; rfl⟩
        | false => rw [hy] at q; exact .inl q
      · exact .inr ⟨List.mem_cons_of_mem _ q, e⟩
    | false =>
      rw [hk, if_neg (by decide)] at h
      rcases clOf_mem r _ h with q | ⟨q, e⟩
      · exact .inl q
      · exact .inr ⟨List.mem_cons_of_mem _ q, e⟩

section
variable {prog : Program} {w : World} {base : Heap} {A : Around} {fl : List Env} {hid : List Addr} {env : Env} {sc csc : Scope} {σ : Vs} {n : Nat} {s : Shared} {F : Fns}

theorem comp_cells {t : Expr} {h : Heap} (ok : compOK sc csc t = true) (H : Here base A fl hid env sc σ n h) {y : Str} {c : Addr} (e : (clOf env csc.names []).lookup y = some c) : c ∈ hid := by
  rcases clOf_mem _ _ e with q | ⟨q, e'⟩
  · cases q
  · refine el_AAT ((compOK_name ok _ q).2.2 rfl) fun q1 q2 q3 => ?_
    refine el_AET (H.en.cell y q2) fun _ c' hc' => ?_
    rw [hc'] at e'
    rw [show c = c' from e']
    exact H.cl _ _ hc'

theorem look1 {β : Type} {x y : Str} {d d' : β} (e : List.lookup y [(x, d)] = some d') : y = x ∧ d' = d := by
  rw [List.lookup_cons] at e
  cases hy : y == x with
  | true => rw [hy] at e; cases e; exact ⟨eq_of_beq hy, rfl⟩
  | false => rw [hy] at e; cases e
theorem look1n {β γ : Type} {x y : Str} {d : β} {u : γ} (e : List.lookup y [(x, d)] = none) : List.lookup y [(x, u)] = none := by
  rw [List.lookup_cons] at e ⊢
  cases hy : y == x with
  | true => rw [hy] at e; cases e
  | false => rfl
theorem look2 {β : Type} {x y z : Str} {a b d : β} (e : List.lookup z [(y, b), (x, a)] = some d) : (z = y ∧ d = b) ∨ ((z == y) = false ∧ z = x ∧ d = a) := by
  rw [List.lookup_cons] at e
  cases hy : z == y with
  | true => rw [hy] at e; cases e; exact .inl ⟨eq_of_beq hy, rfl⟩
  | false => rw [hy] at e; exact .inr ⟨rfl, look1 e⟩
theorem look2n {β γ : Type} {x y z : Str} {a b : β} {u v : γ} (e : List.lookup z [(y, b), (x, a)] = none) : List.lookup z [(x, u), (y, v)] = none := by
  rw [List.lookup_cons, List.lookup_cons] at e ⊢
  cases hy : z == y with
  | true => rw [hy] at e; cases e
  | false => rw [hy] at e; cases hx : z == x with
    | true => rw [hx] at e; cases e
    | false => rfl
theorem bindT_does {E : Value → Shared → Prop} {Q : Unit → Shared → Prop} {fa hid' : List Addr} {cenv : Env} {C : Addr} {t : Expr} {d : D} {v : Value} {σc σ' : Vs} {names : List Str} (hh : A.handled = none) (so : SO cenv [C] s.heap)
    (hn : tNames t = some names) (hl : ∀ x ∈ names, cenv.kindOf x = some .local) (hf : ∀ a ∈ fa, a ∈ hid') (hC : C ∈ hid') (hb : bindT t d σc = .ok σ') (r : Rep (Vw s.heap hid') d v) (vs : VarsOK s.heap hid' cenv σc)
    (k : ∀ h' tk, Gr fa [C] s.heap h' → SO cenv [C] h' → VarsOK h' hid' cenv σ' → Q () { s with heap := h', toks := tk }) : wpAny (model prog w) A (assign t cenv v) Q E s := by
  have fin : ∀ (bs : List (Str × Value)) (ds : Vs) (h' : Heap) (tk : Nat), Bound fa [C] cenv bs s.heap h' → (∀ x d, ds.lookup x = some d → ∃ u, bs.reverse.lookup x = some u ∧ Rep (Vw s.heap hid') d u) → (∀ x, ds.lookup x = none → bs.lookup x = none) →
      σ' = ds ++ σc → Q () { s with heap := h', toks := tk } := fun bs ds h' tk B p1 p2 e => by
    have le : PH.le (Vw s.heap hid') (Vw h' hid') := Vw.grow B.gr (by simpa using hC) hf
    refine k h' tk B.gr B.so fun x d e' => ?_
    rw [e] at e'
    cases hx : ds.lookup x with
    | some d' =>
      have : d = d' := by
        rw [List.lookup_append, hx] at e'
        cases e'; rfl
      subst this
      refine el_EAT (p1 x d hx) fun u q1 q2 => ?_
      exact ⟨u, B.var _ _ q1, q2.mono le⟩
    | none =>
      rw [List.lookup_append, hx] at e'
      refine el_EAT (vs x d e') fun u q1 q2 => ?_
      exact ⟨u, B.keep _ _ (p2 x hx) q1, q2.mono le⟩
  cases t with
  | Name x p =>
    cases hb
    cases hn
    refine assign_name so (.inl (hl x (by simp))) fun h' tk B => fin _ [(x, d)] h' tk B (fun y d' e => ?_) (fun y e => ?_) rfl
    · refine el_AT (look1 e) fun hr0 hr1 => ?_
      subst hr0
      subst hr1
      exact ⟨v, by simp, r⟩
    · exact look1n e
  | Tuple es kk pos =>
    refine R.of_bind hb fun p hp hb => R.of_bind hb fun q hq hb => ?_
    cases hb
    rw [show tNames (.Tuple es kk pos) = (names2 es).bind fun p => if p.1 = p.2 then none else some [p.1, p.2] from rfl, hp] at hn
    have hxy : ¬ p.1 = p.2 := fun q => by rw [Option.bind_some, if_pos q] at hn; cases hn
    rw [Option.bind_some, if_neg hxy] at hn
    cases hn
    refine el_EET (names2_s (x := p.1) (y := p.2) hp) fun px py hr2 => ?_
    subst hr2
    refine bind_some hq fun l h1 h2 => ?_
    rw [D.tuple?_s h1, two?_s (a := q.1) (b := q.2) h2] at r
    refine el_EEAAAT (rep_isTup r) fun ta vs' hr2 na ht rr => ?_
    subst hr2
    refine el_EEAAT (reps_cons.mp rr) fun v1 r1 e1 q1 rr1 => ?_
    refine el_EEAAT (reps_cons.mp rr1) fun v2 r2 e2 q2 rr2 => ?_
    have e3 : vs' = #[v1, v2] := by
      apply Array.toList_inj.mp
      rw [e1, e2, reps_nil.mp rr2]
    subst e3
    refine assign_pair hh ht so (.inl (hl p.1 (by simp))) (.inl (hl p.2 (by simp))) fun h' tk B => fin _ [(p.2, q.2), (p.1, q.1)] h' tk B (fun z d' e => ?_) (fun z e => ?_) rfl
    · rcases look2 e with ⟨rfl, rfl⟩ | ⟨hz, rfl, rfl⟩
      · exact ⟨v2, by simp, q2⟩
      · exact ⟨v1, by simp [List.lookup_cons, hz], q1⟩
    · exact look2n e
  | _ => cases hb


structure CAt (St : List D → Heap → Prop) (fa : List Addr) (h₀ : Heap) (C D : Addr) (V : List Addr) (l pre : List Mine.D) (vs : Array Value) (kk : Nat) (h : Heap) : Prop where
  st : St l h
  gr : Gr fa [] h₀ h
  ns : ∃ m, h.Ns C m
  hD : h.get? D = some { cls := .type "list", data := .seq vs kk }
  rs : Reps (Vw h V) pre vs.toList
inductive CInv (K : List D → R (List D)) (ds : List D) (St : List D → Heap → Prop) (fa : List Addr) (h₀ : Heap) (C D : Addr) (V : List Addr) (s : Shared) : Nat → Shared → Prop
  | mk {l pre rest : List Mine.D} {vs : Array Value} {kk : Nat} {h : Heap} {tk : Tok} (hc : K l = .ok rest) (hd : ds = pre ++ rest) (a : CAt St fa h₀ C D V l pre vs kk h) : CInv K ds St fa h₀ C D V s l.length { s with heap := h, toks := tk }

theorem comp_run (S : SndE prog w base F n) {h₀ : Heap} (H : Here base A fl hid env sc σ n h₀) {elt t i : Expr} {ifs : List Expr} {pos : Pos} (ok : compOK sc csc t = true) {own : Bool} {I D C : Addr} {wr : List Addr} {St : List Mine.D → Heap → Prop}
    (it : Itr prog w A ([D, C] ++ hid) own I wr St) (ho : own = true → isTup t = true) (hDC : D ≠ C) (newD : h₀.get? D = none) (newC : h₀.get? C = none) (newW : ∀ b ∈ wr, h₀.get? b = none) (hDW : D ∉ wr) (hCW : C ∉ wr)
    {R : Result → Shared → Prop} {ds : List Mine.D} (hsz : ds.length ≤ big)
    (fin : ∀ h' tk, Gr (faOf fl) [] h₀ h' → (∃ m, h'.Ns C m) → Rep (Vw h' ([C] ++ hid)) (.list ds) (.ref D) → R (.ok .next) { s with heap := h', toks := tk })
    (m : Nat) (s₁ : Shared) (hI : CInv (compL F csc (capt csc σ) t elt ifs) ds St (faOf fl) h₀ C D (wr ++ ([D, C] ++ hid)) s m s₁) :
    codeAny (model prog w) A (.compLoop (.ListComp elt [⟨t, i, ifs, 0⟩] csc pos) 0 (.ref I) (.ref D) (compEnvC csc (clOf env csc.names []) C env)) R s₁ := by
  refine el_EAT (compOK_t ok) fun names hnm hloc => ?_
  have f0 : ∀ a ∈ faOf fl, a ∈ hid := H.cx.fhid
  have nC : ∀ b ∈ [C], h₀.get? b = none := all_c newC all_n
  have nD : ∀ b ∈ [D], h₀.get? b = none := all_c newD all_n
  have hex : ∀ b ∈ wr ++ [D, C], h₀.get? b = none := List.forall_mem_append.mpr ⟨newW, all_c newD nC⟩
  have nh : ∀ b, h₀.get? b = none → b ∉ hid := fun b e => H.cx.fresh e
  have eV : wr ++ ([D, C] ++ hid) = wr ++ [D, C] ++ hid := (List.append_assoc ..).symm
  have le0 : ∀ {h'}, Gr (faOf fl) [] h₀ h' → PH.le (Vw h₀ hid) (Vw h' (wr ++ ([D, C] ++ hid))) := fun g => by
    rw [eV]; exact le_dead (ex := wr ++ [D, C]) g f0 hex
  have cx0 : ∀ {h'}, Gr (faOf fl) [] h₀ h' → (∀ b ∈ wr, ∃ o, h'.get? b = some o) → (∃ o, h'.get? D = some o) → (∃ o, h'.get? C = some o) → Cx base A fl (wr ++ ([D, C] ++ hid)) h' := fun g lw ld lc => by
    rw [eV]; exact (H.cx.grow g).more (ex := wr ++ [D, C]) (List.forall_mem_append.mpr ⟨lw, all_c ld (all_c lc all_n)⟩) fun a ha => H.cx.new (hex a ha)
  have nsl : ∀ {h' : Heap}, (∃ m, h'.Ns C m) → ∃ o, h'.get? C = some o := fun ⟨m, o, es, ep, e, _⟩ => ⟨o, e⟩
  have en : EnvOK (compEnvC csc (clOf env csc.names []) C env) csc := comp_env ok H.en C
  have cne : ∀ y c, (clOf env csc.names []).lookup y = some c → c ≠ C := fun y c e q => nh C newC (q ▸ comp_cells ok H e)
  have hV : ∀ a ∈ hid, a ∈ wr ++ ([D, C] ++ hid) := fun a ha => List.mem_append_right _ (List.mem_append_right _ ha)
  have fV : ∀ a ∈ faOf fl, a ∈ wr ++ ([D, C] ++ hid) := fun a ha => hV a (f0 a ha)
  have vC : ∀ b ∈ [C], b ∈ wr ++ ([D, C] ++ hid) := all_c (List.mem_append_right _ (.tail _ (.head _))) all_n
  have vD : ∀ b ∈ [D], b ∈ wr ++ ([D, C] ++ hid) := all_c (List.mem_append_right _ (.head _)) all_n
  have faW : ∀ a ∈ faOf fl, a ∉ wr := fun a ha q => nh a (newW a q) (f0 a ha)
  have fD : D ∉ faOf fl := fun q => nh D newD (f0 D q)
  refine comp_loop (CInv (compL F csc (capt csc σ) t elt ifs) ds St (faOf fl) h₀ C D (wr ++ ([D, C] ++ hid)) s) ?_ m hI
  clear hI s₁ m
  intro m s₁ hI
  cases hI with
  | @mk l pre rest vs kk h₁ tk₁ hc hd a =>
  cases a with
  | mk hst hg hns hD hr =>
  have hlive : ∀ b ∈ [D, C] ++ hid, ∃ o, h₁.get? b = some o := List.forall_mem_append.mpr ⟨all_c ⟨_, hD⟩ (all_c (nsl hns) all_n), fun b q => hg.alive (by simp) (H.cx.live b q)⟩
  cases l with
  | nil =>
    cases hc
    refine it.done _ _ _ hst fun h' tk k => ?_
    have g' : Gr (faOf fl) wr h₁ h' := Gr.of_keeps k
    refine el_ET (hns) fun m hm => ?_
    refine fin h' tk (hg.newW g' newW) ⟨m, g'.ns hCW hm⟩ ?_
    refine rep_of_isList (k D _ hDW hD) (out_c hDC (nh D newD)) ?_
    rw [hd, List.append_nil]
    refine hr.mono fun a o e => ?_
    have := le_wr k a o e
    exact Vw.mk (Vw.of this) fun q => Vw.nin this (List.mem_append_right _ (.tail _ q))
  | cons d l =>
    refine el_EAT (Mine.R.bind_ok hc) fun σ' hb hc => ?_
    refine el_EAT (Mine.R.bind_ok hc) fun b ht hc => ?_
    refine wpAny_mono (it.item t d l _ _ (fun _ _ => False) ho hst hlive ?_) (fun r s₂ hr₂ => el_EAT hr₂ fun v e hv => by subst e; exact hv) fun _ _ h' => h'
    intro v h₂ tk₂ rv st₂ k₂
    have G₂ := hg.newW (Gr.of_keeps k₂) newW
    have hD₂ := k₂ D _ hDW hD
    have ns₂ : ∃ m, h₂.Ns C m := hns.imp fun m hm => (Gr.of_keeps (fa := faOf fl) k₂).ns hCW hm
    have so₂ : SO (compEnvC csc (clOf env csc.names []) C env) [C] h₂ := ⟨en.kind, ns₂, .head _, cne, fun y c e q => absurd (List.mem_singleton.mp q) (cne y c e)⟩
    have vs₂ : VarsOK h₂ (wr ++ ([D, C] ++ hid)) (compEnvC csc (clOf env csc.names []) C env) (capt csc σ) := by
      refine comp_vars ok H.en fun x d e => ?_
      refine el_EAT (H.vs x d e) fun u a1 a2 => ?_
      exact ⟨u, a1.grow0 G₂, a2.mono (le0 G₂)⟩
    have hr₂ := hr.mono (le_wr k₂)
    refine bindT_does (fa := faOf fl) (s := { s with heap := h₂, toks := tk₂ }) H.cx.hd so₂ hnm (fun x hx => lookup_relabel_local (hloc x hx)) fV (vC C (.head _)) hb rv vs₂ fun h₃ tk₃ g₃ so₃ vs₃ => ?_
    have k₃ : ∀ b o, b ∉ [C] → b ∉ faOf fl → h₂.get? b = some o → h₃.get? b = some o := fun b o hb hf e => (g₃ b o e hb).2 hf
    have hD₃ := k₃ D _ (out_c hDC (by simp)) fD hD₂
    have le₃ : PH.le (Vw h₂ (wr ++ ([D, C] ++ hid))) (Vw h₃ (wr ++ ([D, C] ++ hid))) := Vw.grow g₃ vC fV
    have A₃ : CAt St (faOf fl) h₀ C D (wr ++ ([D, C] ++ hid)) l pre vs kk h₃ := ⟨it.frame _ _ _ st₂ (fun b o hb e => k₃ b o (out_c (fun q => hCW (q ▸ hb)) (by simp)) (fun q => faW b q hb) e) le₃, G₂.newW g₃ nC, so₃.ns, hD₃, hr₂.mono le₃⟩
    have H₃ : Here base A fl (wr ++ ([D, C] ++ hid)) (compEnvC csc (clOf env csc.names []) C env) csc σ' n h₃ := ⟨H.rm, cx0 A₃.gr (it.live _ _ A₃.st) ⟨_, hD₃⟩ (nsl so₃.ns), en, vs₃, fun y c e => hV c (comp_cells ok H e)⟩
    have next : ∀ {h₄ : Heap}, Gr (faOf fl) [] h₃ h₄ → CAt St (faOf fl) h₀ C D (wr ++ ([D, C] ++ hid)) l pre vs kk h₄ := fun {h₄} g₄ => by
      have k₄ : ∀ b o, b ∉ faOf fl → h₃.get? b = some o → h₄.get? b = some o := fun b o hf e => (g₄ b o e (by simp)).2 hf
      exact ⟨it.frame _ _ _ A₃.st (fun b o hb e => k₄ b o (fun q => faW b q hb) e) (H₃.view g₄), A₃.gr.trans g₄, A₃.ns.imp fun m hm => g₄.ns (by simp) hm, k₄ D _ fD hD₃, A₃.rs.mono (H₃.view g₄)⟩
    clear hst hg hns hD hr hlive rv st₂ k₂ G₂ hD₂ ns₂ so₂ vs₂ hr₂ g₃ so₃ vs₃ k₃ hD₃ le₃ A₃
    refine tests_snd S ifs { s with heap := h₃, toks := tk₃ } H₃ ht fun h₄ tk₄ g₄ => ?_
    cases b with
    | false => exact ⟨l.length, Nat.lt_succ_self _, ⟨hc, hd, next g₄⟩⟩
    | true =>
      refine el_EAT (Mine.R.bind_ok hc) fun x hx hc => ?_
      refine el_EAT (Mine.R.map_ok hc) fun rest' hc' hr2 => ?_
      subst hr2
      refine S.ev (s := { s with heap := h₄, toks := tk₄ }) (H₃.grow g₄) _ _ ?_
      rw [hx]
      intro y h₅ tk₅ g₅ ry
      have a := next (g₄.trans g₅)
      have hlen : vs.size ≤ sizeLine := by
        have := reps_length a.rs
        rw [Array.length_toList] at this
        have h2 : ds.length = pre.length + (x :: rest').length := by rw [hd, List.length_append]
        have := big_le
        omega
      refine append_at (s := { s with heap := h₅, toks := tk₅ }) (hsz := hlen) a.hD fun h₆ hs₆ hD₆ => ?_
      have g₆ : Gr (faOf fl) [D] h₅ h₆ := Gr.sameBut hs₆
      have le₆ : PH.le (Vw h₅ (wr ++ ([D, C] ++ hid))) (Vw h₆ (wr ++ ([D, C] ++ hid))) := Vw.grow g₆ vD fV
      refine ⟨l.length, Nat.lt_succ_self _, ⟨hc', hd.trans (List.append_cons ..), ⟨?_, a.gr.newW g₆ nD, a.ns.imp fun m hm => g₆.ns (out_c hDC.symm (by simp)) hm, hD₆, ?_⟩⟩⟩
      · exact it.frame _ _ _ a.st (fun b o hb e => hs₆.extBut b o (fun q => hDW (q ▸ hb)) e) le₆
      · rw [Array.toList_push]
        exact reps_append (a.rs.mono le₆) (reps_cons' (ry.mono le₆) reps_nil')
end
end Mine
end
section
namespace Mine

structure SndI (prog : Program) (w : World) (base : Heap) (F : Fns) (n : Nat) : Prop extends SndE prog w base F n where
  it : ∀ {A : Around} {fl : List Env} {hid : List Addr} {env : Env} {sc : Scope} {σ : Vs} {s : Shared} {e : Expr}, Here base A fl hid env sc σ n s.heap → ItDoes prog w A fl hid s e env (F.it sc σ e)

noncomputable abbrev PC (hid : List Addr) (h₀ : Heap) : D → Value × Addr → Heap → Prop := fun d p h => h₀.get? p.2 = none ∧ (∃ m, h.Ns p.2 m) ∧ Rep (Vw h ([p.2] ++ hid)) d p.1

section
variable {prog : Program} {w : World} {base : Heap} {A : Around} {fl : List Env} {hid : List Addr} {env : Env} {sc csc : Scope} {σ : Vs} {n : Nat} {s : Shared} {F : Fns}

theorem compL_length {sc : Scope} {σ : Vs} {t elt : Expr} {ifs : List Expr} : ∀ {l r : List D}, compL F sc σ t elt ifs l = .ok r → r.length ≤ l.length
  | [], r, h => by cases h; simp
  | d :: l, r, h => by
    refine el_EAT (R.bind_ok h) fun σ' _ h => ?_
    refine el_EAT (R.bind_ok h) fun b _ h => ?_
    cases b with
    | true =>
      simp only [if_true] at h
      refine el_EAT (R.bind_ok h) fun x _ h => ?_
      refine el_EAT (R.map_ok h) fun r' h' hr2 => ?_
      subst hr2
      have := compL_length h'
      simp; omega
    | false =>
      simp only [Bool.false_eq_true, if_false] at h
      have := compL_length h
      simp; omega

theorem folded_pure {i : Expr} (h : isSet i = false) (x : Value) : foldedSetIterable i env x = pure x := by
  cases i <;> first | rfl | cases h

theorem comp_core (S : SndI prog w base F n) (H : Here base A fl hid env sc σ n s.heap) {elt t i : Expr} {ifs : List Expr} {pos : Pos} {use : Option (Value → Sem Unit)} {Q E : Value → Shared → Prop}
    (fin : FinT fl s (compE F sc csc σ elt t i ifs) (PC hid s.heap) (fun p s' => compPost (model prog w) A E use Q p.1 p.2 (.ok .next) s') E) :
    wpAny (model prog w) A (comprehension (.ListComp elt [⟨t, i, ifs, 0⟩] csc pos) csc env (firstIterPos [⟨t, i, ifs, 0⟩] pos) (newList []) false (eval i env) use) Q E s := by
  refine FinT.itn fin fun hset fin => FinT.ite fin fun ok fin => ?_
  · have hset : isSet i = false := Bool.eq_false_iff.mpr hset
    · have hclos : closureFor csc env = pure (clOf env csc.names []) := closure_eq fun p hp hk => by
        have hk' : p.2 = .free := by
          cases h : p.2 <;> rw [h] at hk <;> first | rfl | cases hk
        refine el_AAT ((compOK_name ok p hp).2.2 hk') fun q1 q2 q3 => ?_
        exact (H.en.cell _ q2).2
      refine wpAny_comprehension_free rfl (folded_pure hset) hclos (compOK_kind ok) (fun x hx hl => (compOK_name ok x hx).2.1 hl) ?_
      refine S.it H _ E ?_
      cases hi : F.it sc σ i with
      | exc c m => rw [hi] at fin; exact fin
      | bad => rw [hi] at fin; exact fin.elim
      | ok p =>
        rw [hi] at fin
        have fin : FinT fl s (if p.1 && !isTup t then .bad else if p.2.length ≤ big then ((compL F csc (capt csc σ) t elt ifs p.2).safe).map .list else .bad) (PC hid s.heap) (fun p s' => compPost (model prog w) A E use Q p.1 p.2 (.ok .next) s') E := fin
        intro v h₂ tk₂ g₂ hPI
        refine el_EEAAT (hPI) fun I wr hr2 hands hnew => ?_
        subst hr2
        refine FinT.itn fin fun htup fin => FinT.ite fin fun hcond fin => ?_
        · cases hc : compL F csc (capt csc σ) t elt ifs p.2 with
          | exc c m => rw [hc] at fin; exact fin.elim
          | bad => rw [hc] at fin; exact fin.elim
          | ok ds =>
            rw [hc] at fin
            have fin : ∀ (q : Value × Addr) h' tk, Gr (faOf fl) [] s.heap h' → PC hid s.heap (.list ds) q h' → compPost (model prog w) A E use Q q.1 q.2 (.ok .next) { s with heap := h', toks := tk } := fin
            refine wpAny_newObj_type (wpAny_newFunctionEnv (fun x hx => (compOK_name ok x hx).1) (by intro y hy; simp at hy) (fun h₁ hns₁ hsb₁ => ?_) (compOK_kind ok))
            dsimp only at hns₁ hsb₁ ⊢
            generalize hH2 : h₂.push { cls := .type "list", dict := none, data := .seq ([] : List Value).toArray } = H2 at hns₁ hsb₁ ⊢
            have hC : H2.objs.size = h₂.objs.size + 1 := by rw [← hH2, Heap.size_push]
            have hDC : h₂.objs.size ≠ H2.objs.size := by rw [hC]; exact Nat.ne_of_lt (Nat.lt_succ_self _)
            have below : ∀ b, b < h₂.objs.size → b ≠ H2.objs.size ∧ b ≠ h₂.objs.size := fun b hb => ⟨by rw [hC]; exact Nat.ne_of_lt (Nat.lt_succ_of_lt hb), Nat.ne_of_lt hb⟩
            have old : ∀ b o, h₂.get? b = some o → h₁.get? b = some o := fun b o e => hsb₁.extBut b o (below b (Heap.lt_size e)).1 (Heap.get?_push_of_some _ (hH2 ▸ Heap.get?_push_of_some _ e))
            have hacc : h₁.get? h₂.objs.size = some { cls := .type "list", data := .seq #[] 0 } := hsb₁.extBut _ _ hDC (Heap.get?_push_of_some _ (hH2 ▸ Heap.get?_push_size _ rfl))
            have dD : h₂.get? h₂.objs.size = none := Heap.get?_none_of_le (Nat.le_refl _)
            have dC : h₂.get? H2.objs.size = none := Heap.get?_none_of_le (by rw [hC]; exact Nat.le_succ _)
            obtain ⟨St, it, st⟩ := hands [h₂.objs.size, H2.objs.size] (fun b hb => by
              simp only [List.mem_cons, List.not_mem_nil, or_false] at hb
              rcases hb with rfl | rfl
              · exact dD
              · exact dC)
            have nw : ∀ b, h₂.get? b = none → b ∉ wr := fun b e q => by
              refine el_ET (it.live _ _ st b q) fun o e' => ?_
              rw [e] at e'; cases e'
            have g₁ : Gr (faOf fl) [] s.heap h₁ := g₂.trans (Gr.keeps0 old)
            have st₁ : St p.2 h₁ := it.frame _ _ _ st (fun b o _ e => old b o e) fun a o e => Vw.mk (old _ _ (Vw.of e)) (Vw.nin e)
            have loop : codeAny (model prog w) A (.compLoop (.ListComp elt [⟨t, i, ifs, 0⟩] csc pos) 0 (.ref I) (.ref h₂.objs.size) (compEnvC csc (clOf env csc.names []) H2.objs.size env))
                (compPost (model prog w) A E use Q (.ref h₂.objs.size) H2.objs.size) { s with heap := h₁, toks := tk₂ + ([] : List (Str × Value)).length } := by
              refine comp_run (s := s) S.toSndE H ok it (tup_own htup) hDC (new_none g₂ dD) (new_none g₂ dC) hnew (nw _ dD) (nw _ dC) (Nat.le_trans (compL_length hc) hcond) (fun h' tk g' hn rep => ?_) _ _ (CInv.mk hc rfl ⟨st₁, g₁, ⟨_, hns₁⟩, hacc, reps_nil'⟩)
              exact fin (.ref h₂.objs.size, H2.objs.size) h' tk g' ⟨new_none g₂ dC, hn, rep⟩
            exact codeAny_compStart_list loop (it.self _ _ _ _ st₁ loop)

theorem Gr.dropNew {fa W : List Addr} {h₀ h h' : Heap} (x : Gr fa [] h₀ h) {C : Addr} (y : Heap.SameBut C h h') (n : h₀.get? C = none) : Gr fa [] h₀ h' :=
  x.newW (W := [C]) (Gr.sameBut y) fun b hb => by rw [List.mem_singleton.mp hb]; exact n

theorem rep_drop {h h' : Heap} {C : Addr} {d : D} {v : Value} (r : Rep (Vw h ([C] ++ hid)) d v) (y : Heap.SameBut C h h') : Rep (Vw h' hid) d v :=
  r.mono fun a o e => Vw.mk (y.extBut a o (fun q => Vw.nin e (by simp [q])) (Vw.of e)) fun q => Vw.nin e (by simp [q])

theorem comp_snd (S : SndI prog w base F n) (H : Here base A fl hid env sc σ n s.heap) (elt t i : Expr) (ifs : List Expr) (pos : Pos) :
    Does (model prog w) A fl s (eval (.ListComp elt [⟨t, i, ifs, 0⟩] csc pos) env) (compE F sc csc σ elt t i ifs) (PV hid) := fun Q E fin => by
  rw [eval_ListComp]
  refine comp_core S H (use := none) ?_
  cases hc : compE F sc csc σ elt t i ifs with
  | bad => rw [hc] at fin; exact fin
  | exc c m => rw [hc] at fin; exact fin
  | ok d =>
    rw [hc] at fin
    rintro ⟨v, C⟩ h' tk g' ⟨nC, ⟨m, hm⟩, rep⟩
    exact ⟨m, hm, fun h'' hs => fin v h'' tk (g'.dropNew (W := []) hs nC) (rep_drop rep hs)⟩
end
end Mine
end
section
namespace Mine

structure Xg (fl : List Env) (W : List Addr) (bare : Bool) (fs : List Value) (h : Heap) (e : Addr) (c : Value) (m : Str) (h' : Heap) : Prop where
  gr : Gr (faOf fl) W h h'
  new : h.get? e = none
  there : ∃ oe vs a0, h'.get? e = some oe ∧ oe.cls = c ∧ oe.data = .fields vs ∧ vs[0]? = some a0 ∧ ((∃ C, c = .ref C) → ∃ t ta, a0 = .ref t ∧ h.get? t = none ∧ h'.TupAt t [.str m ta]) ∧
    ((bare = true ∧ vs[1]? = some .none) ∨ ∃ T oT ts x, vs[1]? = some (.ref T) ∧ h.get? T = none ∧ T ≠ e ∧ h'.get? T = some oT ∧ oT.data = .fields ts ∧ ts[3]? = some x ∧ x ∈ fs)

theorem Xc.g {fl : List Env} {h h' : Heap} {e : Addr} {c : Value} {m : Str} (x : Xc fl h e c m h') : Xg fl [] true [.none] h e c m h' := by
  refine el_EEEAAAAAT (x.there) fun oe vs a0 h1 h2 h3 h4 h5 h6 => ?_
  refine ⟨x.gr, x.new, oe, vs, a0, h1, h2, h3, h4, h5, ?_⟩
  rcases h6 with h6 | ⟨T, oT, ts, r1, r2, r3, r4, r5, r6⟩
  · exact .inl ⟨rfl, h6⟩
  · exact .inr ⟨T, oT, ts, .none, r1, r2, r3, r4, r5, r6, by simp⟩

theorem Xg.mono {fl : List Env} {W W' : List Addr} {b b' : Bool} {fs fs' : List Value} {h h' : Heap} {e : Addr} {c : Value} {m : Str} (x : Xg fl W b fs h e c m h') (hW : ∀ a ∈ W, a ∈ W') (hb : b = true → b' = true) (hf : ∀ v ∈ fs, v ∈ fs') :
    Xg fl W' b' fs' h e c m h' := by
  refine el_EEEAAAAAT (x.there) fun oe vs a0 h1 h2 h3 h4 h5 h6 => ?_
  refine ⟨x.gr.mono hW, x.new, oe, vs, a0, h1, h2, h3, h4, h5, ?_⟩
  rcases h6 with ⟨q, h6⟩ | ⟨T, oT, ts, y, r1, r2, r3, r4, r5, r6, r7⟩
  · exact .inl ⟨hb q, h6⟩
  · exact .inr ⟨T, oT, ts, y, r1, r2, r3, r4, r5, r6, hf _ r7⟩

theorem Xg.shift {fl : List Env} {W W' : List Addr} {b : Bool} {fs : List Value} {h h₁ h' : Heap} {e : Addr} {c : Value} {m : Str} (x : Xg fl W b fs h₁ e c m h') (g : Gr (faOf fl) W' h h₁) (hW : ∀ a ∈ W, a ∈ W' ∨ h.get? a = none)
    (al : ∀ a o, h.get? a = some o → ∃ o', h₁.get? a = some o') : Xg fl W' b fs h e c m h' := by
  have new : ∀ b, h₁.get? b = none → h.get? b = none := fun b q => by
    cases z : h.get? b with
    | none => rfl
    | some o =>
      refine el_ET (al b o z) fun o' e' => ?_
      rw [q] at e'; cases e'
  refine el_EEEAAAAAT (x.there) fun oe vs a0 h1 h2 h3 h4 h5 h6 => ?_
  refine ⟨fun b o eb nb => ?_, new _ x.new, oe, vs, a0, h1, h2, h3, h4, fun q => ?_, ?_⟩
  · refine el_AT (g b o eb nb) fun hn0 k₁ => ?_
    obtain ⟨sl, e₁⟩ := hn0
    have nW : b ∉ W := fun q => by
      rcases hW b q with q | q
      · exact nb q
      · rw [eb] at q; cases q
    refine el_AT (x.gr b _ e₁ nW) fun hn0 _ => ?_
    obtain ⟨sl₂, e₂⟩ := hn0
    exact ⟨⟨sl₂, e₂⟩, fun q => (x.gr b o (k₁ q) nW).2 q⟩
  · refine el_EEAAT (h5 q) fun t ta r1 r2 r3 => ?_
    exact ⟨t, ta, r1, new _ r2, r3⟩
  · rcases h6 with h6 | ⟨T, oT, ts, y, r1, r2, r3⟩
    · exact .inl h6
    · exact .inr ⟨T, oT, ts, y, r1, new _ r2, r3⟩

section
variable {M : Model} {A : Around} {E : Value → Shared → Prop} {s : Shared}

theorem Gr.slots {S W : List Addr} {h h' : Heap} (x : Heap.SlotsOnly S h h') : Gr S W h h' := fun b o e _ => ⟨x.2.2 b o e, fun n => (x.2.1 b n).trans e⟩
theorem tup_ne {h : Heap} {t e : Addr} {l : List Value} {oe : Obj} {vs : Array Value} (x : h.TupAt t l) (he : h.get? e = some oe) (hd : oe.data = .fields vs) : t ≠ e := fun q => by
  refine el_EEAAT (x) fun o n ho hc hd' => ?_
  rw [q, he] at ho
  cases ho
  rw [hd] at hd'; cases hd'
theorem tup_other {h : Heap} {t e : Addr} {l : List Value} {f : Obj → Obj} (x : h.TupAt t l) (n : t ≠ e) : (h.update e f).TupAt t l := by
  refine el_EEAT (x) fun o k ho r => ?_
  exact ⟨o, k, (Heap.get?_update_other _ _ (Ne.symm n)).trans ho, r⟩
theorem Gr.upd {fa W : List Addr} {h₀ h : Heap} (g : Gr fa W h₀ h) {e : Addr} {f : Obj → Obj} (n : h₀.get? e = none) : Gr fa W h₀ (h.update e f) := fun b o eb nb => by
  refine el_AT (g b o eb nb) fun hn0 k₁ => ?_
  obtain ⟨sl, e₁⟩ := hn0
  have ne : e ≠ b := fun q => by rw [q, eb] at n; cases n
  exact ⟨⟨sl, (Heap.get?_update_other _ _ ne).trans e₁⟩, fun q => (Heap.get?_update_other _ _ ne).trans (k₁ q)⟩

structure Qt (h h' : Heap) : Prop where
  ups : h.UpToSlots h'
  al : ∀ b o, h.get? b = some o → ∃ o', h'.get? b = some o'
theorem Qt.trans {h h₁ h' : Heap} (x : Qt h h₁) (y : Qt h₁ h') : Qt h h' := ⟨x.ups.trans y.ups, fun b o e => by obtain ⟨o', e'⟩ := x.al b o e; exact y.al b o' e'⟩
theorem Qt.refl (h : Heap) : Qt h h := ⟨.refl _, fun _ o e => ⟨o, e⟩⟩
theorem Qt.upd {h : Heap} {e : Addr} {oe : Obj} {vs : Array Value} {f : Obj → Obj} (he : h.get? e = some oe) (hd : oe.data = .fields vs) (lv : ∃ o, (h.update e f).get? e = some o) : Qt h (h.update e f) := ⟨fun b o hb hn => ⟨o.slots, (Heap.get?_update_other _ _ (fun q => by subst q; rw [he] at hb; cases hb; exact hn vs hd)).trans hb⟩, fun b o hb => by
  by_cases q : b = e
  · subst q; exact lv
  · exact ⟨o, (Heap.get?_update_other _ _ (Ne.symm q)).trans hb⟩⟩

theorem entry_does {base h₀ : Heap} {env : Env} {outer : List Env} {W : List Addr} {L e : Addr} {oe : Obj} {vs : Array Value} {head a0 c : Value} {m : Str} {hadNext : Bool} {Q : Unit → Shared → Prop}
    (hfr : A.frames = some (env :: outer)) (hl : s.heap.FunFrames base (env :: outer)) (hf : env.frame = some L)
    (g : Gr (faOf (env :: outer)) W h₀ s.heap) (new : h₀.get? e = none) (liv : ∀ b o, h₀.get? b = some o → ∃ o', s.heap.get? b = some o')
    (he : s.heap.get? e = some oe) (hc : oe.cls = c) (hd : oe.data = .fields vs) (hsz : 1 < vs.size) (h0 : vs[0]? = some a0) (ht : (∃ C, c = .ref C) → ∃ t ta, a0 = .ref t ∧ h₀.get? t = none ∧ s.heap.TupAt t [.str m ta])
    (h : ∀ h', Xg (env :: outer) W false [rawInt L] h₀ e c m h' → Qt s.heap h' → Q () { s with heap := h' }) :
    wpAny M A (do let a ← frameOf env; let pl ← entryPlaceOf L hadNext; let b ← EntryCells.newEntry head a .none (rawInt L) .none pl; setField (.ref e) 1 b) Q E s := by
  have hene : e ∉ (env :: outer).filterMap (·.frame) := fun hm => by
    refine el_AEAT (hl.mem hm) fun _ o ho hnf => ?_
    rw [he] at ho; injection ho with ho; subst ho; exact hnf vs hd
  refine wpAny_bind (wpAny_frameOf_fun hfr hl hf fun h₁ hs₁ => ?_)
  refine wpAny_bind (wpAny_entryPlaceOf fun pl hpl => ?_)
  unfold EntryCells.newEntry newFields
  refine wpAny_bind (wpAny_newObj_type ?_ (hpl.sizeOk5 _ _ _ _ _))
  have he₁ : h₁.get? e = some oe := (hs₁.2.1 e hene).trans he
  have g₁ : Gr (faOf (env :: outer)) W h₀ h₁ := g.trans (Gr.slots hs₁)
  have he₂ := Heap.get?_push_of_some (h := h₁) { cls := .type "traceback", dict := none, data := .fields ([head, .ref L, .none, rawInt L, .none] ++ (if pl.isEmpty then List.replicate 6 Value.none else pl)).toArray } he₁
  refine wpAny_setField he₂ hd hsz ?_
  have hTe : h₁.objs.size ≠ e := Nat.ne_of_gt (Heap.lt_size he₁)
  have hd₃ := Obj.data_mapFields hd (·.setIfInBounds 1 (Value.ref h₁.objs.size))
  have he₃ := Heap.get?_update_self (Obj.mapFields (·.setIfInBounds 1 (Value.ref h₁.objs.size))) he₂ (Obj.isFreed_of_fields hd₃)
  have hT₃ := (Heap.get?_update_other (h₁.push { cls := .type "traceback", dict := none, data := .fields ([head, .ref L, .none, rawInt L, .none] ++ (if pl.isEmpty then List.replicate 6 Value.none else pl)).toArray })
    (Obj.mapFields (·.setIfInBounds 1 (Value.ref h₁.objs.size))) (Ne.symm hTe)).trans (Heap.get?_push_size h₁ rfl)
  have nT : h₀.get? h₁.objs.size = none := by
    cases z : h₀.get? h₁.objs.size with
    | none => rfl
    | some o =>
      refine el_ET (liv _ o z) fun o' e' => ?_
      refine el_ET (hs₁.2.2 _ _ e') fun sl e₁ => ?_
      exact absurd (Heap.lt_size e₁) (Nat.lt_irrefl _)
  refine h _ ⟨(g₁.trans (Gr.push _)).upd new, new, _, _, a0, he₃, (Obj.cls_mapFields _ _).trans hc, hd₃, by rw [Array.getElem?_setIfInBounds_ne (by decide)]; exact h0, fun q => ?_, .inr ⟨h₁.objs.size, _, _, rawInt L, by simp [hsz], nT, hTe, hT₃, rfl, ?_, by simp⟩⟩ ?_
  · refine el_EEAAT (ht q) fun t ta r1 r2 r3 => ?_
    refine ⟨t, ta, r1, r2, ?_⟩
    have hne : t ≠ e := tup_ne r3 he hd
    refine el_EEAAT (r3) fun o k ho hc hdt => ?_
    refine el_ET (hs₁.2.2 _ _ ho) fun sl e₁ => ?_
    exact tup_other ⟨_, k, Heap.get?_push_of_some _ e₁, hc, hdt⟩ hne
  · first | (simp; done) | (rcases hpl with rfl | ⟨_, _, _, _, _, _, _, rfl⟩ <;> simp)
  · refine Qt.trans (h₁ := h₁) ⟨fun b o hb _ => hs₁.2.2 b o hb, fun b o hb => by obtain ⟨sl, e⟩ := hs₁.2.2 b o hb; exact ⟨_, e⟩⟩ (Qt.trans (h₁ := h₁.push _) ⟨fun b o hb _ => ⟨o.slots, Heap.get?_push_of_some _ hb⟩, fun b o hb => ⟨o, Heap.get?_push_of_some _ hb⟩⟩ (Qt.upd he₂ hd ⟨_, he₃⟩))

theorem note_does {base h₀ : Heap} {env : Env} {outer : List Env} {W : List Addr} {L e : Addr} {c : Value} {m : Str} {b : Bool} {fs : List Value} {Q : Unit → Shared → Prop}
    (hfr : A.frames = some (env :: outer)) (hl : s.heap.FunFrames base (env :: outer)) (hf : env.frame = some L) (hfs : ∀ v ∈ fs, v = .none ∨ v = rawInt L)
    (x : Xg (env :: outer) W b fs h₀ e c m s.heap) (liv : ∀ b o, h₀.get? b = some o → ∃ o', s.heap.get? b = some o')
    (h : ∀ h', Xg (env :: outer) W false [rawInt L] h₀ e c m h' → Qt s.heap h' → Q () { s with heap := h' }) : wpAny M A (noteFrame (.ref e) env) Q E s := by
  refine el_EEEAAAAAT (x.there) fun oe vs a0 he hc hd h0 ht hx => ?_
  unfold noteFrame
  simp only [hf]
  rcases hx with ⟨_, h1⟩ | ⟨T, oT, ts, y, h1, hnT, hTe, hT, hdT, h3, hy⟩
  · refine wpAny_bind (wpAny_field he hd h1 ?_)
    rw [if_neg (by decide)]
    exact entry_does hfr hl hf x.gr x.new liv he hc hd (Array.getElem?_eq_some_iff.mp h1).1 h0 ht h
  · refine wpAny_bind (wpAny_field he hd h1 ?_)
    rw [if_pos (show (Value.ref T != Value.none) = true from by simp)]
    refine wpAny_bind (wpAny_field hT hdT h3 ?_)
    rcases hfs y hy with rfl | rfl
    · rw [if_neg (show ¬ ((Value.none == rawInt L) = true) from by simp [rawInt])]
      refine wpAny_bind (wpAny_setField hT hdT (Array.getElem?_eq_some_iff.mp h3).1 ?_)
      have other : ∀ b, b ≠ T → (s.heap.update T (Obj.mapFields (·.setIfInBounds 3 Value.none))).get? b = s.heap.get? b := fun b hb => Heap.get?_update_other _ _ (Ne.symm hb)
      have noRecord : ∀ b o, s.heap.get? b = some o → (∀ vs, o.data ≠ .fields vs) → b ≠ T := fun b o hb hnf q => by
        rw [q, hT] at hb; injection hb with hb; subst hb; exact hnf ts hdT
      refine entry_does (s := { s with heap := s.heap.update T (Obj.mapFields (·.setIfInBounds 3 Value.none)) }) hfr (hl.of_keeps fun b o hb hnf => ⟨o, (other b (noRecord b o hb hnf)).trans hb, rfl⟩) hf (x.gr.upd hnT) x.new (fun b o e => ?_) ((other e (Ne.symm hTe)).trans he) hc hd
        (Array.getElem?_eq_some_iff.mp h1).1 h0 (fun q => ?_) (fun h' x' q => h h' x' ((Qt.upd hT hdT ⟨_, Heap.get?_update_self _ hT (Obj.isFreed_of_fields (Obj.data_mapFields hdT _))⟩).trans q))
      · refine el_ET (liv b o e) fun o' e' => ?_
        exact ⟨o', (other b fun q => by rw [q, hnT] at e; cases e).trans e'⟩
      · refine el_EEAAT (ht q) fun t ta r1 r2 r3 => ?_
        exact ⟨t, ta, r1, r2, tup_other r3 (tup_ne r3 hT hdT)⟩
    · rw [if_pos (show (rawInt L == rawInt L) = true from by simp)]
      exact wpAny_pure (h s.heap ⟨x.gr, x.new, oe, vs, a0, he, hc, hd, h0, ht, .inr ⟨T, oT, ts, _, h1, hnT, hTe, hT, hdT, h3, by simp⟩⟩ (Qt.refl _))

theorem flight_does {h₀ : Heap} {fl : List Env} {W : List Addr} {e : Addr} {c : Value} {m : Str} {fs : List Value} {fr : Option Addr} {Q : Unit → Shared → Prop}
    (x : Xg fl W false fs h₀ e c m s.heap) (h : ∀ h', Xg fl W false [fr.elim Value.none fun f => rawInt f] h₀ e c m h' → Qt s.heap h' → Q () { s with heap := h' }) : wpAny M A (setFlight (.ref e) fr) Q E s := by
  refine el_EEEAAAAAT (x.there) fun oe vs a0 he hc hd h0 ht hx => ?_
  rcases hx with ⟨q, _⟩ | ⟨T, oT, ts, y, h1, hnT, hTe, hT, hdT, h3, hy⟩
  · cases q
  · have hsz3 : 3 < ts.size := (Array.getElem?_eq_some_iff.mp h3).1
    have other : ∀ b, b ≠ T → (s.heap.update T (Obj.mapFields (·.setIfInBounds 3 (fr.elim Value.none fun f => rawInt f)))).get? b = s.heap.get? b := fun b hb => Heap.get?_update_other _ _ (Ne.symm hb)
    unfold setFlight
    refine wpAny_bind (wpAny_field he hd h1 ?_)
    rw [if_pos (show (Value.ref T != Value.none) = true from by simp)]
    refine wpAny_setField hT hdT hsz3 (h _ ⟨x.gr.upd hnT, x.new, oe, vs, a0, (other e (Ne.symm hTe)).trans he, hc, hd, h0, fun q => ?_, .inr ⟨T, _, _, fr.elim Value.none fun f => rawInt f, h1, hnT, hTe, Heap.get?_update_self _ hT (Obj.isFreed_of_fields (Obj.data_mapFields hdT _)), Obj.data_mapFields hdT _, by simp [hsz3], by simp⟩⟩ ?_)
    · refine el_EEAAT (ht q) fun t ta r1 r2 r3 => ?_
      exact ⟨t, ta, r1, r2, tup_other r3 (tup_ne r3 hT hdT)⟩
    · exact Qt.upd hT hdT ⟨_, Heap.get?_update_self _ hT (Obj.isFreed_of_fields (Obj.data_mapFields hdT _))⟩

theorem leaving_does {base h₀ : Heap} {env : Env} {outer : List Env} {W : List Addr} {L e : Addr} {c : Value} {m : Str} {b : Bool} {fs : List Value} {Q : Unit → Shared → Prop}
    (hfr : A.frames = some (env :: outer)) (hl : s.heap.FunFrames base (env :: outer)) (hf : env.frame = some L) (hfs : ∀ v ∈ fs, v = .none ∨ v = rawInt L)
    (x : Xg (env :: outer) W b fs h₀ e c m s.heap) (liv : ∀ b o, h₀.get? b = some o → ∃ o', s.heap.get? b = some o')
    (h : ∀ h', Xg (env :: outer) W false [.none] h₀ e c m h' → Q () { s with heap := h' }) : wpAny M A (leaving env (.ref e)) Q E s := by
  unfold leaving
  exact wpAny_bind (note_does hfr hl hf hfs x liv fun h₁ x₁ _ => flight_does (s := { s with heap := h₁ }) x₁ fun h₂ x₂ _ => h h₂ x₂)
end
end Mine
end
section
namespace Mine

noncomputable abbrev own (env : Env) : List Addr := env.locals :: env.cells.map (·.2)
theorem own_locals (env : Env) : env.locals ∈ own env := List.mem_cons_self
theorem own_cell {env : Env} {x : Str} {c : Addr} (h : env.cells.lookup x = some c) : c ∈ own env := List.mem_cons_of_mem _ (List.mem_map_of_mem (f := (·.2)) (lookup_mem h))

structure FrOK (env : Env) (sc : Scope) (fl : List Env) (hid0 : List Addr) : Prop where
  scope : env.scope = sc
  kind : sc.kind = .function
  gl : env.globals = mainGlobals
  bl : env.builtins = builtinsNs
  fr : env.frame = some env.locals
  top : ∃ outer, fl = env :: outer
  cells : ∀ x, sc.names.lookup x = some .cell → ∃ c, env.cells.lookup x = some c
  inj : ∀ x y c, env.cells.lookup x = some c → env.cells.lookup y = some c → x = y
  apart : ∀ x c, env.cells.lookup x = some c → c ≠ env.locals
  nd : (env.cells.map (·.1)).Nodup
  fin : ∀ a ∈ faOf fl, a ∈ own env ++ hid0
  cnf : ∀ z c, (z, c) ∈ env.cells → c ∉ faOf fl

noncomputable def B.mut : B → Bool
  | .val _ => false
  | _ => true

noncomputable def Holds (prog : Program) (w : World) (h : Heap) (hid mad : List Addr) (v : Value) : B → Prop
  | .val d => Rep (Vw h hid) d v
  | .ml l => ∃ a vs k, v = .ref a ∧ a ∈ mad ∧ h.get? a = some { cls := .type "list", data := .seq vs k } ∧ Reps (Vw h hid) l vs.toList
  | .md l => ∃ a kvs, v = .ref a ∧ a ∈ mad ∧ (a == sysModules) = false ∧ h.DictOf (strKind prog w) a kvs ∧ KwR (Vw h hid) l kvs

structure FS (prog : Program) (w : World) (base : Heap) (A : Around) (fl : List Env) (hid0 : List Addr) (env : Env) (sc : Scope) (σ : Sg) (mad : List Addr) (h : Heap) : Prop where
  ok : FrOK env sc fl hid0
  cx : Cx base A fl (mad ++ (own env ++ hid0)) h
  ns : ∃ m, h.Ns env.locals m
  cl : ∀ y c, env.cells.lookup y = some c → ∃ v, h.IsCell c v
  out : ∀ a ∈ mad, a ∉ own env ++ hid0
  nd : (σ.map (·.1)).Nodup
  vars : ∀ x b, σ.lookup x = some b → ∃ v, Var h env x v ∧ Holds prog w h (mad ++ (own env ++ hid0)) mad v b
  inj : ∀ x y b b' a, σ.lookup x = some b → σ.lookup y = some b' → b.mut = true → b'.mut = true → Var h env x (.ref a) → Var h env y (.ref a) → x = y

theorem Var.uniq {h : Heap} {env : Env} {x : Str} {v u : Value} (p : Var h env x v) (q : Var h env x u) : v = u := by
  have cell : ∀ {c c' : Addr} {v u : Value}, env.cells.lookup x = some c → h.IsCell c (some v) → env.cells.lookup x = some c' → h.IsCell c' (some u) → v = u := fun a b c d => by
    rw [a] at c; cases c
    refine el_EAT (b) fun o e1 e2 => ?_
    refine el_EAT (d) fun o' e3 e4 => ?_
    rw [e1] at e3; cases e3
    rw [e2] at e4; cases e4; rfl
  rcases p with ⟨k, m, hn, hm⟩ | ⟨k, c, hl, hv⟩ | ⟨k, _, c, hl, hv⟩ <;> rcases q with ⟨k', m', hn', hm'⟩ | ⟨k', c', hl', hv'⟩ | ⟨k', _, c', hl', hv'⟩ <;>
    first
      | (rw [k] at k'; cases k'; done)
      | exact cell hl hv hl' hv'
      | (have : m = m' := by rw [hn.eq_nsMap, hn'.eq_nsMap]
         subst this; rw [hm] at hm'; cases hm'; rfl)

theorem Vw.perm {h : Heap} {l l' : List Addr} (p : ∀ a, a ∈ l ↔ a ∈ l') : Vw h l = Vw h l' := by
  funext a
  unfold Vw
  by_cases q : a ∈ l
  · rw [if_pos q, if_pos ((p a).mp q)]
  · rw [if_neg q, if_neg (fun r => q ((p a).mpr r))]

theorem dictOf_at {prog : Program} {w : World} {h h' : Heap} {a : Addr} {kvs : List (Str × Value)} (x : h.DictOf (strKind prog w) a kvs) (k : ∀ o, h.get? a = some o → h'.get? a = some o) : h'.DictOf (strKind prog w) a kvs := by
  refine el_EEEAT (x) fun o es ep ho r => ?_
  exact ⟨o, es, ep, k o ho, r⟩

theorem Holds.grow {prog : Program} {w : World} {h h' : Heap} {hid hid' mad mad' : List Addr} {v : Value} {b : B} (x : Holds prog w h hid mad v b) (le : PH.le (Vw h hid) (Vw h' hid')) (s : ∀ a ∈ mad, b.mut = true → v = .ref a → a ∈ mad') (k : ∀ a o, v = .ref a → b.mut = true → h.get? a = some o → h'.get? a = some o) :
    Holds prog w h' hid' mad' v b := by
  cases b with
  | val d => exact Rep.mono le x
  | ml l =>
    refine el_EEEAAAT (x) fun a vs n hr3 ha ho r => ?_
    subst hr3
    exact ⟨a, vs, n, rfl, s a ha rfl rfl, k a _ rfl rfl ho, r.mono le⟩
  | md l =>
    refine el_EEAAAAT (x) fun a kvs hr2 ha hy ho r => ?_
    subst hr2
    exact ⟨a, kvs, rfl, s a ha rfl rfl, hy, dictOf_at ho fun o e => k a o rfl rfl e, KwR.mono le r⟩
theorem Holds.ref {prog : Program} {w : World} {h : Heap} {hid mad : List Addr} {v : Value} {b : B} (x : Holds prog w h hid mad v b) (m : b.mut = true) : ∃ a, v = .ref a ∧ a ∈ mad := by
  cases b with
  | val d => cases m
  | ml l => obtain ⟨a, vs, n, rfl, ha, _⟩ := x; exact ⟨a, rfl, ha⟩
  | md l => obtain ⟨a, kvs, rfl, ha, _⟩ := x; exact ⟨a, rfl, ha⟩

section
variable {prog : Program} {w : World} {base : Heap} {A : Around} {fl : List Env} {hid0 : List Addr} {env : Env} {sc : Scope} {σ : Sg} {mad : List Addr} {h h' : Heap} {n : Nat}

theorem FS.faMad (x : FS prog w base A fl hid0 env sc σ mad h) {a : Addr} (ha : a ∈ mad) : a ∉ faOf fl := fun q => x.out a ha (x.ok.fin a q)

theorem FS.grow (x : FS prog w base A fl hid0 env sc σ mad h) (g : Gr (faOf fl) [] h h') : FS prog w base A fl hid0 env sc σ mad h' where
  ok := x.ok
  cx := x.cx.grow g
  ns := by obtain ⟨m, hm⟩ := x.ns; exact ⟨m, g.ns (by simp) hm⟩
  cl := fun y c e => by obtain ⟨v, hv⟩ := x.cl y c e; exact ⟨v, g.cell (by simp) hv⟩
  out := x.out
  nd := x.nd
  vars := fun y b e => by
    refine el_EAT (x.vars y b e) fun v h1 h2 => ?_
    refine ⟨v, h1.grow0 g, h2.grow (x.cx.view g) (fun a ha _ _ => ha) fun a o e m e' => ?_⟩
    refine el_EAT (h2.ref m) fun a' e1 ha => ?_
    rw [e] at e1; cases e1
    exact (g a o e' (by simp)).2 (x.faMad ha)
  inj := fun y z b b' a e1 e2 m1 m2 v1 v2 => by
    refine el_EAT (x.vars y b e1) fun u1 p1 _ => ?_
    refine el_EAT (x.vars z b' e2) fun u2 p2 _ => ?_
    have q1 := (p1.grow0 g).uniq v1
    have q2 := (p2.grow0 g).uniq v2
    subst q1; subst q2
    exact x.inj y z b b' a e1 e2 m1 m2 p1 p2

theorem fast_lookup : ∀ {σ : Sg} {x : Str} {d : D}, (σ.map (·.1)).Nodup → (fast σ).lookup x = some d → σ.lookup x = some (.val d)
  | [], _, _, _, h => by cases h
  | (y, b) :: σ, x, d, nd, h => by
    rw [List.map_cons, List.nodup_cons] at nd
    rw [List.lookup_cons]
    cases hx : x == y with
    | true =>
      have e := eq_of_beq hx
      subst e
      have dead : (fast σ).lookup x = some d → False := fun q => by
        have := fast_lookup nd.2 q
        exact nd.1 (List.mem_map_of_mem (f := (·.1)) (lookup_mem this))
      cases b with
      | val d' =>
        have h : List.lookup x ((x, d') :: fast σ) = some d := h
        rw [List.lookup_cons, beq_self_eq_true] at h; cases h; rfl
      | ml l => exact (dead h).elim
      | md l => exact (dead h).elim
    | false =>
      cases b with
      | val d' =>
        have h : List.lookup x ((y, d') :: fast σ) = some d := h
        rw [List.lookup_cons, hx] at h; exact fast_lookup nd.2 h
      | ml l => exact fast_lookup nd.2 h
      | md l => exact fast_lookup nd.2 h
theorem allV_lookup : ∀ {σ : Sg} {x : Str} {d : D}, (σ.map (·.1)).Nodup → (allV σ).lookup x = some d → σ.lookup x = some (.val d) ∨ ∃ l, d = .list l ∧ σ.lookup x = some (.ml l)
  | [], _, _, _, h => by cases h
  | (y, b) :: σ, x, d, nd, h => by
    rw [List.map_cons, List.nodup_cons] at nd
    rw [List.lookup_cons]
    cases hx : x == y with
    | true =>
      have e := eq_of_beq hx
      subst e
      have dead : (allV σ).lookup x = some d → False := fun q => by
        rcases allV_lookup nd.2 q with this | ⟨l, _, this⟩
        · exact nd.1 (List.mem_map_of_mem (f := (·.1)) (lookup_mem this))
        · exact nd.1 (List.mem_map_of_mem (f := (·.1)) (lookup_mem this))
      cases b with
      | val d' =>
        have h : List.lookup x ((x, d') :: allV σ) = some d := h
        rw [List.lookup_cons, beq_self_eq_true] at h; cases h; exact .inl rfl
      | ml l =>
        have h : List.lookup x ((x, D.list l) :: allV σ) = some d := h
        rw [List.lookup_cons, beq_self_eq_true] at h; cases h; exact .inr ⟨l, rfl, rfl⟩
      | md l => exact (dead h).elim
    | false =>
      cases b with
      | val d' =>
        have h : List.lookup x ((y, d') :: allV σ) = some d := h
        rw [List.lookup_cons, hx] at h; exact allV_lookup nd.2 h
      | ml l =>
        have h : List.lookup x ((y, D.list l) :: allV σ) = some d := h
        rw [List.lookup_cons, hx] at h; exact allV_lookup nd.2 h
      | md l => exact allV_lookup nd.2 h

theorem FrOK.envOK (x : FrOK env sc fl hid0) : EnvOK env sc where
  kind := by rw [x.scope]; exact x.kind
  gl := x.gl
  bl := x.bl
  glob := fun y e => by unfold Env.kindOf; rw [x.scope]; exact e
  cell := fun y e => ⟨by unfold Env.kindOf; rw [x.scope]; exact e, x.cells y e⟩

theorem FS.here (x : FS prog w base A fl hid0 env sc σ mad h) (r : Rm A n) : Here base A fl (mad ++ (own env ++ hid0)) env sc (fast σ) n h where
  rm := r
  cx := x.cx
  en := x.ok.envOK
  vs := fun y d e => x.vars y _ (fast_lookup x.nd e)
  cl := fun y c e => List.mem_append_right _ (List.mem_append_left _ (own_cell e))

theorem Cx.less {hid hid' : List Addr} (c : Cx base A fl hid h) (s : ∀ a ∈ hid', a ∈ hid) (f : ∀ a ∈ faOf fl, a ∈ hid') : Cx base A fl hid' h where
  fr := c.fr
  hd := c.hd
  ff := c.ff
  stays := c.stays
  fhid := f
  live := fun a ha => c.live a (s a ha)
  nob := fun a ha => c.nob a (s a ha)

theorem FS.hereAll (x : FS prog w base A fl hid0 env sc σ mad h) (r : Rm A n) : Here base A fl (own env ++ hid0) env sc (allV σ) n h where
  rm := r
  cx := x.cx.less (fun a ha => List.mem_append_right _ ha) x.ok.fin
  en := x.ok.envOK
  vs := fun y d e => by
    have le : PH.le (Vw h (mad ++ (own env ++ hid0))) (Vw h (own env ++ hid0)) := Vw.less fun a ha => List.mem_append_right _ ha
    rcases allV_lookup x.nd e with q | ⟨l, rfl, q⟩
    · refine el_EAT (x.vars y _ q) fun v h1 h2 => ?_
      exact ⟨v, h1, Rep.mono le h2⟩
    · refine el_EAEEEAAAT (x.vars y _ q) fun v h1 a vs k hr5 ha ho r => ?_
      subst hr5
      exact ⟨_, h1, rep_of_isList ho (x.out a ha) (r.mono le)⟩
  cl := fun y c e => List.mem_append_left _ (own_cell e)

theorem setS_lookup {x y : Str} {b : B} : ∀ {σ : Sg}, (setS x b σ).lookup y = if y = x then some b else σ.lookup y
  | [] => by
    by_cases h : y = x
    · subst h; simp [setS, List.lookup]
    · have : (y == x) = false := by simpa using h
      simp [setS, List.lookup, this, h]
  | (z, c) :: σ => by
    unfold setS
    by_cases hz : x = z
    · subst hz
      rw [if_pos rfl, List.lookup_cons, List.lookup_cons]
      by_cases h : y = x
      · subst h; simp
      · have : (y == x) = false := by simpa using h
        simp [this, h]
    · rw [if_neg hz, List.lookup_cons, List.lookup_cons]
      by_cases h : y = z
      · subst h
        rw [if_neg (Ne.symm hz)]; simp
      · have : (y == z) = false := by simpa using h
        rw [this]; exact setS_lookup
theorem setS_keys {x y : Str} {b : B} : ∀ {σ : Sg}, y ∈ (setS x b σ).map (·.1) → y = x ∨ y ∈ σ.map (·.1)
  | [], h => by simp [setS] at h; exact .inl h
  | (z, c) :: σ, h => by
    unfold setS at h
    by_cases hz : x = z
    · rw [if_pos hz] at h
      exact .inr h
    · rw [if_neg hz, List.map_cons, List.mem_cons] at h
      rcases h with h | h
      · exact .inr (by simp [h])
      · rcases setS_keys h with h | h
        · exact .inl h
        · exact .inr (by rw [List.map_cons]; exact List.mem_cons_of_mem _ h)
theorem setS_nodup {x : Str} {b : B} : ∀ {σ : Sg}, (σ.map (·.1)).Nodup → ((setS x b σ).map (·.1)).Nodup
  | [], _ => by simp [setS]
  | (z, c) :: σ, h => by
    unfold setS
    by_cases hz : x = z
    · rw [if_pos hz]; exact h
    · rw [if_neg hz, List.map_cons, List.nodup_cons]
      rw [List.map_cons, List.nodup_cons] at h
      exact ⟨fun q => by
        rcases setS_keys q with q | q
        · exact hz q.symm
        · exact h.1 q, setS_nodup h.2⟩

theorem FrOK.so (x : FrOK env sc fl hid0) (ns : ∃ m, h.Ns env.locals m) (cl : ∀ y c, env.cells.lookup y = some c → ∃ v, h.IsCell c v) : SO env (own env) h :=
  ⟨by rw [x.scope]; exact x.kind, ns, own_locals env, fun y c e => x.apart y c e, fun y c e _ => cl y c e⟩
theorem FS.so (x : FS prog w base A fl hid0 env sc σ mad h) : SO env (own env) h := x.ok.so x.ns x.cl
theorem FrOK.st (x : FrOK env sc fl hid0) {y : Str} (s : storable sc y = true) : StOf env (own env) y := by
  unfold storable at s
  rcases (Bool.or_eq_true _ _).mp s with s | s
  · exact .inl (by unfold Env.kindOf; rw [x.scope]; simpa using s)
  · have s : sc.names.lookup y = some .cell := by simpa using s
    refine el_ET (x.cells y s) fun c hc => ?_
    exact .inr ⟨by unfold Env.kindOf; rw [x.scope]; exact s, c, hc, own_cell hc, fun z hz => x.inj _ _ _ hz hc⟩

theorem FS.set1 (x : FS prog w base A fl hid0 env sc σ mad h) {y : Str} {v : Value} {b : B} (B : Bound (faOf fl) (own env) env [(y, v)] h h') (hb : Holds prog w h (mad ++ (own env ++ hid0)) mad v b)
    (nw : b.mut = true → ∀ z b', σ.lookup z = some b' → b'.mut = true → ¬ Var h env z v) : FS prog w base A fl hid0 env sc (setS y b σ) mad h' := by
  have oh : ∀ a ∈ own env, a ∈ mad ++ (own env ++ hid0) := fun a ha => by simp only [List.mem_append]; exact .inr (.inl ha)
  have cellLive : ∀ z c, env.cells.lookup z = some c → ∃ v, h'.IsCell c v := fun z c e => B.so.cell z c e (own_cell e)
  have liveOwn : ∀ a ∈ own env, ∃ o, h'.get? a = some o := fun a ha => by
    rcases List.mem_cons.mp ha with rfl | ha
    · obtain ⟨m, o, es, ep, e, _⟩ := B.so.ns; exact ⟨o, e⟩
    · obtain ⟨⟨z, c⟩, hz, rfl⟩ := List.mem_map.mp ha
      have : ∃ c', env.cells.lookup z = some c' ∧ c' = c := by
        have nd := x.ok.nd
        revert hz nd
        generalize env.cells = cs
        intro hz nd
        induction cs with
        | nil => cases hz
        | cons p cs ih =>
          obtain ⟨u, d⟩ := p
          rw [List.map_cons, List.nodup_cons] at nd
          rw [List.lookup_cons]
          rcases List.mem_cons.mp hz with q | q
          · cases q; exact ⟨_, by simp, rfl⟩
          · have : (z == u) = false := by
              simp only [beq_eq_false_iff_ne, ne_eq]
              rintro rfl
              exact nd.1 (List.mem_map_of_mem (f := (·.1)) q)
            rw [this]; exact ih q nd.2
      obtain ⟨c', e, rfl⟩ := this
      obtain ⟨v, o, e', _⟩ := cellLive z c' e
      exact ⟨o, e'⟩
  have g := B.gr
  have le : PH.le (Vw h (mad ++ (own env ++ hid0))) (Vw h' (mad ++ (own env ++ hid0))) := Vw.grow g oh fun a ha => x.cx.fhid a ha
  have keepMad : ∀ a o, a ∈ mad → h.get? a = some o → h'.get? a = some o := fun a o ha e => (g a o e fun q => x.out a ha (List.mem_append_left _ q)).2 (x.faMad ha)
  have old : ∀ z u, z ≠ y → Var h env z u → Var h' env z u := fun z u hz hv => B.keep z u (by
    have : (z == y) = false := by simpa using hz
    simp [List.lookup, this]) hv
  have new : Var h' env y v := B.var y v (by simp [List.lookup])
  refine ⟨x.ok, ?_, B.so.ns, cellLive, x.out, setS_nodup x.nd, fun z b' e => ?_, fun z z' c c' a e1 e2 m1 m2 v1 v2 => ?_⟩
  · have c := x.cx
    refine ⟨c.fr, c.hd, ?_, g.stays c.stays (fun a ha => c.nob a (oh a ha)) fun a ha => c.nob a (c.fhid a ha), c.fhid, fun a ha => ?_, c.nob⟩
    · -- frames stand
      have key : ∀ l : List Env, (∀ e ∈ l, ∀ L, e.frame = some L → L ≠ env.locals → L ∉ own env) → h.FunFrames base l → h'.FunFrames base l := fun l => by
        induction l with
        | nil => exact fun _ _ => trivial
        | cons e l ih =>
          intro hl hf
          obtain ⟨hk, ⟨L, o, hL, hn, ho, hd⟩, hr⟩ := hf
          refine ⟨hk, ?_, ih (fun e' he' => hl e' (List.mem_cons_of_mem _ he')) hr⟩
          by_cases q : L = env.locals
          · subst q
            obtain ⟨m, o', es, ep, e', hd', _⟩ := B.so.ns
            exact ⟨_, o', hL, hn, e', fun vs q => by rw [hd'] at q; cases q⟩
          · obtain ⟨⟨sl, e'⟩, _⟩ := g L o ho (hl e List.mem_cons_self L hL q)
            exact ⟨L, _, hL, hn, e', hd⟩
      refine key fl (fun e he L hL hne hm => ?_) c.ff
      rcases List.mem_cons.mp hm with q | q
      · exact hne q
      · obtain ⟨⟨z, cc⟩, hz, rfl⟩ := List.mem_map.mp q
        -- a frame is no cell
        have hmem : cc ∈ faOf fl := List.mem_filterMap.mpr ⟨e, he, hL⟩
        obtain ⟨_, o, ho, hnf⟩ := c.ff.mem hmem
        exact (x.ok.cnf _ _ hz hmem).elim
    · rcases List.mem_append.mp ha with q | q
      · obtain ⟨o, e⟩ := c.live a ha
        exact ⟨o, keepMad a o q e⟩
      · rcases List.mem_append.mp q with q | q
        · exact liveOwn a q
        · by_cases w : a ∈ own env
          · exact liveOwn a w
          · exact g.alive w (c.live a ha)
  · rw [setS_lookup] at e
    by_cases hz : z = y
    · subst hz
      rw [if_pos rfl] at e
      cases e
      refine ⟨v, new, hb.grow le (fun a ha _ _ => ha) fun a o e m e' => ?_⟩
      obtain ⟨a', e1, ha⟩ := hb.ref m
      rw [e] at e1; cases e1
      exact keepMad a o ha e'
    · rw [if_neg hz] at e
      obtain ⟨u, h1, h2⟩ := x.vars z b' e
      refine ⟨u, old z u hz h1, h2.grow le (fun a ha _ _ => ha) fun a o e m e' => ?_⟩
      obtain ⟨a', e1, ha⟩ := h2.ref m
      rw [e] at e1; cases e1
      exact keepMad a o ha e'
  · rw [setS_lookup] at e1 e2
    by_cases h1 : z = y <;> by_cases h2 : z' = y
    · rw [h1, h2]
    · subst h1
      rw [if_pos rfl] at e1
      rw [if_neg h2] at e2
      cases e1
      obtain ⟨u2, p2, _⟩ := x.vars z' c' e2
      have q1 := new.uniq v1
      have q2 := (old z' u2 h2 p2).uniq v2
      subst q1; subst q2
      exact (nw m1 z' c' e2 m2 p2).elim
    · subst h2
      rw [if_pos rfl] at e2
      rw [if_neg h1] at e1
      cases e2
      obtain ⟨u2, p2, _⟩ := x.vars z c e1
      have q1 := new.uniq v2
      have q2 := (old z u2 h1 p2).uniq v1
      subst q1; subst q2
      exact (nw m2 z c e1 m1 p2).elim
    · rw [if_neg h1] at e1
      rw [if_neg h2] at e2
      obtain ⟨u1, p1, _⟩ := x.vars z c e1
      obtain ⟨u2, p2, _⟩ := x.vars z' c' e2
      have q1 := (old z u1 h1 p1).uniq v1
      have q2 := (old z' u2 h2 p2).uniq v2
      subst q1; subst q2
      exact x.inj z z' c c' a e1 e2 m1 m2 p1 p2
end
end Mine
end
section
namespace Mine

section
variable {prog : Program} {w : World} {base : Heap} {A : Around} {fl : List Env} {hid0 : List Addr} {env : Env} {sc : Scope} {σ : Sg} {mad : List Addr} {h h' : Heap} {n : Nat}

theorem freeze_keys {ns : List Str} : ∀ {σ : Sg}, (freeze ns σ).map (·.1) = σ.map (·.1)
  | [] => rfl
  | (x, .val d) :: _ => congrArg (List.cons x) freeze_keys
  | (x, .ml l) :: _ => congrArg (List.cons x) freeze_keys
  | (x, .md l) :: _ => congrArg (List.cons x) freeze_keys

noncomputable def fz (c : Bool) : B → B
  | .val d => .val d
  | .ml l => if c then .val (.list l) else .ml l
  | .md l => if c then .val (.dict l) else .md l
theorem freeze_lookup {ns : List Str} {x : Str} : ∀ {σ : Sg}, (freeze ns σ).lookup x = (σ.lookup x).map (fz (ns.contains x))
  | [] => rfl
  | (y, b) :: r => by
    have ih := @freeze_lookup ns x r
    cases hx : x == y with
    | true =>
      have e := eq_of_beq hx
      subst e
      cases b <;> (show List.lookup x ((x, _) :: _) = (List.lookup x ((x, _) :: _)).map _; rw [List.lookup_cons, List.lookup_cons, beq_self_eq_true]; rfl)
    | false => cases b <;> (show List.lookup x ((y, _) :: freeze ns r) = (List.lookup x ((y, _) :: r)).map _; rw [List.lookup_cons, List.lookup_cons, hx]; exact ih)

theorem repE_of {ρ : PH} : ∀ {l : Vs} {kvs : List (Str × Value)} {es : List DictEntry}, KwR ρ l kvs → PySem.Pairs (strKind prog w) es kvs → RepE ρ l es
  | [], kvs, es, r, p => by
    have r : kvs = [] := r
    subst r
    cases p
    exact rfl
  | (x, d) :: l, kvs, es, r, p => by
    refine el_EEAAT (r) fun v t hr2 r1 r2 => ?_
    subst hr2
    cases p with
    | cons p1 p2 p3 =>
      refine el_ET (Value.isStrOf_shape p1) fun t ht => ?_
      exact Exists.intro _ ⟨t, _, rfl, ht, by rw [p2]; exact r1, repE_of r2 p3⟩

theorem FS.freeze (x : FS prog w base A fl hid0 env sc σ mad h) (ns : List Str) : ∃ mad', (∀ a ∈ mad', a ∈ mad) ∧ FS prog w base A fl hid0 env sc (freeze ns σ) mad' h := by
  classical
  let gone : Addr → Prop := fun a => ∃ y b, σ.lookup y = some b ∧ b.mut = true ∧ ns.contains y = true ∧ Var h env y (.ref a)
  refine ⟨mad.filter fun a => decide (¬ gone a), fun a ha => (List.mem_filter.mp ha).1, ?_⟩
  have sub : ∀ a ∈ mad.filter fun a => decide (¬ gone a), a ∈ mad := fun a ha => (List.mem_filter.mp ha).1
  have sub' : ∀ a ∈ (mad.filter fun a => decide (¬ gone a)) ++ (own env ++ hid0), a ∈ mad ++ (own env ++ hid0) := fun a ha => by
    rcases List.mem_append.mp ha with q | q
    · exact List.mem_append_left _ (sub a q)
    · exact List.mem_append_right _ q
  have le : PH.le (Vw h (mad ++ (own env ++ hid0))) (Vw h ((mad.filter fun a => decide (¬ gone a)) ++ (own env ++ hid0))) := Vw.less sub'
  have nin : ∀ {y b a}, σ.lookup y = some b → b.mut = true → ns.contains y = true → Var h env y (.ref a) → a ∈ mad → a ∉ (mad.filter fun a => decide (¬ gone a)) ++ (own env ++ hid0) := fun {y b a} e m c v ha q => by
    rcases List.mem_append.mp q with q | q
    · have := (List.mem_filter.mp q).2
      simp only [decide_eq_true_eq] at this
      exact this ⟨y, b, e, m, c, v⟩
    · exact x.out a ha q
  refine ⟨x.ok, x.cx.less sub' (fun a ha => List.mem_append_right _ (x.ok.fin a ha)), x.ns, x.cl, fun a ha => x.out a (sub a ha), by rw [freeze_keys]; exact x.nd, fun y b e => ?_, fun y z b b' a e1 e2 m1 m2 v1 v2 => ?_⟩
  · rw [freeze_lookup] at e
    refine el_EAT (Option.map_eq_some_iff.mp e) fun b₀ e₀ hr2 => ?_
    subst hr2
    refine el_EAT (x.vars y b₀ e₀) fun v h1 h2 => ?_
    refine ⟨v, h1, ?_⟩
    cases hc : ns.contains y with
    | true =>
      cases b₀ with
      | val d => exact Rep.mono le h2
      | ml l =>
        refine el_EEEAAAT (h2) fun a vs k hr3 ha ho r => ?_
        subst hr3
        exact rep_of_isList ho (nin e₀ rfl hc h1 ha) (r.mono le)
      | md l =>
        refine el_EEAAAAT (h2) fun a kvs hr2 ha hy hn5 r => ?_
        subst hr2
        obtain ⟨o, es, ep, ho, hx, hd, hk, hp, hn⟩ := hn5
        exact rep_dict.mpr ⟨a, o, es, ep, rfl, Vw.mk ho (nin e₀ rfl hc h1 ha), ⟨hx.1, hx.2.1, hy⟩, hd, repE_of (KwR.mono le r) hp⟩
    | false =>
      have : fz false b₀ = b₀ := by cases b₀ <;> rfl
      rw [this]
      refine h2.grow le (fun a ha m e => List.mem_filter.mpr ⟨ha, ?_⟩) fun a o _ _ e => e
      simp only [decide_eq_true_eq]
      rintro ⟨z, b', e', m', c', v'⟩
      subst e
      have := x.inj y z b₀ b' a e₀ e' m m' h1 v'
      subst this
      rw [hc] at c'; cases c'
  · rw [freeze_lookup] at e1 e2
    refine el_EAT (Option.map_eq_some_iff.mp e1) fun b₁ e₁ hr2 => ?_
    subst hr2
    refine el_EAT (Option.map_eq_some_iff.mp e2) fun b₂ e₂ hr2 => ?_
    subst hr2
    have mm : ∀ {c : Bool} {b : B}, (fz c b).mut = true → b.mut = true := fun {c b} q => by
      cases b <;> cases c <;> first | rfl | cases q
    exact x.inj y z b₁ b₂ a e₁ e₂ (mm m1) (mm m2) v1 v2

theorem FS.mutate (x : FS prog w base A fl hid0 env sc σ mad h) {y : Str} {a : Addr} {b b' : B} (hs : Heap.SameBut a h h') (ha : a ∈ mad) (e : σ.lookup y = some b) (m : b.mut = true) (m' : b'.mut = true) (v : Var h env y (.ref a))
    (lv : ∃ o, h'.get? a = some o) (hb : Holds prog w h' (mad ++ (own env ++ hid0)) mad (.ref a) b') : FS prog w base A fl hid0 env sc (setS y b' σ) mad h' := by
  have g : Gr (faOf fl) [a] h h' := Gr.sameBut hs
  have hid : ∀ c ∈ [a], c ∈ mad ++ (own env ++ hid0) := fun c hc => by rw [List.mem_singleton.mp hc]; exact List.mem_append_left _ ha
  have no : ∀ c ∈ own env ++ hid0, c ≠ a := fun c hc q => x.out a ha (q ▸ hc)
  have keepV : ∀ {z u}, Var h env z u → Var h' env z u := fun hv => hv.grow g (by simpa using no _ (List.mem_append_left _ (own_locals env))) fun z c e => by simpa using no _ (List.mem_append_left _ (own_cell e))
  have le : PH.le (Vw h (mad ++ (own env ++ hid0))) (Vw h' (mad ++ (own env ++ hid0))) := Vw.grow g hid fun c hc => x.cx.fhid c hc
  refine ⟨x.ok, x.cx.growW g hid (fun c hc => ?_) (fun c hc => ?_), ?_, fun z c e => ?_, x.out, setS_nodup x.nd, fun z c e' => ?_, fun z z' c c' d e1 e2 m1 m2 v1 v2 => ?_⟩
  · simpa using no _ (x.ok.fin c hc)
  · rw [List.mem_singleton.mp hc]; exact lv
  · refine el_ET (x.ns) fun mm hm => ?_
    exact ⟨mm, g.ns (by simpa using no _ (List.mem_append_left _ (own_locals env))) hm⟩
  · refine el_ET (x.cl z c e) fun u hu => ?_
    exact ⟨u, g.cell (by simpa using no _ (List.mem_append_left _ (own_cell e))) hu⟩
  · rw [setS_lookup] at e'
    by_cases hz : z = y
    · subst hz
      rw [if_pos rfl] at e'
      cases e'
      exact ⟨_, keepV v, hb⟩
    · rw [if_neg hz] at e'
      refine el_EAT (x.vars z c e') fun u h1 h2 => ?_
      refine ⟨u, keepV h1, h2.grow le (fun a ha _ _ => ha) fun d o eu mc e'' => ?_⟩
      subst eu
      refine hs.extBut d o (fun q => ?_) e''
      subst q
      exact hz (x.inj z y c b d e' e mc m h1 v)
  · rw [setS_lookup] at e1 e2
    have back : ∀ {z c u}, σ.lookup z = some c → Var h' env z u → Var h env z u := fun {z c u} e1 hv => by
      refine el_EAT (x.vars z c e1) fun u' p _ => ?_
      rw [(keepV p).uniq hv] at p; exact p
    have fix : ∀ {z c}, (if z = y then some b' else σ.lookup z) = some c → c.mut = true → ∃ c', σ.lookup z = some c' ∧ c'.mut = true := fun {z c} q mc => by
      by_cases hz : z = y
      · subst hz; exact ⟨b, e, m⟩
      · rw [if_neg hz] at q; exact ⟨c, q, mc⟩
    refine el_EAT (fix e1 m1) fun c₁ q1 r1 => ?_
    refine el_EAT (fix e2 m2) fun c₂ q2 r2 => ?_
    exact x.inj z z' c₁ c₂ d q1 q2 r1 r2 (back q1 v1) (back q2 v2)

theorem FS.hide (x : FS prog w base A fl hid0 env sc σ mad h) {o : Obj} (ho : o.isFreed = false) : FS prog w base A fl hid0 env sc σ (h.objs.size :: mad) (h.push o) := by
  have g : Gr (faOf fl) [] h (h.push o) := Gr.push _
  have y := x.grow g
  have dead : h.get? h.objs.size = none := Heap.get?_none_of_le (Nat.le_refl _)
  have le : PH.le (Vw h (mad ++ (own env ++ hid0))) (Vw (h.push o) (h.objs.size :: mad ++ (own env ++ hid0))) := by
    have := le_dead (ex := [h.objs.size]) g x.cx.fhid (fun b hb => by rw [List.mem_singleton.mp hb]; exact dead)
    simpa using this
  refine ⟨x.ok, ?_, y.ns, y.cl, fun a ha => ?_, x.nd, fun z b e => ?_, y.inj⟩
  · have := y.cx.more (ex := [h.objs.size]) (fun a ha => ⟨o, by rw [List.mem_singleton.mp ha]; exact Heap.get?_push_size _ ho⟩) (fun a ha => by rw [List.mem_singleton.mp ha]; exact x.cx.new dead)
    simpa using this
  · rcases List.mem_cons.mp ha with rfl | ha
    · exact fun q => x.cx.fresh dead (List.mem_append_right _ q)
    · exact x.out a ha
  · refine el_EAT (x.vars z b e) fun v h1 h2 => ?_
    refine ⟨v, h1.grow0 g, h2.grow le (fun a ha _ _ => List.mem_cons_of_mem _ ha) fun a o' _ _ e' => Heap.get?_push_of_some _ e'⟩

theorem FS.bare (x : FS prog w base A fl hid0 env sc σ mad h) : FS prog w base A fl hid0 env sc [] [] h where
  ok := x.ok
  cx := x.cx.less (fun a ha => by simpa using .inr (by simpa using ha)) (fun a ha => by simpa using x.ok.fin a ha)
  ns := x.ns
  cl := x.cl
  out := by simp
  nd := List.nodup_nil
  vars := fun y b e => by cases e
  inj := fun y z b b' a e => by cases e

theorem FS.below (x : FS prog w base A fl hid0 env sc σ mad h) {wr : List Addr} (g : Gr (faOf fl) [] h h') (nw : ∀ b ∈ wr, h.get? b = none) (lv : ∀ b ∈ wr, ∃ o, h'.get? b = some o) : FS prog w base A fl (wr ++ hid0) env sc σ mad h' := by
  have y := x.grow g
  have pm : ∀ a, a ∈ mad ++ (own env ++ (wr ++ hid0)) ↔ a ∈ wr ++ (mad ++ (own env ++ hid0)) := fun a => by
    simp only [List.mem_append]
    constructor
    · rintro (q | q | q | q) <;> simp [q]
    · rintro (q | q | q | q) <;> simp [q]
  have le : PH.le (Vw h (mad ++ (own env ++ hid0))) (Vw h' (mad ++ (own env ++ (wr ++ hid0)))) := by
    rw [Vw.perm pm]
    exact le_dead g x.cx.fhid nw
  refine ⟨⟨x.ok.scope, x.ok.kind, x.ok.gl, x.ok.bl, x.ok.fr, x.ok.top, x.ok.cells, x.ok.inj, x.ok.apart, x.ok.nd, fun a ha => ?_, x.ok.cnf⟩, ?_, y.ns, y.cl, fun a ha q => ?_, x.nd, fun z b e => ?_, y.inj⟩
  · have := x.ok.fin a ha
    simp only [List.mem_append] at this ⊢
    rcases this with q | q
    · exact .inl q
    · exact .inr (.inr q)
  · refine (y.cx.more (ex := wr) lv fun a ha => x.cx.new (nw a ha)).less (fun a ha => (pm a).mp ha) fun a ha => (pm a).mpr ?_
    exact List.mem_append_right _ (x.cx.fhid a ha)
  · have := x.out a ha
    simp only [List.mem_append] at this q
    rcases q with q | q | q
    · exact this (.inl q)
    · have := nw a q
      refine el_ET (x.cx.live a (List.mem_append_left _ ha)) fun o e => ?_
      rw [e] at this; cases this
    · exact this (.inr q)
  · refine el_EAT (x.vars z b e) fun v h1 h2 => ?_
    refine ⟨v, h1.grow0 g, h2.grow le (fun a ha _ _ => ha) fun a o e1 m e' => ?_⟩
    refine el_EAT (h2.ref m) fun a' q ha => ?_
    rw [e1] at q; cases q
    exact (g a o e' (by simp)).2 (x.faMad ha)
theorem FS.above {wr : List Addr} (x : FS prog w base A fl (wr ++ hid0) env sc σ mad h) (f : ∀ a ∈ faOf fl, a ∈ own env ++ hid0) : FS prog w base A fl hid0 env sc σ mad h := by
  have sub : ∀ a ∈ mad ++ (own env ++ hid0), a ∈ mad ++ (own env ++ (wr ++ hid0)) := fun a ha => by
    simp only [List.mem_append] at ha ⊢
    rcases ha with q | q | q <;> simp [q]
  refine ⟨⟨x.ok.scope, x.ok.kind, x.ok.gl, x.ok.bl, x.ok.fr, x.ok.top, x.ok.cells, x.ok.inj, x.ok.apart, x.ok.nd, f, x.ok.cnf⟩, x.cx.less sub fun a ha => List.mem_append_right _ (f a ha), x.ns, x.cl, fun a ha q => x.out a ha ?_, x.nd, fun z b e => ?_, x.inj⟩
  · simp only [List.mem_append] at q ⊢
    rcases q with q | q <;> simp [q]
  · refine el_EAT (x.vars z b e) fun v h1 h2 => ?_
    exact ⟨v, h1, h2.grow (Vw.less sub) (fun a ha _ _ => ha) fun a o _ _ e' => e'⟩
end
end Mine
end
section
namespace Mine

structure Stp (fl : List Env) (env : Env) (mad : List Addr) (h : Heap) (mad' : List Addr) (h' : Heap) (nm : Prop) : Prop where
  gr : Gr (faOf fl) (mad ++ own env) h h'
  al : ∀ a o, h.get? a = some o → ∃ o', h'.get? a = some o'
  sub : ∀ a ∈ mad', a ∈ mad ∨ h.get? a = none
  nm : nm → ∀ a ∈ mad', a ∈ mad

section
variable {fl : List Env} {env : Env} {mad mad₁ mad' : List Addr} {h h₁ h' : Heap} {nm : Prop}
theorem Stp.trans (x : Stp fl env mad h mad₁ h₁ nm) (y : Stp fl env mad₁ h₁ mad' h' nm) : Stp fl env mad h mad' h' nm where
  gr := fun b o e n => by
    refine el_AT (x.gr b o e n) fun hn0 k₁ => ?_
    obtain ⟨sl, e₁⟩ := hn0
    have n₁ : b ∉ mad₁ ++ own env := fun q => by
      rcases List.mem_append.mp q with q | q
      · rcases x.sub b q with q | q
        · exact n (List.mem_append_left _ q)
        · rw [e] at q; cases q
      · exact n (List.mem_append_right _ q)
    refine el_AT (y.gr b _ e₁ n₁) fun hn0 _ => ?_
    obtain ⟨sl₂, e₂⟩ := hn0
    exact ⟨⟨sl₂, e₂⟩, fun q => (y.gr b o (k₁ q) n₁).2 q⟩
  al := fun a o e => by obtain ⟨o', e'⟩ := x.al a o e; exact y.al a o' e'
  sub := fun a ha => by
    rcases y.sub a ha with q | q
    · exact x.sub a q
    · right
      cases z : h.get? a with
      | none => rfl
      | some o => obtain ⟨o', e'⟩ := x.al a o z; rw [q] at e'; cases e'
  nm := fun q a ha => x.nm q a (y.nm q a ha)
theorem Stp.refl : Stp fl env mad h mad h nm := ⟨Gr.refl _ _ _, fun _ o e => ⟨o, e⟩, fun _ q => .inl q, fun _ _ q => q⟩
theorem Stp.ofGr (g : Gr (faOf fl) [] h h') : Stp fl env mad h mad h' nm := ⟨g.mono (by simp), fun a o e => g.alive (by simp) ⟨o, e⟩, fun _ q => .inl q, fun _ _ q => q⟩
theorem Stp.ofSub (s : ∀ a ∈ mad', a ∈ mad) : Stp fl env mad h mad' h nm := ⟨Gr.refl _ _ _, fun _ o e => ⟨o, e⟩, fun _ q => .inl (s _ q), fun _ => s⟩
theorem Stp.weak {nm' : Prop} (x : Stp fl env mad h mad' h' nm) (k : nm' → nm) : Stp fl env mad h mad' h' nm' := ⟨x.gr, x.al, x.sub, fun q => x.nm (k q)⟩
end

noncomputable def FlR (h : Heap) (hid : List Addr) : Fl → Flow → Prop
  | .next, f => f = .next
  | .brk, f => f = .brk
  | .cont, f => f = .cont
  | .ret d, f => ∃ v, f = .ret v ∧ Rep (Vw h hid) d v

noncomputable def StFin (prog : Program) (w : World) (base : Heap) (A : Around) (fl : List Env) (hid0 : List Addr) (env : Env) (sc : Scope) (mad : List Addr) (s : Shared) (nm : Prop) (r : R (Sg × Fl)) (Q : Flow → Shared → Prop) (E : Value → Shared → Prop) : Prop := match r with
  | .ok p => ∀ f h' tk mad', Stp fl env mad s.heap mad' h' nm → FS prog w base A fl hid0 env sc p.1 mad' h' → FlR h' (mad' ++ (own env ++ hid0)) p.2 f → Q f { s with heap := h', toks := tk }
  | .exc c m => ∀ e h' tk, Xg fl (mad ++ own env) true [.none, rawInt env.locals] s.heap e c m h' → (∀ a o, s.heap.get? a = some o → ∃ o', h'.get? a = some o') → FS prog w base A fl hid0 env sc [] [] h' → E (.ref e) { s with heap := h', toks := tk }
  | .bad => False

section
variable {prog : Program} {w : World} {base : Heap} {A : Around} {fl : List Env} {hid0 : List Addr} {env : Env} {sc : Scope} {σ : Sg} {mad : List Addr} {s : Shared} {n : Nat} {nm : Prop} {F : Fns} {E : Value → Shared → Prop}

theorem StFin.ofR {γ : Type} {o : Option γ} {k : γ → R (Sg × Fl)} {Q : Flow → Shared → Prop} {X : Prop} (f : StFin prog w base A fl hid0 env sc mad s nm ((R.of o).bind k) Q E) (c : ∀ a, o = some a → StFin prog w base A fl hid0 env sc mad s nm (k a) Q E → X) : X := by
  cases o with
  | none => exact f.elim
  | some a => exact c a rfl f
theorem StFin.ite {p : Prop} [Decidable p] {o : R (Sg × Fl)} {Q : Flow → Shared → Prop} {X : Prop} (f : StFin prog w base A fl hid0 env sc mad s nm (if p then o else .bad) Q E) (c : p → StFin prog w base A fl hid0 env sc mad s nm o Q E → X) : X := by
  by_cases h : p
  · rw [if_pos h] at f; exact c h f
  · rw [if_neg h] at f; exact f.elim
theorem StFin.itn {p : Prop} [Decidable p] {o : R (Sg × Fl)} {Q : Flow → Shared → Prop} {X : Prop} (f : StFin prog w base A fl hid0 env sc mad s nm (if p then .bad else o) Q E) (c : ¬ p → StFin prog w base A fl hid0 env sc mad s nm o Q E → X) : X := by
  by_cases h : p
  · rw [if_pos h] at f; exact f.elim
  · rw [if_neg h] at f; exact c h f
theorem StFin.bad {Q : Flow → Shared → Prop} {X : Prop} (f : StFin prog w base A fl hid0 env sc mad s nm .bad Q E) : X := False.elim f

theorem StFin.after {Q : Flow → Shared → Prop} {r : R (Sg × Fl)} {mad' : List Addr} {h' : Heap} {tk : Nat} (f : StFin prog w base A fl hid0 env sc mad s nm r Q E) (p : Stp fl env mad s.heap mad' h' nm) :
    StFin prog w base A fl hid0 env sc mad' { s with heap := h', toks := tk } nm r Q E := by
  cases r with
  | ok q => exact fun g h'' tk' mad'' p' x y => f g h'' tk' mad'' (p.trans p') x y
  | exc c m =>
    refine fun e h'' tk' x al y => f e h'' tk' (x.shift p.gr (fun a ha => ?_) p.al) (fun a o e => ?_) y
    · rcases List.mem_append.mp ha with q | q
      · rcases p.sub a q with q | q
        · exact .inl (List.mem_append_left _ q)
        · exact .inr q
      · exact .inl (List.mem_append_right _ q)
    · refine el_ET (p.al a o e) fun o' e' => ?_
      exact al a o' e'
  | bad => exact f

theorem StFin.weak {Q : Flow → Shared → Prop} {r : R (Sg × Fl)} {nm' : Prop} (f : StFin prog w base A fl hid0 env sc mad s nm r Q E) (k : nm → nm') : StFin prog w base A fl hid0 env sc mad s nm' r Q E := by
  cases r with
  | ok q => exact fun g h'' tk' mad'' p' x y => f g h'' tk' mad'' (p'.weak k) x y
  | exc c m => exact f
  | bad => exact f

theorem StFin.excX {Q : Flow → Shared → Prop} {c : Value} {m : Str} (x : FS prog w base A fl hid0 env sc σ mad s.heap) (f : StFin prog w base A fl hid0 env sc mad s nm (.exc c m) Q E) {e : Addr} {h' : Heap} {tk : Nat} (y : Xc fl s.heap e c m h') :
    E (.ref e) { s with heap := h', toks := tk } :=
  f e h' tk (y.g.mono (by simp) (fun q => q) (by simp)) (fun a o q => y.gr.alive (by simp) ⟨o, q⟩) (x.grow y.gr).bare

theorem ev_step (S : SndE prog w base F n) (x : FS prog w base A fl hid0 env sc σ mad s.heap) (rm : Rm A n) {e : Expr} {k : D → R (Sg × Fl)} {Q : Flow → Shared → Prop} {Q' : Value → Shared → Prop}
    (fin : StFin prog w base A fl hid0 env sc mad s nm ((F.ev sc (fast σ) e).bind k) Q E)
    (K : ∀ d v h' tk, Gr (faOf fl) [] s.heap h' → FS prog w base A fl hid0 env sc σ mad h' → Rep (Vw h' (mad ++ (own env ++ hid0))) d v → StFin prog w base A fl hid0 env sc mad { s with heap := h', toks := tk } nm (k d) Q E → Q' v { s with heap := h', toks := tk }) :
    wpAny (model prog w) A (eval e env) Q' E s := by
  refine S.ev (x.here rm) _ E ?_
  cases hr : F.ev sc (fast σ) e with
  | ok d =>
    rw [hr] at fin
    exact fun v h' tk g r => K d v h' tk g (x.grow g) r (StFin.after (r := k d) fin (Stp.ofGr g))
  | exc c m =>
    rw [hr] at fin
    exact fun e h' tk y => StFin.excX x fin y
  | bad => rw [hr] at fin; exact fin.elim

theorem evT_step (S : SndE prog w base F n) (x : FS prog w base A fl hid0 env sc σ mad s.heap) (rm : Rm A n) {e : Expr} {k : Bool → R (Sg × Fl)} {Q : Flow → Shared → Prop} {Q' : Bool → Shared → Prop}
    (fin : StFin prog w base A fl hid0 env sc mad s nm ((F.evT sc (allV σ) e).bind k) Q E)
    (K : ∀ b h' tk, Gr (faOf fl) [] s.heap h' → FS prog w base A fl hid0 env sc σ mad h' → StFin prog w base A fl hid0 env sc mad { s with heap := h', toks := tk } nm (k b) Q E → Q' b { s with heap := h', toks := tk }) :
    wpAny (model prog w) A (isTrue e env (eval e env)) Q' E s := by
  refine S.evT (x.hereAll rm) _ E ?_
  cases hr : F.evT sc (allV σ) e with
  | ok d =>
    rw [hr] at fin
    intro v h' tk g r
    have r : v = d := r
    subst r
    exact K v h' tk g (x.grow g) (StFin.after (r := k v) fin (Stp.ofGr g))
  | exc c m =>
    rw [hr] at fin
    exact fun e h' tk y => StFin.excX x fin y
  | bad => rw [hr] at fin; exact fin.elim

theorem FS.live (x : FS prog w base A fl hid0 env sc σ mad s.heap) {a : Addr} (ha : a ∈ own env) : ∃ o, s.heap.get? a = some o := x.cx.live a (by simp only [List.mem_append]; exact .inr (.inl ha))
theorem Stp.ofBound {h h' : Heap} {σ' : Sg} (g : Gr (faOf fl) (own env) h h') (y : FS prog w base A fl hid0 env sc σ' mad h') : Stp fl env mad h mad h' nm := by
  refine ⟨g.mono fun a ha => List.mem_append_right _ ha, fun a o e => ?_, fun _ q => .inl q, fun _ _ q => q⟩
  by_cases q : a ∈ own env
  · exact y.cx.live a (by simp only [List.mem_append]; exact .inr (.inl q))
  · exact g.alive q ⟨o, e⟩

theorem put1 (x : FS prog w base A fl hid0 env sc σ mad s.heap) {y : Str} {d : D} {v : Value} (st : storable sc y = true) (r : Rep (Vw s.heap (mad ++ (own env ++ hid0))) d v) {Q : Flow → Shared → Prop} {Q' : Unit → Shared → Prop} {E' : Value → Shared → Prop}
    (fin : StFin prog w base A fl hid0 env sc mad s nm (.ok (setS y (.val d) σ, .next)) Q E) (k : ∀ s', Q .next s' → Q' () s') : wpAny (model prog w) A (storeName env y v) Q' E' s := by
  refine store_more (fa := faOf fl) (bs := []) (Bound.nil x.so (Gr.refl _ _ _)) (x.ok.st st) fun h' tk B => k _ ?_
  have x' := x.set1 (b := .val d) B r (fun q => by cases q)
  exact fin .next h' tk mad (Stp.ofBound B.gr x') x' rfl

theorem ret_snd (S : SndE prog w base F n) (x : FS prog w base A fl hid0 env sc σ mad s.heap) (rm : Rm A n) {e : Expr} {pos : Pos} {Q : Flow → Shared → Prop}
    (fin : StFin prog w base A fl hid0 env sc mad s nm ((F.ev sc (fast (freeze (occ 30 e) σ)) e).bind fun d => .ok (freeze (occ 30 e) σ, .ret d)) Q E) : wpAny (model prog w) A (exec (.Return (some e) pos) env) Q E s := by
  refine el_EAT (x.freeze (occ 30 e)) fun mad' sub x' => ?_
  have fin' := fin.after (tk := s.toks) (Stp.ofSub (h := s.heap) sub)
  refine wpAny_Return_some (ev_step S x' rm fin' fun d v h' tk g y r f => ?_)
  exact f (.ret v) h' tk mad' Stp.refl y ⟨v, rfl, r⟩

theorem if_snd (S : SndE prog w base F n) (x : FS prog w base A fl hid0 env sc σ mad s.heap) (rm : Rm A n) {t : Expr} {a b : List Stmt} {pos : Pos} {Q : Flow → Shared → Prop}
    (IH : ∀ (l : List Stmt) (s' : Shared), (l = a ∨ l = b) → FS prog w base A fl hid0 env sc σ mad s'.heap → StFin prog w base A fl hid0 env sc mad s' nm (F.exs sc σ l) Q E → wpAny (model prog w) A (execs l env) Q E s')
    (fin : StFin prog w base A fl hid0 env sc mad s nm ((F.evT sc (allV σ) t).bind fun c => if c then F.exs sc σ a else F.exs sc σ b) Q E) : wpAny (model prog w) A (exec (.If t a b pos) env) Q E s := by
  refine wpAny_If (evT_step S x rm fin fun c h' tk g y f => ?_)
  cases c with
  | true => exact IH a { s with heap := h', toks := tk } (.inl rfl) y f
  | false => exact IH b { s with heap := h', toks := tk } (.inr rfl) y f

theorem cont_snd (x : FS prog w base A fl hid0 env sc σ mad s.heap) {pos : Pos} {Q : Flow → Shared → Prop} (fin : StFin prog w base A fl hid0 env sc mad s nm (.ok (σ, .cont)) Q E) : wpAny (model prog w) A (exec (.Continue pos) env) Q E s :=
  wpAny_Continue (fin .cont s.heap s.toks mad Stp.refl x rfl)
theorem brk_snd (x : FS prog w base A fl hid0 env sc σ mad s.heap) {pos : Pos} {Q : Flow → Shared → Prop} (fin : StFin prog w base A fl hid0 env sc mad s nm (.ok (σ, .brk)) Q E) : wpAny (model prog w) A (exec (.Break pos) env) Q E s :=
  wpAny_Break (fin .brk s.heap s.toks mad Stp.refl x rfl)

theorem assert_snd (S : SndE prog w base F n) (x : FS prog w base A fl hid0 env sc σ mad s.heap) (rm : Rm A n) {t : Expr} {m : Option Expr} {pos : Pos} {Q : Flow → Shared → Prop}
    (fin : StFin prog w base A fl hid0 env sc mad s nm ((F.evT sc (allV σ) t).bind fun c => if c then .ok (σ, .next) else .bad) Q E) : wpAny (model prog w) A (exec (.Assert t m pos) env) Q E s := by
  rw [arm_exec_Assert]
  refine wpAny_bind (wpAny_standAt (wpAny_bind (evT_step S x rm fin fun c h' tk g y f => ?_)))
  cases c with
  | true => exact wpAny_pure (f .next h' tk mad Stp.refl y rfl)
  | false => exact f.bad

theorem asg_plain (S : SndE prog w base F n) (x : FS prog w base A fl hid0 env sc σ mad s.heap) (rm : Rm A n) {y : Str} {np pos : Pos} {e : Expr} {Q : Flow → Shared → Prop} (st : storable sc y = true)
    (fin : StFin prog w base A fl hid0 env sc mad s nm ((F.ev sc (fast (freeze (occ 30 e) σ)) e).bind fun d => .ok (setS y (.val d) (freeze (occ 30 e) σ), .next)) Q E)
    (hs : swapsWith e (some (.Name y np)) pos.line env = pure false) : wpAny (model prog w) A (exec (.Assign [.Name y np] e pos) env) Q E s := by
  refine el_EAT (x.freeze (occ 30 e)) fun mad' sub x' => ?_
  have fin' := fin.after (tk := s.toks) (Stp.ofSub (h := s.heap) sub)
  refine wpAny_Assign_Name (ev_step S x' rm fin' fun d v h' tk g y r f => ?_) hs
  exact put1 (s := { s with heap := h', toks := tk }) y st r f fun _ q => q

theorem FS.drop {C : Addr} {h h' : Heap} (x : FS prog w base A fl ([C] ++ hid0) env sc σ mad h) (hs : Heap.SameBut C h h') (f : ∀ a ∈ faOf fl, a ∈ own env ++ hid0) (n1 : C ∉ own env) (n2 : C ∉ mad) (n3 : C ∉ faOf fl) (n4 : C ∉ hid0) : FS prog w base A fl hid0 env sc σ mad h' := by
  have g : Gr (faOf fl) [C] h h' := Gr.sameBut hs
  have y := x.above f
  have k : ∀ a o, a ≠ C → h.get? a = some o → h'.get? a = some o := fun a o q e => hs.extBut a o q e
  have nh : C ∉ mad ++ (own env ++ hid0) := fun q => by
    simp only [List.mem_append] at q
    rcases q with q | q | q
    · exact n2 q
    · exact n1 q
    · exact n4 q
  have le : PH.le (Vw h (mad ++ (own env ++ ([C] ++ hid0)))) (Vw h' (mad ++ (own env ++ hid0))) := fun a o e => by
    have ne : a ≠ C := fun q => Vw.nin e (by simp [q])
    refine Vw.mk (k a o ne (Vw.of e)) fun q => Vw.nin e ?_
    simp only [List.mem_append] at q ⊢
    rcases q with q | q | q <;> simp [q]
  have keepV : ∀ {z u}, Var h env z u → Var h' env z u := fun hv => hv.grow g (fun q => n1 (List.mem_singleton.mp q ▸ own_locals env)) fun z c e => fun q => n1 (List.mem_singleton.mp q ▸ own_cell e)
  refine ⟨y.ok, ⟨y.cx.fr, y.cx.hd, g.funFrames y.cx.ff (fun a ha => fun q => n3 (List.mem_singleton.mp q ▸ ha)), ?_, y.cx.fhid, fun a ha => ?_, y.cx.nob⟩, ?_, fun z c e => ?_, y.out, y.nd, fun z b e => ?_, fun z z' b b' a e1 e2 m1 m2 v1 v2 => ?_⟩
  · refine g.stays y.cx.stays (fun a ha => ?_) fun a ha => y.cx.nob a (y.cx.fhid a ha)
    rw [List.mem_singleton.mp ha]
    exact x.cx.nob C (by simp)
  · refine el_ET (y.cx.live a ha) fun o e => ?_
    exact ⟨o, k a o (fun q => nh (q ▸ ha)) e⟩
  · refine el_ET (y.ns) fun m hm => ?_
    exact ⟨m, g.ns (fun q => n1 (List.mem_singleton.mp q ▸ own_locals env)) hm⟩
  · refine el_ET (y.cl z c e) fun v hv => ?_
    exact ⟨v, g.cell (fun q => n1 (List.mem_singleton.mp q ▸ own_cell e)) hv⟩
  · refine el_EAT (x.vars z b e) fun v h1 h2 => ?_
    refine ⟨v, keepV h1, h2.grow le (fun a ha _ _ => ha) fun a o eu m e' => k a o (fun q => ?_) e'⟩
    refine el_EAT (h2.ref m) fun a' q' ha => ?_
    rw [eu] at q'; cases q'
    exact n2 (q ▸ ha)
  · refine el_EAT (x.vars z b e1) fun u1 p1 _ => ?_
    refine el_EAT (x.vars z' b' e2) fun u2 p2 _ => ?_
    have q1 := (keepV p1).uniq v1
    have q2 := (keepV p2).uniq v2
    subst q1; subst q2
    exact x.inj z z' b b' a e1 e2 m1 m2 p1 p2
end

structure SndC (prog : Program) (w : World) (base : Heap) (F : Fns) (n : Nat) : Prop extends SndI prog w base F n where
  cu : ∀ {A : Around} {fl : List Env} {hid : List Addr} {env : Env} {sc csc : Scope} {σ : Vs} {s : Shared} {elt t i : Expr} {ifs : List Expr} {pos : Pos} {use : Option (Value → Sem Unit)} {Q E : Value → Shared → Prop}, Here base A fl hid env sc σ n s.heap →
    FinT fl s (F.ev sc σ (.ListComp elt [⟨t, i, ifs, 0⟩] csc pos)) (PC hid s.heap) (fun p s' => compPost (model prog w) A E use Q p.1 p.2 (.ok .next) s') E →
    wpAny (model prog w) A (comprehension (.ListComp elt [⟨t, i, ifs, 0⟩] csc pos) csc env (firstIterPos [⟨t, i, ifs, 0⟩] pos) (newList []) false (eval i env) use) Q E s

section
variable {prog : Program} {w : World} {base : Heap} {A : Around} {fl : List Env} {hid0 : List Addr} {env : Env} {sc : Scope} {σ : Sg} {mad : List Addr} {s : Shared} {n : Nat} {nm : Prop} {F : Fns} {E : Value → Shared → Prop}

theorem asg_comp (S : SndC prog w base F n) (x : FS prog w base A fl hid0 env sc σ mad s.heap) (rm : Rm A n) {y : Str} {np pos cp : Pos} {elt t i : Expr} {ifs : List Expr} {csc : Scope} {Q : Flow → Shared → Prop} (st : storable sc y = true)
    (fin : StFin prog w base A fl hid0 env sc mad s nm ((F.ev sc (fast σ) (.ListComp elt [⟨t, i, ifs, 0⟩] csc cp)).bind fun d => .ok (setS y (.val d) σ, .next)) Q E)
    (hs : swapsWith (.ListComp elt [⟨t, i, ifs, 0⟩] csc cp) (some (.Name y np)) pos.line env = pure true) : wpAny (model prog w) A (exec (.Assign [.Name y np] (.ListComp elt [⟨t, i, ifs, 0⟩] csc cp) pos) env) Q E s := by
  rw [exec_Assign_Name_used _ _ _ _ hs]
  refine wpAny_bind (wpAny_standAt (wpAny_bind ?_))
  show wpAny _ A (do let _ ← comprehension (.ListComp elt [⟨t, i, ifs, 0⟩] csc cp) csc env _ (newList []) false (eval i env) (some (assign (.Name y np) env))) _ _ s
  refine wpAny_bind (wpAny_mono (S.cu (use := some (assign (.Name y np) env)) (Q := fun _ s' => Q .next s') (E := E) (x.here rm) ?_) (fun _ s' hq => wpAny_pure (wpAny_pure hq)) fun _ _ e => e)
  cases hr : F.ev sc (fast σ) (.ListComp elt [⟨t, i, ifs, 0⟩] csc cp) with
  | bad => rw [hr] at fin; exact fin.elim
  | exc c m => rw [hr] at fin; exact fun e h' tk y => StFin.excX x fin y
  | ok d =>
    rw [hr] at fin
    rintro ⟨v, C⟩ h' tk g ⟨nC, hns, rep⟩
    have lvC : ∃ o, h'.get? C = some o := by obtain ⟨m, o, es, ep, e, _⟩ := hns; exact ⟨o, e⟩
    have xb := x.below (wr := [C]) g (by simpa using nC) (by simpa using lvC)
    have n1 : C ∉ own env := fun q => by obtain ⟨o, e⟩ := x.live q; rw [nC] at e; cases e
    have n2 : C ∉ mad := fun q => x.cx.fresh nC (List.mem_append_left _ q)
    have n3 : C ∉ faOf fl := fun q => x.cx.fresh nC (x.cx.fhid C q)
    have n4 : C ∉ hid0 := fun q => x.cx.fresh nC (by simp [q])
    have pm : ∀ a, a ∈ mad ++ (own env ++ ([C] ++ hid0)) ↔ a ∈ [C] ++ (mad ++ (own env ++ hid0)) := fun a => by
      simp only [List.mem_append]
      constructor
      · rintro (q | q | q | q) <;> simp [q]
      · rintro (q | q | q | q) <;> simp [q]
    show wpAny _ A (assign (.Name y np) env v) _ _ _
    refine wpAny_assign_Name (store_more (s := { s with heap := h', toks := tk }) (fa := faOf fl) (bs := []) (Bound.nil xb.so (Gr.refl _ _ _)) (x.ok.st st) fun h₂ tk₂ B => ?_)
    have x₂ := xb.set1 (b := .val d) B (show Rep (Vw h' (mad ++ (own env ++ ([C] ++ hid0)))) d v by rw [Vw.perm pm]; exact rep) (fun q => by cases q)
    refine el_ET (hns) fun m hm => ?_
    refine ⟨m, B.gr.ns n1 hm, fun h₃ hs₃ => ?_⟩
    have x₃ := x₂.drop hs₃ x.ok.fin n1 n2 n3 n4
    refine fin .next h₃ tk₂ mad ?_ x₃ rfl
    have g₂ : Gr (faOf fl) (mad ++ own env) s.heap h₂ := (g.mono (by simp)).trans (B.gr.mono fun a ha => List.mem_append_right _ ha)
    refine ⟨fun b o e nb => ?_, fun a o e => ?_, fun _ q => .inl q, fun _ _ q => q⟩
    · have ne : b ≠ C := fun q => by rw [q, nC] at e; cases e
      refine el_AT (g₂ b o e nb) fun hn0 k₁ => ?_
      obtain ⟨sl, e₁⟩ := hn0
      exact ⟨⟨sl, hs₃.extBut b _ ne e₁⟩, fun q => hs₃.extBut b _ ne (k₁ q)⟩
    · have ne : a ≠ C := fun q => by rw [q, nC] at e; cases e
      have : ∃ o', h₂.get? a = some o' := by
        by_cases q : a ∈ own env
        · exact x₂.cx.live a (by simp only [List.mem_append]; exact .inr (.inl q))
        · refine el_ET (g.alive (by simp) ⟨o, e⟩) fun o₁ e₁ => ?_
          exact B.gr.alive q ⟨o₁, e₁⟩
      refine el_ET (this) fun o' e' => ?_
      exact ⟨o', hs₃.extBut a _ ne e'⟩

theorem pure_ne {X : Prop} (h : (pure false : Sem Bool) = pure true) : X := by
  injection h with h; cases h
theorem swaps_cases {e : Expr} {y : Str} {np : Pos} {k : Nat} : (∃ b, swapsWith e (some (.Name y np)) k env = pure b) := by
  unfold swapsWith
  cases e <;> exact ⟨_, rfl⟩

theorem swaps_comp {e : Expr} {y : Str} {np : Pos} {k : Nat} (h : oddComp e = false) (hb : swapsWith e (some (.Name y np)) k env = pure true) : ∃ elt t i ifs csc cp, e = .ListComp elt [⟨t, i, ifs, 0⟩] csc cp := by
  cases e with
  | ListComp elt gens csc cp =>
    cases hg : gen1 gens with
    | none => rw [show oddComp (.ListComp elt gens csc cp) = (gen1 gens).isNone from rfl, hg] at h; cases h
    | some q => exact ⟨elt, q.1, q.2.1, q.2.2, csc, cp, by rw [gen1_s (t := q.1) (i := q.2.1) (ifs := q.2.2) hg]⟩
  | SetComp => exact no_true h.symm
  | DictComp => exact no_true h.symm
  | _ => exact pure_ne hb
theorem asg_snd (S : SndC prog w base F n) (x : FS prog w base A fl hid0 env sc σ mad s.heap) (rm : Rm A n) {y : Str} {np pos : Pos} {e : Expr} {Q : Flow → Shared → Prop}
    (fin : StFin prog w base A fl hid0 env sc mad s nm (setNE F sc σ y e) Q E) : wpAny (model prog w) A (exec (.Assign [.Name y np] e pos) env) Q E s := by
  refine StFin.ite fin fun hc fin => ?_
  simp only [Bool.and_eq_true, Bool.not_eq_true'] at hc
  refine el_ET (swaps_cases (env := env) (e := e) (y := y) (np := np) (k := pos.line)) fun b hb => ?_
  cases b with
  | false => exact asg_plain S.toSndE x rm hc.1 fin hb
  | true =>
    refine el_EEEEEET (swaps_comp hc.2 hb) fun elt t i ifs csc cp hr6 => ?_
    subst hr6
    refine el_EAT (x.freeze (occ 30 (.ListComp elt [⟨t, i, ifs, 0⟩] csc cp))) fun mad' sub x' => ?_
    exact asg_comp S x' rm hc.1 (fin.after (tk := s.toks) (Stp.ofSub (h := s.heap) sub)) hb
end
end Mine
end
section
namespace Mine

section
variable {prog : Program} {w : World} {base : Heap} {A : Around} {fl : List Env} {hid0 : List Addr} {env : Env} {sc : Scope} {σ : Sg} {mad : List Addr} {s : Shared} {n : Nat} {nm : Prop} {F : Fns} {E : Value → Shared → Prop}

theorem var_load {x : Str} {pos : Pos} {v : Value} {Q : Value → Shared → Prop} (hk : env.scope.kind = .function) (hv : Var s.heap env x v) (hd : (x == ("__debug__" : Str)) = false) (q : Q v s) : wpAny (model prog w) A (eval (.Name x pos) env) Q E s := by
  rcases hv with ⟨k, m, hn, hm⟩ | ⟨k, c, hc, hv⟩ | ⟨k, hx, c, hc, hv⟩
  · exact wpAny_Name (wpAny_loadName_local hk k hn hm q) hd
  · exact wpAny_Name (wpAny_loadName_cell hk k hc hv q) hd
  · exact wpAny_Name (wpAny_loadName_free hk k hc hv q hx) hd

theorem put_new (x : FS prog w base A fl hid0 env sc σ mad s.heap) {y : Str} {b : B} {o : Obj} (ho : o.isFreed = false) (st : storable sc y = true) (hb : ∀ hid mad', s.heap.objs.size ∈ mad' → Holds prog w (s.heap.push o) hid mad' (.ref s.heap.objs.size) b) (hm : b.mut = true) {Q : Flow → Shared → Prop} {Q' : Unit → Shared → Prop} {E' : Value → Shared → Prop}
    (fin : StFin prog w base A fl hid0 env sc mad s nm (.ok (setS y b σ, .next)) Q E) (no : ¬ nm) (k : ∀ s', Q .next s' → Q' () s') : wpAny (model prog w) A (storeName env y (.ref s.heap.objs.size)) Q' E' { s with heap := s.heap.push o } := by
  have xh := x.hide ho
  refine store_more (s := { s with heap := s.heap.push o }) (fa := faOf fl) (bs := []) (Bound.nil xh.so (Gr.refl _ _ _)) (x.ok.st st) fun h' tk B => k _ ?_
  have x' := xh.set1 (b := b) B (hb _ _ List.mem_cons_self) (fun _ z b' e m v => by
    refine el_EAT (x.vars z b' e) fun u h1 h2 => ?_
    refine el_EAT (h2.ref m) fun a e' ha => ?_
    have := (h1.grow0 (Gr.push (fa := faOf fl) (W := []) o)).uniq v
    rw [e'] at this
    cases this
    refine el_ET (x.cx.live _ (List.mem_append_left _ ha)) fun o' q => ?_
    exact absurd (Heap.lt_size q) (Nat.lt_irrefl _))
  have p1 : Stp fl env mad s.heap (s.heap.objs.size :: mad) (s.heap.push o) nm := ⟨Gr.push _, fun a o' e => ⟨o', Heap.get?_push_of_some _ e⟩, fun a ha => by
    rcases List.mem_cons.mp ha with rfl | ha
    · exact .inr (Heap.get?_none_of_le (Nat.le_refl _))
    · exact .inl ha, fun q => (no q).elim⟩
  exact fin .next h' tk _ (p1.trans (Stp.ofBound B.gr x')) x' rfl

set_option tactic.hygienic true in
theorem newlist_snd (x : FS prog w base A fl hid0 env sc σ mad s.heap) {y : Str} {np pos lp : Pos} {Q : Flow → Shared → Prop} (no : ¬ nm)
    (fin : StFin prog w base A fl hid0 env sc mad s nm (if storable sc y then .ok (setS y (.ml []) σ, .next) else .bad) Q E) : wpAny (model prog w) A (exec (.Assign [.Name y np] (.List [] lp) pos) env) Q E s := by
  split at fin
  · rename_i st
    refine wpAny_Assign_Name (wpAny_List (wpAny_items_nil ⟨Nat.zero_le _, ?_⟩)) rfl
    exact put_new (b := .ml []) x rfl st (fun hid mad' hm => ⟨_, #[], 0, rfl, hm, Heap.get?_push_size _ rfl, reps_nil'⟩) rfl fin no fun _ q => q
  · exact fin.bad
set_option tactic.hygienic true in
theorem newdict_snd (hsys : ∃ a o, sysModules ≤ a ∧ base.get? a = some o) (x : FS prog w base A fl hid0 env sc σ mad s.heap) {y : Str} {np pos lp : Pos} {Q : Flow → Shared → Prop} (no : ¬ nm)
    (fin : StFin prog w base A fl hid0 env sc mad s nm (if storable sc y then .ok (setS y (.md []) σ, .next) else .bad) Q E) : wpAny (model prog w) A (exec (.Assign [.Name y np] (.Dict [] [] lp) pos) env) Q E s := by
  split at fin
  · rename_i st
    refine wpAny_Assign_Name (wpAny_Dict_empty ?_) rfl
    exact put_new (b := .md []) x rfl st (fun hid mad' hm => ⟨_, [], rfl, hm, by
      refine el_EEAT (hsys) fun a' o la e => ?_
      have := x.cx.stays _ _ e
      simpa using (Nat.ne_of_gt (Nat.lt_of_le_of_lt la (Heap.lt_size this))), ⟨_, #[], 0, Heap.get?_push_size _ rfl, ⟨rfl, rfl, rfl⟩, rfl, fun _ he => by simp at he, .nil, List.nodup_nil⟩, rfl⟩) rfl fin no fun _ q => q
  · exact fin.bad

theorem Stp.ofSame {h h' : Heap} {a : Addr} (hs : Heap.SameBut a h h') (ha : a ∈ mad) (lv : ∃ o, h'.get? a = some o) : Stp fl env mad h mad h' nm := by
  refine ⟨(Gr.sameBut hs).mono fun b hb => by rw [List.mem_singleton.mp hb]; exact List.mem_append_left _ ha, fun b o e => ?_, fun _ q => .inl q, fun _ _ q => q⟩
  by_cases q : b = a
  · subst q; exact lv
  · exact ⟨o, hs.extBut b o q e⟩

theorem argsD_one {σv : Vs} {e : Expr} : argsD F sc σv [e] [] = (F.ev sc σv e).bind fun d => .ok ([d], []) := by
  unfold argsD evs
  show ((mapR (F.ev sc σv) [e]).bind fun avs => (R.ok []).map fun kvs => (avs, kvs)) = _
  rw [mapR_c]
  cases F.ev sc σv e <;> rfl

set_option tactic.hygienic true in
theorem append_snd (S : SndE prog w base F n) (x : FS prog w base A fl hid0 env sc σ mad s.heap) (rm : Rm A n) {y : Str} {yp apos pos pos' : Pos} {e : Expr} {l : List D} {Q : Flow → Shared → Prop} (hs : starred e = false) (hd : (y == ("__debug__" : Str)) = false)
    (hl : apos.endLine = pos.line) (hy : σ.lookup y = some (.ml l))
    (fin : StFin prog w base A fl hid0 env sc mad s nm ((F.ev sc (fast (Mine.freeze ((occ 30 e).filter (· != y)) σ)) e).bind fun d => if l.length ≤ big then .ok (setS y (.ml (l ++ [d])) (Mine.freeze ((occ 30 e).filter (· != y)) σ), .next) else .bad) Q E) :
    wpAny (model prog w) A (exec (.Expr (.Call (.Attribute (.Name y yp) "append" apos) [e] [] pos) pos') env) Q E s := by
  refine el_EAT (x.freeze ((occ 30 e).filter (· != y))) fun mad' sub x' => ?_
  have fin' := fin.after (tk := s.toks) (Stp.ofSub (h := s.heap) sub)
  have hy' : (Mine.freeze ((occ 30 e).filter (· != y)) σ).lookup y = some (.ml l) := by
    rw [freeze_lookup, hy]
    have : ((occ 30 e).filter (· != y)).contains y = false := by
      rw [List.contains_eq_mem]
      simp
    rw [this]; rfl
  generalize Mine.freeze ((occ 30 e).filter (· != y)) σ = σ' at *
  refine el_EAEEEAAAT (x'.vars y _ hy') fun v hv a vs k hr5 ha ho hr => ?_
  subst hr5
  have hkind : env.scope.kind = .function := by rw [x.ok.scope]; exact x.ok.kind
  have hi : interactive env = false := by unfold interactive; rw [hkind]; rfl
  refine wpAny_Expr_any ?_ hi rfl
  rw [arm_eval_Call, base_plain (o := .Name y yp) rfl]
  refine wpAny_bind (var_load hkind hv hd (wpAny_bind (wpAny_standAt ?_)))
  have hstar : ([e] : List Expr).any starred = false := by simp [hs]
  have hform : methodCallForm (([e] : List Expr).length + ([] : List Keyword).length) (backTo pos (starEach [e] env)) (backToKw pos (keywordEach [] env)) = true := by
    unfold methodCallForm
    rw [(star_plain pos [e] hstar).2]
    rfl
  have hpos : methodCallPos true (.Name y yp) env apos pos = pure pos := by unfold methodCallPos; simp [hl]
  unfold methodCall
  rw [hform]
  have hT : s.TypeIs (.ref a) "list" := ⟨_, ho, rfl⟩
  refine wpAny_bind (wpAny_holding (getMethod_builtin (T := "list") (name := Str.ofString "append") (id := "list.append") hT PySem.F.plainAttrs_list PySem.F.slot_list_append PySem.F.type_list_append (fun _ q => by cases q; exact ⟨_, ho, rfl⟩) ?_))
  refine wpAny_bind (wpAny_of_eq hpos ?_)
  refine callWith_of (P := fun _ => True) (by rw [(star_plain pos [e] hstar).1]; rfl) (fun _ _ => keep_builtin) ?_
  refine args_snd S (x'.here rm) _ [e] [] pos hstar _ E ?_
  rw [argsD_one]
  cases hr' : F.ev sc (fast σ') e with
  | bad => rw [hr'] at fin'; exact fin'.elim
  | exc c m => rw [hr'] at fin'; exact fun e h' tk y => StFin.excX x' fin' y
  | ok d =>
    rw [hr'] at fin'
    have fin' : StFin prog w base A fl hid0 env sc mad' s nm (if l.length ≤ big then .ok (setS y (.ml (l ++ [d])) σ', .next) else .bad) Q E := fin'
    rintro ⟨avs, akw⟩ h₁ tk₁ g₁ ⟨r1, r2⟩
    refine ⟨trivial, ?_⟩
    have r2 : akw = [] := r2
    subst r2
    refine el_EEAAT (reps_cons.mp r1) fun u t eu q1 q2 => ?_
    have eu : avs = u :: t := eu
    subst eu
    rw [reps_nil.mp q2]
    split at fin'
    · rename_i hlen
      have x₁ := x'.grow g₁
      have fa := x'.faMad ha
      have ho₁ := (g₁ a _ ho (by simp)).2 fa
      have hr₁ := hr.mono (x'.cx.view g₁)
      refine append_at (s := { s with heap := h₁, toks := tk₁ }) ho₁ (fun h₂ hs₂ ho₂ => ?_) ?_
      · have le : PH.le (Vw h₁ (mad' ++ (own env ++ hid0))) (Vw h₂ (mad' ++ (own env ++ hid0))) := Vw.grow (Gr.sameBut (fa := faOf fl) hs₂) (fun b hb => by rw [List.mem_singleton.mp hb]; exact List.mem_append_left _ ha) fun b hb => x'.cx.fhid b hb
        have x₂ := x₁.mutate (b' := .ml (l ++ [d])) hs₂ ha hy' rfl rfl (hv.grow0 g₁) ⟨_, ho₂⟩ ⟨a, vs.push u, k + 1, rfl, ha, ho₂, by
          rw [Array.toList_push]
          exact reps_append (hr₁.mono le) (reps_cons' (q1.mono le) reps_nil')⟩
        exact fin' .next h₂ tk₁ mad' ((Stp.ofGr g₁).trans (Stp.ofSame hs₂ ha ⟨_, ho₂⟩)) x₂ rfl
      · have := reps_length hr
        rw [Array.length_toList] at this
        exact Nat.le_trans (by omega) big_le
    · exact fin'.bad

theorem kwr_stored {ρ : PH} {k : Str} {d : D} {v : Value} (rv : Rep ρ d v) : ∀ {l : Vs} {kvs : List (Str × Value)}, KwR ρ l kvs → (kvs.map (·.1)).Nodup → KwR ρ (lastVal k d l) (PySem.stored kvs k v)
  | [], kvs, r, _ => by
    have r : kvs = [] := r
    subst r
    exact ⟨v, [], rfl, rv, rfl⟩
  | (y, c) :: l, kvs, r, nd => by
    refine el_EEAAT (r) fun u t hr2 r1 r2 => ?_
    subst hr2
    rw [List.map_cons, List.nodup_cons] at nd
    unfold lastVal
    by_cases h : y = k
    · subst h
      rw [if_pos rfl]
      have e : PySem.stored ((y, u) :: t) y v = (y, v) :: t := by
        unfold PySem.stored
        rw [if_pos (by simp)]
        rw [List.map_cons, if_pos rfl]
        congr 1
        refine (List.map_congr_left fun p hp => ?_).trans (List.map_id _)
        rw [if_neg]
        · rfl
        · rintro rfl
          exact nd.1 (List.mem_map_of_mem (f := (·.1)) hp)
      rw [e]
      exact ⟨v, t, rfl, rv, r2⟩
    · rw [if_neg h]
      have e : PySem.stored ((y, u) :: t) k v = (y, u) :: PySem.stored t k v := by
        unfold PySem.stored
        rw [List.any_cons, List.map_cons, if_neg h]
        have : decide (y = k) = false := by simp [h]
        simp only [this, Bool.false_or]
        split <;> rfl
      rw [e]
      exact ⟨u, _, rfl, r1, kwr_stored rv r2 nd.2⟩

theorem kwr_length {ρ : PH} : ∀ {l : Vs} {kvs : List (Str × Value)}, KwR ρ l kvs → kvs.length = l.length
  | [], kvs, r => by
    have r : kvs = [] := r
    subst r; rfl
  | (_, _) :: l, kvs, ⟨u, t, e, r1, r2⟩ => by rw [e]; simp [kwr_length r2]

theorem dstore_snd (S : SndE prog w base F n) (x : FS prog w base A fl hid0 env sc σ mad s.heap) (rm : Rm A n) {y k v : Str} {yp kp vp sp pos : Pos} {l : Vs} {Q : Flow → Shared → Prop} (hd : (y == ("__debug__" : Str)) = false) (hy : σ.lookup y = some (.md l))
    (fin : StFin prog w base A fl hid0 env sc mad s nm ((F.ev sc (fast σ) (.Name v vp)).bind fun d => (F.ev sc (fast σ) (.Name k kp)).bind fun kd => (R.of kd.str?).bind fun ks => if l.length ≤ 1000 then .ok (setS y (.md (putIn ks d l)) σ, .next) else .bad) Q E) :
    wpAny (model prog w) A (exec (.Assign [.Subscript (.Name y yp) (.Name k kp) sp] (.Name v vp) pos) env) Q E s := by
  have hkind : env.scope.kind = .function := by rw [x.ok.scope]; exact x.ok.kind
  refine wpAny_Assign_Subscript (ev_step S x rm fin fun d u h₁ tk₁ g₁ x₁ r₁ f₁ => ?_) rfl
  refine el_EAEEAAAAT (x₁.vars y _ hy) fun u' hv a kvs hr4 ha hys ho hr => ?_
  subst hr4
  refine var_load (s := { s with heap := h₁, toks := tk₁ }) hkind hv hd ?_
  refine ev_step (s := { s with heap := h₁, toks := tk₁ }) S x₁ rm f₁ fun kd uk h₂ tk₂ g₂ x₂ r₂ f₂ => ?_
  refine f₂.ofR fun ks hks f₂ => rep_s r₂ hks fun t => f₂.ite fun hlen f₂ => ?_
  · have r₂ : Rep (Vw h₂ (mad ++ (own env ++ hid0))) (.str ks) (.str ks t) := rep_str.mpr ⟨t, rfl⟩
    · skip
      have fa := x.faMad ha
      have le₂ : PH.le (Vw h₁ (mad ++ (own env ++ hid0))) (Vw h₂ (mad ++ (own env ++ hid0))) := x₁.cx.view g₂
      have ho₂ := dictOf_at ho fun o e => (g₂ a o e (by simp)).2 fa
      have hr₂ := KwR.mono le₂ hr
      refine wpAny_setItem_pairs (s := { s with heap := h₂, toks := tk₂ }) (knd := strKind prog w) (k := ks) (key := .str ks t) (by show Value.isStrOf ks (.str ks t) = true; simp [Value.isStrOf]) ho₂ (fun h₃ ho₃ hs₃ => ?_) ?_
      · have le : PH.le (Vw h₂ (mad ++ (own env ++ hid0))) (Vw h₃ (mad ++ (own env ++ hid0))) := Vw.grow (Gr.sameBut (fa := faOf fl) hs₃) (fun b hb => by rw [List.mem_singleton.mp hb]; exact List.mem_append_left _ ha) fun b hb => x.cx.fhid b hb
        have lv : ∃ o, h₃.get? a = some o := by obtain ⟨o, _, _, e, _⟩ := ho₃; exact ⟨o, e⟩
        have nd : (kvs.map (·.1)).Nodup := by obtain ⟨_, _, _, _, _, _, _, _, nd⟩ := ho; exact nd
        have x₃ := x₂.mutate (b' := .md (putIn ks d l)) hs₃ ha hy rfl rfl (hv.grow0 g₂) lv ⟨a, _, rfl, ha, hys, ho₃, kwr_stored ((r₁.mono le₂).mono le) (KwR.mono le hr₂) nd⟩
        exact f₂ .next h₃ _ mad ((Stp.ofGr (Gr.refl _ _ _)).trans (Stp.ofSame hs₃ ha lv)) x₃ rfl
      · rw [kwr_length hr]
        exact Nat.le_trans (Nat.le_trans hlen (by decide)) big_le
end
end Mine
end
section
namespace Mine

theorem funFrames_qt {h h' base : Heap} (q : Qt h h') {l : List Env} (x : h.FunFrames base l) : h'.FunFrames base l := x.of_keeps fun b o e hn => by
  refine el_ET (q.ups b o e hn) fun sl e' => ?_
  exact ⟨_, e', rfl⟩
theorem ns_qt {h h' : Heap} (q : Qt h h') {a : Addr} {m : Str → Option Value} (x : h.Ns a m) : h'.Ns a m := by
  refine el_EEEAAT (x) fun o es ep e hd r => ?_
  refine el_ET (q.ups a o e fun vs z => by rw [hd] at z; cases z) fun sl e' => ?_
  exact ⟨_, es, ep, e', hd, r⟩
theorem cell_qt {h h' : Heap} (q : Qt h h') {a : Addr} {v : Option Value} (x : h.IsCell a v) : h'.IsCell a v := by
  refine el_EAT (x) fun o e hd => ?_
  refine el_ET (q.ups a o e fun vs z => by rw [hd] at z; cases z) fun sl e' => ?_
  exact ⟨_, e', hd⟩

section
variable {prog : Program} {w : World} {base : Heap} {A : Around} {fl : List Env} {hid0 : List Addr} {env : Env} {sc : Scope} {σ : Sg} {mad : List Addr} {s : Shared} {n : Nat} {nm : Prop} {F : Fns} {E : Value → Shared → Prop}

theorem FS.qt {h h' : Heap} (x : FS prog w base A fl hid0 env sc [] [] h) (q : Qt h h') (st : base.StaysIn h') : FS prog w base A fl hid0 env sc [] [] h' where
  ok := x.ok
  cx := ⟨x.cx.fr, x.cx.hd, funFrames_qt q x.cx.ff, st, x.cx.fhid, fun a ha => by obtain ⟨o, e⟩ := x.cx.live a ha; exact q.al a o e, x.cx.nob⟩
  ns := by obtain ⟨m, hm⟩ := x.ns; exact ⟨m, ns_qt q hm⟩
  cl := fun y c e => by obtain ⟨v, hv⟩ := x.cl y c e; exact ⟨v, cell_qt q hv⟩
  out := x.out
  nd := x.nd
  vars := fun y b e => by cases e
  inj := fun y z b b' a e => by cases e

theorem FS.growW {W : List Addr} {h h' : Heap} (x : FS prog w base A fl hid0 env sc σ mad h) (g : Gr (faOf fl) W h h') (hW : ∀ a ∈ W, a ∈ hid0) (n1 : ∀ a ∈ W, a ∉ own env) (n2 : ∀ a ∈ W, a ∉ mad) (n3 : ∀ a ∈ faOf fl, a ∉ W) (lv : ∀ a ∈ W, ∃ o, h'.get? a = some o) : FS prog w base A fl hid0 env sc σ mad h' := by
  have hW' : ∀ a ∈ W, a ∈ mad ++ (own env ++ hid0) := fun a ha => by simp only [List.mem_append]; exact .inr (.inr (hW a ha))
  have keepV : ∀ {z u}, Var h env z u → Var h' env z u := fun hv => hv.grow g (fun q => n1 _ q (own_locals env)) fun z c e q => n1 _ q (own_cell e)
  refine ⟨x.ok, x.cx.growW g hW' n3 lv, ?_, fun y c e => ?_, x.out, x.nd, fun z b e => ?_, fun z z' b b' a e1 e2 m1 m2 v1 v2 => ?_⟩
  · refine el_ET (x.ns) fun m hm => ?_
    exact ⟨m, g.ns (fun q => n1 _ q (own_locals env)) hm⟩
  · refine el_ET (x.cl y c e) fun v hv => ?_
    exact ⟨v, g.cell (fun q => n1 _ q (own_cell e)) hv⟩
  · refine el_EAT (x.vars z b e) fun v h1 h2 => ?_
    refine ⟨v, keepV h1, h2.grow (x.cx.viewW g hW') (fun a ha _ _ => ha) fun a o eu m e' => ?_⟩
    refine el_EAT (h2.ref m) fun a' q' ha => ?_
    rw [eu] at q'; cases q'
    exact (g a o e' fun q => n2 a q ha).2 (x.faMad ha)
  · refine el_EAT (x.vars z b e1) fun u1 p1 _ => ?_
    refine el_EAT (x.vars z' b' e2) fun u2 p2 _ => ?_
    have q1 := (keepV p1).uniq v1
    have q2 := (keepV p2).uniq v2
    subst q1; subst q2
    exact x.inj z z' b b' a e1 e2 m1 m2 p1 p2

theorem store_val (x : FS prog w base A fl hid0 env sc σ mad s.heap) {y : Str} {d : D} {v : Value} (st : storable sc y = true) (r : Rep (Vw s.heap (mad ++ (own env ++ hid0))) d v) {Q : Unit → Shared → Prop}
    (k : ∀ h' tk, FS prog w base A fl hid0 env sc (setS y (.val d) σ) mad h' → Gr (faOf fl) (own env) s.heap h' → Q () { s with heap := h', toks := tk }) : wpAny (model prog w) A (storeName env y v) Q E s := by
  refine store_more (fa := faOf fl) (bs := []) (Bound.nil x.so (Gr.refl _ _ _)) (x.ok.st st) fun h' tk B => ?_
  exact k h' tk (x.set1 (b := .val d) B r (fun q => by cases q)) B.gr

theorem FS.viewOwn {h h' : Heap} (x : FS prog w base A fl hid0 env sc σ mad h) (g : Gr (faOf fl) (own env) h h') : PH.le (Vw h (mad ++ (own env ++ hid0))) (Vw h' (mad ++ (own env ++ hid0))) :=
  Vw.grow g (fun a ha => by simp only [List.mem_append]; exact .inr (.inl ha)) fun a ha => x.cx.fhid a ha

theorem namesL_c {e : Expr} {es : List Expr} {x : Str} {xs : List Str} (h : namesL sc (e :: es) = some (x :: xs)) : ∃ p, e = .Name x p ∧ storable sc x = true ∧ namesL sc es = some xs := by
  refine bind_some h fun y hy h => ?_
  refine el_AT (ite_some h) fun st h => ?_
  refine map_some h fun ys hys h => ?_
  cases h
  refine el_ET (Expr.name?_s hy) fun p hr1 => ?_
  subst hr1
  exact ⟨p, rfl, st, hys⟩
theorem namesL_0 {es : List Expr} (h : namesL sc es = some []) : es = [] := by
  cases es with
  | nil => rfl
  | cons e es =>
    refine bind_some h fun y hy h => ?_
    refine el_AT (ite_some h) fun st h => ?_
    exact map_some h fun ys hys h => by cases h
theorem namesL_e {es : List Expr} {x : Str} {xs : List Str} (h : namesL sc es = some (x :: xs)) : ∃ p r, es = .Name x p :: r ∧ storable sc x = true ∧ namesL sc r = some xs := by
  cases es with
  | nil => cases h
  | cons e es => obtain ⟨p, rfl, st, h⟩ := namesL_c h; exact ⟨p, es, rfl, st, h⟩
theorem namesL2 {es : List Expr} {y z : Str} (h : namesL sc es = some [y, z]) : ∃ p q, es = [.Name y p, .Name z q] ∧ storable sc y = true ∧ storable sc z = true := by
  obtain ⟨p, r, rfl, s1, h⟩ := namesL_e h
  obtain ⟨q, r, rfl, s2, h⟩ := namesL_e h
  rw [namesL_0 h]; exact ⟨p, q, rfl, s1, s2⟩
theorem namesL3 {es : List Expr} {y z u : Str} (h : namesL sc es = some [y, z, u]) : ∃ p q r, es = [.Name y p, .Name z q, .Name u r] ∧ storable sc y = true ∧ storable sc z = true ∧ storable sc u = true := by
  obtain ⟨p, r, rfl, s1, h⟩ := namesL_e h
  obtain ⟨q, r, rfl, s2, h⟩ := namesL2 h
  exact ⟨p, q, r, rfl, s1, s2, h⟩
theorem bindS_does (x : FS prog w base A fl hid0 env sc σ mad s.heap) {t : Expr} {d : D} {v : Value} {σ' : Sg} (r : Rep (Vw s.heap (mad ++ (own env ++ hid0))) d v) (hb : bindS sc t d σ = .ok σ') {Q : Unit → Shared → Prop}
    (k : ∀ h' tk, FS prog w base A fl hid0 env sc σ' mad h' → Gr (faOf fl) (own env) s.heap h' → Q () { s with heap := h', toks := tk }) : wpAny (model prog w) A (assign t env v) Q E s := by
  cases t with
  | Name y p =>
    refine el_AT (R.if_ok hb) fun st hb => ?_
    cases hb
    exact wpAny_assign_Name (store_val x st r k)
  | Tuple ts kk pos =>
    refine R.of_bind hb fun xs hxs hb => R.of_bind hb fun l hl hb => ?_
    rw [D.tuple?_s hl] at r
    refine el_EEAAAT (rep_isTup r) fun ta vs hr2 na ht rr => ?_
    subst hr2
    clear hl r
    cases h2 : two? xs with
    | some p =>
      rw [h2] at hb
      refine R.of_bind hb fun q hq hb => ?_
      cases hb
      rw [two?_s (a := p.1) (b := p.2) h2] at hxs
      refine el_EEAAT (namesL2 hxs) fun yp zp hr2 hy hz => ?_
      subst hr2
      rw [two?_s (a := q.1) (b := q.2) hq] at rr
      refine el_EEAAT (reps_cons.mp rr) fun v1 r1 e1 q1 rr1 => ?_
      refine el_EEAAT (reps_cons.mp rr1) fun v2 r2 e2 q2 rr2 => ?_
      have e3 : vs = #[v1, v2] := by
        apply Array.toList_inj.mp
        rw [e1, e2, reps_nil.mp rr2]
      subst e3
      refine wpAny_assign_Tuple x.cx.hd ht rfl rfl fun h' he => ?_
      have g : Gr (faOf fl) [] s.heap h' := Gr.keeps0 fun b o e => he b o (Nat.ne_of_lt (Heap.lt_size e)) e
      have x₁ := x.grow g
      refine assignInOrder_cons (wpAny_assign_Name (store_val (s := { s with heap := h' }) x₁ hy (q1.mono (x.cx.view g)) fun h₁ tk₁ x₂ g₁ => ?_))
      refine assignInOrder_cons (wpAny_assign_Name (store_val (s := { s with heap := h₁, toks := tk₁ }) x₂ hz ((q2.mono (x.cx.view g)).mono (x₁.viewOwn g₁)) fun h₂ tk₂ x₃ g₂ => ?_))
      exact assignInOrder_nil (k h₂ tk₂ x₃ (((g.mono (by simp)).trans g₁).trans g₂))
    | none =>
      rw [h2] at hb
      refine R.of_bind hb fun p h3 hb => R.of_bind hb fun q hq hb => ?_
      cases hb
      rw [three?_s (a := p.1) (b := p.2.1) (c := p.2.2) h3] at hxs
      refine el_EEEAAAT (namesL3 hxs) fun yp zp up hr3 hy hz hu => ?_
      subst hr3
      rw [three?_s (a := q.1) (b := q.2.1) (c := q.2.2) hq] at rr
      refine el_EEAAT (reps_cons.mp rr) fun v1 r1 e1 q1 rr1 => ?_
      refine el_EEAAT (reps_cons.mp rr1) fun v2 r2 e2 q2 rr2 => ?_
      refine el_EEAAT (reps_cons.mp rr2) fun v3 r3 e3 q3 rr3 => ?_
      have e4 : vs = #[v1, v2, v3] := by
        apply Array.toList_inj.mp
        rw [e1, e2, e3, reps_nil.mp rr3]
      subst e4
      refine wpAny_assign_Tuple x.cx.hd ht rfl rfl fun h' he => ?_
      have g : Gr (faOf fl) [] s.heap h' := Gr.keeps0 fun b o e => he b o (Nat.ne_of_lt (Heap.lt_size e)) e
      have x₁ := x.grow g
      refine assignInOrder_cons (wpAny_assign_Name (store_val (s := { s with heap := h' }) x₁ hy (q1.mono (x.cx.view g)) fun h₁ tk₁ x₂ g₁ => ?_))
      refine assignInOrder_cons (wpAny_assign_Name (store_val (s := { s with heap := h₁, toks := tk₁ }) x₂ hz ((q2.mono (x.cx.view g)).mono (x₁.viewOwn g₁)) fun h₂ tk₂ x₃ g₂ => ?_))
      refine assignInOrder_cons (wpAny_assign_Name (store_val (s := { s with heap := h₂, toks := tk₂ }) x₃ hu (((q3.mono (x.cx.view g)).mono (x₁.viewOwn g₁)).mono (x₂.viewOwn g₂)) fun h₃ tk₃ x₄ g₃ => ?_))
      exact assignInOrder_nil (k h₃ tk₃ x₄ ((((g.mono (by simp)).trans g₁).trans g₂).trans g₃))
  | _ => cases hb

theorem R.nx_of {α β : Type} {o : Option α} {f : α → R β} {c : Value} {m : Str} (k : ∀ a, f a ≠ .exc c m) : (R.of o).bind f ≠ .exc c m := by
  cases o with
  | none => intro h; cases h
  | some a => exact k a
theorem bindS_exc {t : Expr} {d : D} {c : Value} {m : Str} : bindS sc t d σ ≠ .exc c m := by
  cases t with
  | Name y p =>
    show (if storable sc y = true then _ else _) ≠ _
    by_cases h : storable sc y = true
    · rw [if_pos h]; intro h; cases h
    · rw [if_neg h]; intro h; cases h
  | Tuple ts kk pos =>
    refine R.nx_of fun xs => R.nx_of fun l => ?_
    cases h2 : two? xs with
    | some p => exact R.nx_of fun q h => by cases h
    | none => exact R.nx_of fun p => R.nx_of fun q h => by cases h
  | _ => intro h; cases h

theorem loop_exc {h₀ : Heap} {W : List Addr} {c : Value} {m : Str} {e : Addr} {b : Bool} (ok : FrOK env sc fl hid0) (x : Xg fl W b [.none, rawInt env.locals] h₀ e c m s.heap) (al : ∀ a o, h₀.get? a = some o → ∃ o', s.heap.get? a = some o') (y : FS prog w base A fl hid0 env sc [] [] s.heap)
    (bs : ∀ h', Gr (faOf fl) W h₀ h' → base.StaysIn h')
    (k : ∀ h' , Xg fl W true [.none, rawInt env.locals] h₀ e c m h' → (∀ a o, h₀.get? a = some o → ∃ o', h'.get? a = some o') → FS prog w base A fl hid0 env sc [] [] h' → E (.ref e) { s with heap := h' }) :
    notedBy (model prog w) A env (fun x s' => cameBackBy (model prog w) A env E x s') (.ref e) s := by
  refine el_ET (ok.top) fun outer hr1 => ?_
  subst hr1
  unfold notedBy
  refine note_does y.cx.fr y.cx.ff ok.fr (fun v hv => by simpa using hv) x al fun h₁ x₁ q₁ => ?_
  unfold cameBackBy
  have y₁ := y.qt q₁ (bs _ x₁.gr)
  refine el_EEEAAAAAT (x₁.there) fun oe vs a0 he hc hd h0 ht hx => ?_
  rcases hx with ⟨q, _⟩ | ⟨T, oT, ts, z, h1, hnT, hTe, hT, hdT, h3, hz⟩
  · cases q
  · refine wpAny_bind (wpAny_field (s := { s with heap := h₁ }) he hd h1 ?_)
    rw [if_neg (show ¬ ((Value.ref T == Value.none) = true) from Bool.false_ne_true)]
    refine flight_does (s := { s with heap := h₁ }) x₁ fun h₂ x₂ q₂ => ?_
    refine k h₂ (x₂.mono (fun _ q => q) (fun q => by cases q) fun v hv => ?_) (fun a o e => ?_) (y₁.qt q₂ (bs _ x₂.gr))
    · rw [ok.fr] at hv
      simp at hv ⊢
      exact .inr hv
    · refine el_ET (al a o e) fun o₁ e₁ => ?_
      refine el_ET (q₁.al a o₁ e₁) fun o₂ e₂ => ?_
      exact q₂.al a o₂ e₂

end

noncomputable abbrev ExsOK (prog : Program) (w : World) (base : Heap) (F : Fns) (n : Nat) : Prop := ∀ {A : Around} {fl : List Env} {hid0 : List Addr} {env : Env} {sc : Scope} {σ : Sg} {mad : List Addr} {s : Shared} {l : List Stmt} {nm : Prop} {Q : Flow → Shared → Prop} {E : Value → Shared → Prop},
  Rm A n → FS prog w base A fl hid0 env sc σ mad s.heap → (nm → ∀ st ∈ l, ∃ k, mk k st = false) → StFin prog w base A fl hid0 env sc mad s nm (F.exs sc σ l) Q E → wpAny (model prog w) A (execs l env) Q E s

section
variable {prog : Program} {w : World} {base : Heap} {A : Around} {fl : List Env} {hid0 : List Addr} {env : Env} {sc : Scope} {σ : Sg} {mad : List Addr} {s : Shared} {n : Nat} {nm : Prop} {F : Fns} {E : Value → Shared → Prop}

theorem while_snd (S : SndE prog w base F n) (X : ExsOK prog w base F n) (x : FS prog w base A fl hid0 env sc σ mad s.heap) (rm : Rm A n) {t : Expr} {body : List Stmt} {pos : Pos} {k : Nat} {Q : Flow → Shared → Prop} (hn : nm → ∀ st ∈ body, ∃ k, mk k st = false)
    (fin : StFin prog w base A fl hid0 env sc mad s nm ((whileL F sc t body k σ).safe) Q E) : wpAny (model prog w) A (exec (.While t body [] pos) env) Q E s := by
  refine wpAny_While ?_
  cases hr : whileL F sc t body k σ with
  | bad => rw [hr] at fin; exact fin.elim
  | exc c m => rw [hr] at fin; exact fin.elim
  | ok r =>
    rw [hr] at fin
    have fin : StFin prog w base A fl hid0 env sc mad s nm (.ok r) Q E := fin
    refine codeAny_whileLoop (fun m s' => ∃ σ mad, whileL F sc t body m σ = .ok r ∧ FS prog w base A fl hid0 env sc σ mad s'.heap ∧ StFin prog w base A fl hid0 env sc mad s' nm (.ok r) Q E) ?_ k ⟨σ, mad, hr, x, fin⟩
    rintro k s ⟨σ, mad, hr, x, fin⟩
    cases k with
    | zero => cases hr
    | succ k =>
      refine el_EAT (R.bind_ok hr) fun b hb hr => ?_
      refine S.evT (x.hereAll rm) _ _ ?_
      rw [hb]
      intro b' h₁ tk₁ g₁ hbb
      have hbb : b' = b := hbb
      subst hbb
      have x₁ := x.grow g₁
      have fin₁ := fin.after (tk := tk₁) (Stp.ofGr g₁)
      cases b' with
      | false =>
        simp only [Bool.false_eq_true, if_false] at hr ⊢
        cases hr
        exact wpAny_execs_nil (fin₁ .next h₁ tk₁ mad Stp.refl x₁ rfl)
      | true =>
        simp only [if_true] at hr ⊢
        refine el_EAT (R.bind_ok hr) fun p hp hr => ?_
        refine X (s := { s with heap := h₁, toks := tk₁ }) rm x₁ hn ?_
        rw [hp]
        intro f h₂ tk₂ mad₂ st₂ x₂ fr₂
        have fin₂ := fin₁.after (tk := tk₂) st₂
        obtain ⟨σ₂, fw⟩ := p
        cases fw with
        | next =>
          have fr₂ : f = .next := fr₂
          subst fr₂
          exact ⟨k, Nat.lt_succ_self _, σ₂, mad₂, hr, x₂, fin₂⟩
        | cont =>
          have fr₂ : f = .cont := fr₂
          subst fr₂
          exact ⟨k, Nat.lt_succ_self _, σ₂, mad₂, hr, x₂, fin₂⟩
        | brk =>
          have fr₂ : f = .brk := fr₂
          subst fr₂
          cases hr
          exact fin₂ .next h₂ tk₂ mad₂ Stp.refl x₂ rfl
        | ret d =>
          refine el_EAT (fr₂) fun v hr1 rv => ?_
          subst hr1
          cases hr
          exact fin₂ (.ret v) h₂ tk₂ mad₂ Stp.refl x₂ ⟨v, rfl, rv⟩
end
end Mine
end
section
namespace Mine

section
variable {prog : Program} {w : World} {base : Heap} {A : Around} {fl : List Env} {hid0 : List Addr} {env : Env} {sc : Scope} {σ : Sg} {mad : List Addr} {s : Shared} {n : Nat} {nm : Prop} {F : Fns} {E : Value → Shared → Prop}

theorem FS.ownLive {h : Heap} (x : FS prog w base A fl hid0 env sc σ mad h) {a : Addr} (ha : a ∈ own env) : ∃ o, h.get? a = some o := x.cx.live a (by simp only [List.mem_append]; exact .inr (.inl ha))

theorem FS.leave {wr : List Addr} {h h' : Heap} (x : FS prog w base A fl (wr ++ hid0) env sc σ mad h) (kp : ∀ b o, b ∉ wr → h.get? b = some o → h'.get? b = some o) (f : ∀ a ∈ faOf fl, a ∈ own env ++ hid0)
    (n1 : ∀ a ∈ wr, a ∉ own env) (n2 : ∀ a ∈ wr, a ∉ mad) (n3 : ∀ a ∈ wr, a ∉ faOf fl) (n4 : ∀ a ∈ wr, a ∉ hid0) : FS prog w base A fl hid0 env sc σ mad h' := by
  have g : Gr (faOf fl) wr h h' := Gr.of_keeps fun b o nb e => kp b o nb e
  have y := x.above f
  have nh : ∀ a ∈ mad ++ (own env ++ hid0), a ∉ wr := fun a q r => by
    simp only [List.mem_append] at q
    rcases q with q | q | q
    · exact n2 a r q
    · exact n1 a r q
    · exact n4 a r q
  have le : PH.le (Vw h (mad ++ (own env ++ (wr ++ hid0)))) (Vw h' (mad ++ (own env ++ hid0))) := fun a o e => by
    have ne : a ∉ wr := fun q => Vw.nin e (by simp [q])
    refine Vw.mk (kp a o ne (Vw.of e)) fun q => Vw.nin e ?_
    simp only [List.mem_append] at q ⊢
    rcases q with q | q | q <;> simp [q]
  have keepV : ∀ {z u}, Var h env z u → Var h' env z u := fun hv => hv.grow g (fun q => n1 _ q (own_locals env)) fun z c e q => n1 _ q (own_cell e)
  refine ⟨y.ok, ⟨y.cx.fr, y.cx.hd, g.funFrames y.cx.ff (fun a ha q => n3 a q ha), ?_, y.cx.fhid, fun a ha => ?_, y.cx.nob⟩, ?_, fun z c e => ?_, y.out, y.nd, fun z b e => ?_, fun z z' b b' a e1 e2 m1 m2 v1 v2 => ?_⟩
  · exact g.stays y.cx.stays (fun a ha => x.cx.nob a (by simp [ha])) fun a ha => y.cx.nob a (y.cx.fhid a ha)
  · refine el_ET (y.cx.live a ha) fun o e => ?_
    exact ⟨o, kp a o (nh a ha) e⟩
  · refine el_ET (y.ns) fun m hm => ?_
    exact ⟨m, g.ns (fun q => n1 _ q (own_locals env)) hm⟩
  · refine el_ET (y.cl z c e) fun v hv => ?_
    exact ⟨v, g.cell (fun q => n1 _ q (own_cell e)) hv⟩
  · refine el_EAT (x.vars z b e) fun v h1 h2 => ?_
    refine ⟨v, keepV h1, h2.grow le (fun a ha _ _ => ha) fun a o eu m e' => kp a o (fun q => ?_) e'⟩
    refine el_EAT (h2.ref m) fun a' q' ha => ?_
    rw [eu] at q'; cases q'
    exact n2 a q ha
  · refine el_EAT (x.vars z b e1) fun u1 p1 _ => ?_
    refine el_EAT (x.vars z' b' e2) fun u2 p2 _ => ?_
    have q1 := (keepV p1).uniq v1
    have q2 := (keepV p2).uniq v2
    subst q1; subst q2
    exact x.inj z z' b b' a e1 e2 m1 m2 p1 p2

theorem Stp.over {mad' : List Addr} {h₀ h h' : Heap} {wr : List Addr} (p : Stp fl env mad h₀ mad' h nm) (nw : ∀ b ∈ wr, h₀.get? b = none) (k : ∀ b o, b ∉ wr → h.get? b = some o → h'.get? b = some o) : Stp fl env mad h₀ mad' h' nm := by
  have nb : ∀ b o, h₀.get? b = some o → b ∉ wr := fun b o e q => by rw [nw b q] at e; cases e
  refine ⟨fun b o e n => ?_, fun a o e => ?_, p.sub, p.nm⟩
  · refine el_AT (p.gr b o e n) fun hn0 k₁ => ?_
    obtain ⟨sl, e₁⟩ := hn0
    exact ⟨⟨sl, k b _ (nb b o e) e₁⟩, fun q => k b _ (nb b o e) (k₁ q)⟩
  · refine el_ET (p.al a o e) fun o' e' => ?_
    exact ⟨o', k a o' (nb a o e) e'⟩

theorem for_loop (X : ExsOK prog w base F n) (rm : Rm A n) {t : Expr} {body : List Stmt} {Q : Flow → Shared → Prop} {own' : Bool} {I : Addr} {wr : List Addr} {St : List D → Heap → Prop} {mad₀ : List Addr} {s₀ : Shared} {σ₀ : Sg}
    (x₀ : FS prog w base A fl hid0 env sc σ₀ mad₀ s₀.heap) (it : Itr prog w A (mad₀ ++ (own env ++ hid0)) own' I wr St) (ho : own' = true → isTup t = true) (nwr : ∀ b ∈ wr, s₀.heap.get? b = none) (hmk : ∀ st ∈ body, mk 10 st = false)
    (l : List D) (σ : Sg) (mad : List Addr) (s : Shared) (es : s = { s₀ with heap := s.heap, toks := s.toks }) (hst : St l s.heap) (hx : FS prog w base A fl (wr ++ hid0) env sc σ mad s.heap) (hp : Stp fl env mad₀ s₀.heap mad s.heap True)
    (fin : StFin prog w base A fl hid0 env sc mad₀ s₀ nm (forL F sc t body l σ) Q E) :
      codeAny (model prog w) A (.forLoop t (.ref I) body [] env) (fun r s' => match r with | .ok f => Q f s' | .error e => cameBackBy (model prog w) A env E e s') s := by
  refine codeAny_forLoop_any (fun m s' => ∃ l σ mad, m = l.length ∧ s' = { s₀ with heap := s'.heap, toks := s'.toks } ∧ St l s'.heap ∧ FS prog w base A fl (wr ++ hid0) env sc σ mad s'.heap ∧ Stp fl env mad₀ s₀.heap mad s'.heap True ∧
    StFin prog w base A fl hid0 env sc mad₀ s₀ nm (forL F sc t body l σ) Q E) ?_ l.length ⟨l, σ, mad, rfl, es, hst, hx, hp, fin⟩
  rintro m s ⟨l, σ, mad, rfl, es, hst, hx, hp, fin⟩
  have f0 : ∀ a ∈ faOf fl, a ∈ own env ++ hid0 := x₀.ok.fin
  have hm : ∀ a ∈ mad, a ∈ mad₀ := hp.nm trivial
  have wOwn : ∀ b ∈ wr, b ∉ own env := fun b hb q => by obtain ⟨o, e⟩ := x₀.ownLive q; rw [nwr b hb] at e; cases e
  have wMad : ∀ b ∈ wr, b ∉ mad₀ := fun b hb q => x₀.cx.fresh (nwr b hb) (List.mem_append_left _ q)
  have wFa : ∀ b ∈ wr, b ∉ faOf fl := fun b hb q => x₀.cx.fresh (nwr b hb) (x₀.cx.fhid b q)
  have wHid : ∀ b ∈ wr, b ∉ hid0 := fun b hb q => x₀.cx.fresh (nwr b hb) (by simp [q])
  have hlive : ∀ b ∈ mad₀ ++ (own env ++ hid0), ∃ o, s.heap.get? b = some o := fun b hb => by
    refine el_ET (x₀.cx.live b hb) fun o e => ?_
    exact hp.al b o e
  have subV : ∀ {mad' : List Addr}, (∀ a ∈ mad', a ∈ mad₀) → ∀ a ∈ mad' ++ (own env ++ (wr ++ hid0)), a ∈ wr ++ (mad₀ ++ (own env ++ hid0)) := fun hm a ha => by
    simp only [List.mem_append] at ha ⊢
    rcases ha with q | q | q | q
    · exact .inr (.inl (hm a q))
    · simp [q]
    · simp [q]
    · simp [q]
  cases l with
  | nil =>
    refine it.done s _ _ hst fun h' tk k => ?_
    refine wpAny_execs_nil ?_
    have y' : FS prog w base A fl hid0 env sc σ mad h' := hx.leave k f0 wOwn (fun a ha q => wMad a ha (hm a q)) wFa wHid
    have := fin .next h' tk mad ((hp.over nwr k).weak fun _ => trivial) y' rfl
    rw [es]; exact this
  | cons d l =>
    have fin : StFin prog w base A fl hid0 env sc mad₀ s₀ nm ((bindS sc t d σ).bind fun σ' => (F.exs sc σ' body).bind fun p => match p.2 with
      | .next => forL F sc t body l p.1
      | .cont => forL F sc t body l p.1
      | .brk => .ok (p.1, .next)
      | .ret d => .ok (p.1, .ret d)) Q E := fin
    cases hb : bindS sc t d σ with
    | bad => rw [hb] at fin; exact fin.elim
    | exc c m => exact (bindS_exc hb).elim
    | ok σ' =>
      rw [hb] at fin
      refine wpAny_mono (it.item t d l s (fun v s₂ => ∃ h₂ tk₂, s₂ = { s₀ with heap := h₂, toks := tk₂ } ∧ Rep (Vw h₂ (wr ++ (mad₀ ++ (own env ++ hid0)))) d v ∧ St l h₂ ∧ (∀ b o, b ∉ wr → s.heap.get? b = some o → h₂.get? b = some o)) (fun _ _ => False) ho hst hlive
        fun v h₂ tk₂ rv st₂ k₂ => ⟨h₂, tk₂, by rw [es], rv, st₂, k₂⟩) (fun r s₂ hr₂ => ?_) fun _ _ h' => h'.elim
      refine el_EAT (hr₂) fun v hr1 hv => ?_
      subst hr1
      dsimp only
      refine wpAny_mono hv (fun _ s₂' hq => ?_) fun _ _ h' => h'.elim
      refine el_EEAAAT (hq) fun h₂ tk₂ hr2 rv st₂ k₂ => ?_
      subst hr2
      have p₂ := hp.over nwr k₂
      have x₂ : FS prog w base A fl (wr ++ hid0) env sc σ mad h₂ := hx.growW (W := wr) (Gr.of_keeps fun b o nb e => k₂ b o nb e) (fun a ha => List.mem_append_left _ ha) wOwn (fun a ha q => wMad a ha (hm a q)) (fun a ha q => wFa a q ha) (it.live _ _ st₂)
      refine bindS_does (s := { s₀ with heap := h₂, toks := tk₂ }) x₂ (rv.mono (Vw.less (subV hm))) hb fun h₃ tk₃ x₃ g₃ => ?_
      have p₃ : Stp fl env mad₀ s₀.heap mad h₃ True := p₂.trans (Stp.ofBound g₃ x₃)
      have st₃ : St l h₃ := it.frame _ _ _ st₂ (fun b o hb e => (g₃ b o e (wOwn b hb)).2 (wFa b hb)) (Vw.grow g₃ (fun a ha => by simp only [List.mem_append]; exact .inr (.inr (.inl ha))) fun a ha => by
        have := f0 a ha
        simp only [List.mem_append] at this ⊢
        exact .inr (.inr this))
      refine X (s := { s₀ with heap := h₃, toks := tk₃ }) (nm := True) rm x₃ (fun _ st h => ⟨10, hmk st h⟩) ?_
      have fin : StFin prog w base A fl hid0 env sc mad₀ s₀ nm ((F.exs sc σ' body).bind fun p => match p.2 with
        | .next => forL F sc t body l p.1
        | .cont => forL F sc t body l p.1
        | .brk => .ok (p.1, .next)
        | .ret d => .ok (p.1, .ret d)) Q E := fin
      cases hr : F.exs sc σ' body with
      | bad => rw [hr] at fin; exact fin.elim
      | exc c m =>
        rw [hr] at fin
        intro e h₄ tk₄ xg al₄ y₄
        have hW : ∀ a ∈ mad ++ own env, a ∈ mad₀ ++ own env ∨ s₀.heap.get? a = none := fun a ha => by
          rcases List.mem_append.mp ha with q | q
          · exact .inl (List.mem_append_left _ (hm a q))
          · exact .inl (List.mem_append_right _ q)
        refine loop_exc (s := { s₀ with heap := h₄, toks := tk₄ }) (h₀ := s₀.heap) x₀.ok (xg.shift p₃.gr hW p₃.al) (fun a o e => ?_) (y₄.above f0) (fun h' g => ?_) fun h' x' al' y' => fin e h' tk₄ x' al' y'
        · refine el_ET (p₃.al a o e) fun o' e' => ?_
          exact al₄ a o' e'
        · refine g.stays x₀.cx.stays (fun a ha => x₀.cx.nob a ?_) fun a ha => x₀.cx.nob a (x₀.cx.fhid a ha)
          rcases List.mem_append.mp ha with q | q
          · exact List.mem_append_left _ q
          · simp only [List.mem_append]; exact .inr (.inl q)
      | ok p =>
        rw [hr] at fin
        intro f h₄ tk₄ mad₄ stp x₄ fr
        have p₄ : Stp fl env mad₀ s₀.heap mad₄ h₄ True := p₃.trans stp
        have st₄ : St l h₄ := it.frame _ _ _ st₃ (fun b o hb e => (stp.gr b o e fun q => by
            rcases List.mem_append.mp q with q | q
            · exact wMad b hb (hm b q)
            · exact wOwn b hb q).2 (wFa b hb)) fun a o e => Vw.mk ((stp.gr a o (Vw.of e) fun q => Vw.nin e (by
              simp only [List.mem_append]
              rcases List.mem_append.mp q with q | q
              · exact .inr (.inl (hm a q))
              · exact .inr (.inr (.inl q)))).2 fun q => Vw.nin e (by
                have := f0 a q
                simp only [List.mem_append] at this ⊢
                exact .inr (.inr this))) (Vw.nin e)
        obtain ⟨σ₄, fw⟩ := p
        have y₄ := x₄.above f0
        cases fw with
        | next =>
          have fr : f = .next := fr
          subst fr
          exact ⟨l.length, Nat.lt_succ_self _, l, σ₄, mad₄, rfl, rfl, st₄, x₄, p₄, fin⟩
        | cont =>
          have fr : f = .cont := fr
          subst fr
          exact ⟨l.length, Nat.lt_succ_self _, l, σ₄, mad₄, rfl, rfl, st₄, x₄, p₄, fin⟩
        | brk =>
          have fr : f = .brk := fr
          subst fr
          exact fin .next h₄ tk₄ mad₄ (p₄.weak fun _ => trivial) y₄ rfl
        | ret d =>
          refine el_EAT (fr) fun v hr1 rv => ?_
          subst hr1
          refine fin (.ret v) h₄ tk₄ mad₄ (p₄.weak fun _ => trivial) y₄ ⟨v, rfl, rv.mono (Vw.less fun a ha => ?_)⟩
          simp only [List.mem_append] at ha ⊢
          rcases ha with q | q | q <;> simp [q]

theorem for_snd (S : SndI prog w base F n) (X : ExsOK prog w base F n) (x : FS prog w base A fl hid0 env sc σ mad s.heap) (rm : Rm A n) {t i : Expr} {body : List Stmt} {pos : Pos} {Q : Flow → Shared → Prop}
    (fin : StFin prog w base A fl hid0 env sc mad s nm (forS F sc σ t i body) Q E) :
    wpAny (model prog w) A (exec (.For t i body [] pos) env) Q E s := by
  refine StFin.itn fin fun hc fin => ?_
  have hc : isSet i = false ∧ ∀ st ∈ body, mk 10 st = false := by simpa using hc
  refine el_EAT (x.freeze (occ 30 i)) fun mad' sub x' => ?_
  have fin' := fin.after (tk := s.toks) (Stp.ofSub (h := s.heap) sub)
  refine wpAny_For ?_ (folded_pure hc.1)
  refine S.it (x'.here rm) _ E ?_
  cases hr : F.it sc (fast (Mine.freeze (occ 30 i) σ)) i with
  | bad => rw [hr] at fin'; exact fin'.elim
  | exc c m => rw [hr] at fin'; exact fun e h' tk y => StFin.excX x' fin' y
  | ok l =>
    rw [hr] at fin'
    refine StFin.itn fin' fun htup fin' => StFin.ite fin' fun hl fin' => ?_
    intro v h₂ tk₂ g₂ hPI
    refine el_EEAAT (hPI) fun I wr hr2 hands hnew => ?_
    subst hr2
    refine el_EAT (hands [] (by simp)) fun St it st => ?_
    exact for_loop X rm x' it (tup_own htup) hnew hc.2 l.2 _ mad' _ rfl st (x'.below g₂ hnew (it.live _ _ st)) (Stp.ofGr g₂) fin'
end
end Mine
end
section
namespace Mine

section
variable {prog : Program} {w : World} {base : Heap} {A : Around} {fl : List Env} {hid0 : List Addr} {env : Env} {sc : Scope} {σ : Sg} {mad : List Addr} {s : Shared} {n : Nat} {nm : Prop} {F : Fns} {E : Value → Shared → Prop}

theorem notIter_list {a : Addr} {items : Array Value} {Q : Bool → Shared → Prop} (hl : s.heap.IsList a items) (q : Q false s) : wpAny (model prog w) A (notIterableAtAll (.ref a)) Q E s := by
  unfold notIterableAtAll
  refine wpAny_bind (wpAny_specialOf hl.typeIs slot_list_iter.lookup ?_)
  exact wpAny_pure q

theorem unpack_two {a : Addr} {v u : Value} {targets : List (Bool × (Value → Sem Unit))} {Q : Unit → Shared → Prop} (hh : A.handled = none) (hl : s.heap.IsList a #[v, u]) (hn : targets.length = 2) (hs : targets.findIdx? (·.1) = none)
    (h : ∀ h', (∀ b o, s.heap.get? b = some o → h'.get? b = some o) → wpAny (model prog w) A (assignInOrder (targets.map (·.2)) [v, u]) Q E { s with heap := h' }) : wpAny (model prog w) A (unpack (.ref a) targets) Q E s := by
  have lt : a ≠ s.heap.objs.size := by obtain ⟨o, ho, _⟩ := hl; exact Nat.ne_of_lt (Heap.lt_size ho)
  unfold unpack
  rw [hn, hs]
  refine wpAny_bind (wpAny_holding ?_)
  unfold unpackItems
  refine wpAny_bind (notIter_list hl ?_)
  simp only [Bool.false_eq_true, if_false]
  refine wpAny_bind (wpAny_holding (wpAny_pyIter_list hl ?_))
  have hl₁ : (s.heap.push { cls := .type "list_iterator", data := .fields #[.ref a, .int 0 0] }).IsList a #[v, u] := hl.push _
  refine wpAny_bind (wpAny_holding ?_)
  show wpAny _ _ (pyNext (.ref s.heap.objs.size) >>= _) _ _ _
  refine wpAny_bind (wpAny_pyNext_list_item (i := 0) (x := v) ⟨_, Heap.get?_push_size _ rfl, rfl, rfl⟩ hl₁ rfl fun h₁ hi₁ hs₁ => ?_)
  dsimp only
  refine wpAny_bind (wpAny_holding ?_)
  have hl₂ : h₁.IsList a #[v, u] := hl₁.extBut hs₁.extBut lt
  show wpAny _ _ (pyNext (.ref s.heap.objs.size) >>= _) _ _ _
  refine wpAny_bind (wpAny_pyNext_list_item (i := 1) (x := u) hi₁ hl₂ rfl fun h₂ hi₂ hs₂ => ?_)
  dsimp only
  refine wpAny_bind (wpAny_holding ?_)
  show wpAny _ _ (pure []) _ _ _
  refine wpAny_pure (wpAny_pure (wpAny_pure ?_))
  rw [if_neg (by simp)]
  have hl₃ : h₂.IsList a #[v, u] := hl₂.extBut hs₂.extBut lt
  refine wpAny_bind (wpAny_holding (wpAny_pyNext_list_end (i := 2) hh hi₂ hl₃ rfl fun h₃ he₃ => ?_))
  simp only [Option.isSome_none, Bool.false_eq_true, if_false]
  refine wpAny_pure (h h₃ fun b o e => ?_)
  have ne : b ≠ s.heap.objs.size := Nat.ne_of_lt (Heap.lt_size e)
  exact he₃ b o ne (hs₂.extBut b o ne (hs₁.extBut b o ne (Heap.get?_push_of_some _ e)))

theorem unpack_one {a : Addr} {v : Value} {targets : List (Bool × (Value → Sem Unit))} {Q : Unit → Shared → Prop} (hh : A.handled = none) (hl : s.heap.IsList a #[v]) (hn : targets.length = 2) (hs : targets.findIdx? (·.1) = none)
    (h : ∀ h₁ h' tk e, (∀ b o, s.heap.get? b = some o → h₁.get? b = some o) → Heap.NewExc h₁ h' e "ValueError" → E (.ref e) { s with heap := h', toks := tk }) : wpAny (model prog w) A (unpack (.ref a) targets) Q E s := by
  have lt : a ≠ s.heap.objs.size := by obtain ⟨o, ho, _⟩ := hl; exact Nat.ne_of_lt (Heap.lt_size ho)
  unfold unpack
  rw [hn, hs]
  refine wpAny_bind (wpAny_holding ?_)
  unfold unpackItems
  refine wpAny_bind (notIter_list hl ?_)
  simp only [Bool.false_eq_true, if_false]
  refine wpAny_bind (wpAny_holding (wpAny_pyIter_list hl ?_))
  have hl₁ : (s.heap.push { cls := .type "list_iterator", data := .fields #[.ref a, .int 0 0] }).IsList a #[v] := hl.push _
  refine wpAny_bind (wpAny_holding ?_)
  show wpAny _ _ (pyNext (.ref s.heap.objs.size) >>= _) _ _ _
  refine wpAny_bind (wpAny_pyNext_list_item (i := 0) (x := v) ⟨_, Heap.get?_push_size _ rfl, rfl, rfl⟩ hl₁ rfl fun h₁ hi₁ hs₁ => ?_)
  dsimp only
  refine wpAny_bind (wpAny_holding ?_)
  have hl₂ : h₁.IsList a #[v] := hl₁.extBut hs₁.extBut lt
  show wpAny _ _ (pyNext (.ref s.heap.objs.size) >>= _) _ _ _
  refine wpAny_bind (wpAny_pyNext_list_end (i := 1) hh hi₁ hl₂ rfl fun h₂ he₂ => ?_)
  dsimp only
  refine wpAny_pure (wpAny_pure ?_)
  rw [if_pos (by simp)]
  have kp : ∀ b o, s.heap.get? b = some o → h₂.get? b = some o := fun b o e => by
    have ne : b ≠ s.heap.objs.size := Nat.ne_of_lt (Heap.lt_size e)
    exact he₂ b o ne (hs₁.extBut b o ne (Heap.get?_push_of_some _ e))
  refine wpAny_bind (wpAny_rule (wpAny_bind (wpAny_raiseErrorMade plainExc_ValueError hh (fun h' tk e x => h h₂ h' tk e kp x) ?_)))
  show (Str.ofString (toString "not enough values to unpack (expected " ++ toString 2 ++ toString ", got " ++ toString 1 ++ toString ")")).length ≤ sizeLine
  decide +kernel

theorem no_swap {e : Expr} {ts : List Expr} {kk k : Nat} {p : Pos} : swapsWith e (some (.Tuple ts kk p)) k env = pure false := by
  unfold swapsWith
  cases e <;> rfl
theorem no_swapped {e : Expr} {ts : List Expr} {kk : Nat} {p : Pos} (h : isTup e = false) : swappedStores [.Tuple ts kk p] e env = pure none := by
  unfold swappedStores
  cases e <;> first | rfl | exact no_true h.symm
theorem pair_snd (S : SndE prog w base F n) (x : FS prog w base A fl hid0 env sc σ mad s.heap) (rm : Rm A n) {y z : Str} {yp zp tp pos : Pos} {kk : Nat} {e : Expr} {Q : Flow → Shared → Prop}
    (fin : StFin prog w base A fl hid0 env sc mad s nm (setT F sc σ y z e) Q E) : wpAny (model prog w) A (exec (.Assign [.Tuple [.Name y yp, .Name z zp] kk tp] e pos) env) Q E s := by
  refine StFin.ite fin fun hc fin => ?_
  have hc : (storable sc y = true ∧ storable sc z = true) ∧ isTup e = false := by simpa using hc
  refine el_EAT (x.freeze (occ 30 e)) fun mad' sub x' => ?_
  have fin' := fin.after (tk := s.toks) (Stp.ofSub (h := s.heap) sub)
  refine Assign_Tuple (ev_step S x' rm fin' fun d v h' tk g x₁ r f => ?_) (by show swapsWith e (some (.Tuple [.Name y yp, .Name z zp] kk tp)) pos.line env = pure false; exact no_swap) (no_swapped hc.2)
  rw [arm_assign_Tuple]
  refine f.ofR fun l hl f => ?_
  rw [D.list?_s hl] at r
  unfold unp2 at f
  refine el_EEAAAT (rep_isList r) fun ad vs hr2 na hl rr => ?_
  subst hr2
  cases h2 : two? l with
  | some q =>
    rw [h2] at f
    rw [two?_s (a := q.1) (b := q.2) h2] at rr
    refine el_EEAAT (reps_cons.mp rr) fun v1 r1 e1 q1 rr1 => ?_
    refine el_EEAAT (reps_cons.mp rr1) fun v2 r2 e2 q2 rr2 => ?_
    have e3 : vs = #[v1, v2] := by
      apply Array.toList_inj.mp
      rw [e1, e2, reps_nil.mp rr2]
    subst e3
    refine wpAny_bind (wpAny_standAt (unpack_two (s := { s with heap := h', toks := tk }) x.cx.hd hl rfl rfl fun h₁ k₁ => ?_))
    have g₁ : Gr (faOf fl) [] h' h₁ := Gr.keeps0 k₁
    have x₂ := x₁.grow g₁
    refine assignInOrder_cons (wpAny_assign_Name (store_val (s := { s with heap := h₁, toks := tk }) x₂ hc.1.1 (q1.mono (x₁.cx.view g₁)) fun h₂ tk₂ x₃ g₂ => ?_))
    refine assignInOrder_cons (wpAny_assign_Name (store_val (s := { s with heap := h₂, toks := tk₂ }) x₃ hc.1.2 ((q2.mono (x₁.cx.view g₁)).mono (x₂.viewOwn g₂)) fun h₃ tk₃ x₄ g₃ => ?_))
    exact assignInOrder_nil (f .next h₃ tk₃ mad' (((Stp.ofGr g₁).trans (Stp.ofBound g₂ x₃)).trans (Stp.ofBound g₃ x₄)) x₄ rfl)
  | none =>
    rw [h2] at f
    refine StFin.ite f fun h1 f => ?_
    refine el_ET (Option.isSome_iff_exists.mp h1) fun a ha => ?_
    rw [one?_s ha] at rr
    refine el_EEAAT (reps_cons.mp rr) fun v1 r1 e1 q1 rr1 => ?_
    have e3 : vs = #[v1] := by
      apply Array.toList_inj.mp
      rw [e1, reps_nil.mp rr1]
    subst e3
    refine wpAny_bind (wpAny_standAt (unpack_one (s := { s with heap := h', toks := tk }) x.cx.hd hl rfl rfl fun h₁ h₂ tk₂ e k₁ ne => ?_))
    have g₁ : Gr (faOf fl) [] h' h₁ := Gr.keeps0 k₁
    exact StFin.excX (s := { s with heap := h', toks := tk }) x₁ f ((Xc.ofNew ne).shift g₁)
end
end Mine
end
section
namespace Mine

noncomputable def bmVE : List Value := [.type "ValueError", .type "Exception", .type "BaseException", .type "object"]

structure ErrCls (h : Heap) (C : Addr) : Prop where
  cls : ∃ (nm q : Str) (N : Addr) (bs : List Value) (hdct : Bool) (sn : List Str) (sub : List Value) (ab : Bool) (col : Option Bool) (dd : Option Addr) (k0 k1 k2 k3 k5 : Option Value) (mN : Str → Option Value),
    h.get? C = some (excClassObj nm q C N bs bmVE hdct sn sub ab col dd k0 k1 k2 k3 k5 "ValueError.__new__") ∧ h.Ns N mN ∧ mN "__init__" = none ∧ mN "__str__" = none

theorem ErrCls.keeps {h h' : Heap} {C : Addr} (x : ErrCls h C) (k : h.StaysIn h') : ErrCls h' C := by
  refine el_EEEEEEEEEEEEEEEEAAT (x.cls) fun nm q N bs hdct sn sub ab col dd k0 k1 k2 k3 k5 mN h1 h2 h3 => ?_
  exact ⟨nm, q, N, bs, hdct, sn, sub, ab, col, dd, k0, k1, k2, k3, k5, mN, k _ _ h1, h2.keeps k, h3⟩

section
variable {prog : Program} {w : World} {A : Around} {E : Value → Shared → Prop} {h : Heap} {g : Array GenState} {d : Drawn} {t : Nat} {os : OsState}
variable {nm q : Str} {C N : Addr} {bs : List Value} {hdct : Bool} {sn : List Str} {sub : List Value} {ab : Bool} {col : Option Bool} {dd : Option Addr} {k0 k1 k2 k3 k5 : Option Value} {newId : String}

theorem str_kind : builtinKind "BaseException.__str__" = some .slot := by decide +kernel
theorem str_split : splitId "BaseException.__str__" = some ("BaseException", "__str__") := by decide +kernel
theorem bmVE_base : bmVE.contains (.type "BaseException") = true := by decide +kernel

theorem check_str_sub {M : Model} {e : Addr} {oe : Obj} {Q : Unit → Shared → Prop} (hC : h.get? C = some (excClassObj nm q C N bs bmVE hdct sn sub ab col dd k0 k1 k2 k3 k5 newId)) (he : h.get? e = some oe) (hcls : oe.cls = .ref C)
    (hq : Q () ⟨h, g, d, t, os⟩) : wpAny M A (checkBuiltinCall "BaseException.__str__" ⟨[.ref e], []⟩) Q E ⟨h, g, d, t, os⟩ := by
  have hcB : (Value.ref C :: bmVE).contains (.type "BaseException") = true := by rw [List.contains_cons, bmVE_base, Bool.or_true]
  simp only [checkBuiltinCall, str_kind, str_split]
  unfold isInstance
  repeat (first | (with_reducible refine wpAny_loadPart_at he ?_; rw [hcls]) | (with_reducible refine wpAny_isSubtype_exc hC ?_; rw [hcB]) | wp_step)
  exact hq

theorem bexcArgs_sub {M : Model} {e t0 : Addr} {oe : Obj} {vs : Array Value} {items : List Value} {Q : Value × List Value → Shared → Prop} (he : h.get? e = some oe) (hd : oe.data = .fields vs) (h0 : vs[0]? = some (.ref t0)) (ht : h.TupAt t0 items) (hq : Q (.ref t0, items) ⟨h, g, d, t, os⟩) :
    wpAny M A (Builtin.BaseException.bexcArgs (.ref e)) Q E ⟨h, g, d, t, os⟩ := by
  refine el_EEAAT (ht) fun ot k hto _ htd => ?_
  unfold Builtin.BaseException.bexcArgs
  refine wpAny_bind (wpAny_field he hd h0 (wpAny_bind (wpAny_seqItems hto htd ?_)))
  have : items.toArray.toList = items := by simp
  show wpAny M A (pure (Value.ref t0, items.toArray.toList)) Q E _
  rw [this]; exact wpAny_pure hq

theorem bexcStr_sub {e t0 : Addr} {oe : Obj} {vs : Array Value} {m : Str} {tk : Tok} {Q : PySem.Fin → Shared → Prop} (he : h.get? e = some oe) (hd : oe.data = .fields vs) (h0 : vs[0]? = some (.ref t0)) (ht : h.TupAt t0 [.str m tk]) (hq : Q (.done (.ret (.str m tk))) ⟨h, g, d, t, os⟩) :
    wpAny (model prog w) A (Builtin.«BaseException.__str__» ⟨[.ref e], []⟩) Q E ⟨h, g, d, t, os⟩ := by
  unfold Builtin.«BaseException.__str__»
  repeat (first | with_reducible refine bexcArgs_sub he hd h0 ht ?_ | wp_step)
  exact hq

theorem strOf_sub {e t0 : Addr} {oe : Obj} {vs : Array Value} {m : Str} {tk : Tok} {mN : Str → Option Value} {Q : Value → Shared → Prop} (hC : h.get? C = some (excClassObj nm q C N bs bmVE hdct sn sub ab col dd k0 k1 k2 k3 k5 newId)) (hn : h.Ns N mN) (hs : mN "__str__" = none)
    (he : h.get? e = some oe) (hcls : oe.cls = .ref C) (hd : oe.data = .fields vs) (h0 : vs[0]? = some (.ref t0)) (ht : h.TupAt t0 [.str m tk]) (hu : A.units < cLine) (hq : Q (.str m tk) ⟨h, g, d, t, os⟩) :
    wpAny (model prog w) A (Builtin.Str.strOf (.ref e)) Q E ⟨h, g, d, t, os⟩ := by
  have inner : wpAny (model prog w) A (callSpecial? (.ref e) "__str__") (fun r s' => r = some (.str m tk) ∧ s' = ⟨h, g, d, t, os⟩) E ⟨h, g, d, t, os⟩ := by
    unfold callSpecial? specialOf
    refine wpAny_bind (wpAny_bind ?_)
    unfold typeOf
    refine wpAny_bind (wpAny_load he (wpAny_pure ?_))
    rw [hcls]
    refine wpAny_typeLookup_exc hC hn PySem.F.excBase_ValueError.mroIs PySem.F.excStr_ValueError.str.lookup ?_
    rw [show mN (Str.ofString "__str__") = none from hs]
    dsimp only
    refine wpAny_holding (wpAny_bind (wpAny_of_eq (PySem.F.excStr_ValueError.str.bind _) ?_))
    refine wpAny_bind (wpAny_call (codeAny_call_builtin PySem.F.excStr_ValueError.str.plain PySem.F.entry_bexc_str (check_str_sub hC he hcls (bexcStr_sub he hd h0 ht ?_))))
    exact wpAny_pure ⟨rfl, rfl⟩
  have inner' : ∀ {Q : Option Value → Shared → Prop}, Q (some (.str m tk)) ⟨h, g, d, t, os⟩ → wpAny (model prog w) A (callSpecial? (.ref e) "__str__") Q E ⟨h, g, d, t, os⟩ := fun q => wpAny_mono inner (fun r s' hr => by obtain ⟨rfl, rfl⟩ := hr; exact q) fun _ _ x => x
  unfold Builtin.Str.strOf
  repeat (first | with_reducible refine wpAny_cRoomFor hu ?_ | with_reducible refine inner' ?_ | wp_step)
  exact hq
end
end Mine
end
section
namespace Mine

structure GOK (g : G) (base : Heap) : Prop where
  tp : TpN g base
  pat : PatAt base g.pat
  sys : ∃ a o, sysModules ≤ a ∧ base.get? a = some o
  err : ∀ a l, g.exc a = some l → ErrCls base a ∧ l = ["ValueError", "Exception", "BaseException", "object"]

section
variable {g : G} {prog : Program} {w : World} {base : Heap} {A : Around} {fl : List Env} {hid0 : List Addr} {env : Env} {sc : Scope} {σ : Sg} {mad : List Addr} {s : Shared} {n : Nat} {nm : Prop} {F : Fns} {E : Value → Shared → Prop}

theorem Xc.ofMade {h h' : Heap} {e C : Addr} {m : Str} {ta : Tok} (x : Heap.MadeExcOf h h' e (.ref C) [.str m ta]) : Xc fl h e (.ref C) m h' := by
  refine el_EAAT (x.there) fun t h1 h2 h3 => ?_
  exact ⟨Gr.keeps0 x.keeps, x.new, _, _, .ref t, h1, rfl, rfl, rfl, fun _ => ⟨t, ta, rfl, h2, _, _, h3, rfl, rfl⟩, .inl rfl⟩

theorem raise_snd (K : GOK g base) (x : FS prog w base A fl hid0 env sc σ mad s.heap) {y m : Str} {np cp cpos pos : Pos} {ck : Nat} {a : Addr} {Q : Flow → Shared → Prop} (hd : (y == ("__debug__" : Str)) = false) (hk : sc.names.lookup y = some .globalImplicit)
    (hg : g.glob y = some (.obj a)) (he : (g.exc a).isSome = true) (fin : StFin prog w base A fl hid0 env sc mad s nm (.exc (.ref a) m) Q E) :
    wpAny (model prog w) A (exec (.Raise (some (.Call (.Name y np) [.Constant (.str m) ck cp] [] cpos)) none pos) env) Q E s := by
  refine el_ET (Option.isSome_iff_exists.mp he) fun l hl => ?_
  have EC := (K.err a l hl).1
  refine el_EEEEEEEEEEEEEEEEAAAT ((EC.keeps x.cx.stays).cls) fun nm' q N bs hdct sn sub ab col dd k0 k1 k2 k3 k5 mN h1 h2 h3 h4 => ?_
  refine el_EEAAAT (K.tp) fun mg mb g1 g2 g3 g4 => ?_
  refine el_EAT (g3 y _ hg) fun v e r => ?_
  have r := rep_obj.mp r
  subst r
  have en := x.ok.envOK
  refine wpAny_Raise_call_sub (nm := nm') (q := q) (N := N) (bs := bs) (hdct := hdct) (sn := sn) (sub := sub) (ab := ab) (col := col) (dd := dd) (k0 := k0) (k1 := k1) (k2 := k2) (k3 := k3) (k5 := k5) PySem.F.excBase_ValueError x.cx.hd rfl h3
    (Calls.Name_function_global en.kind (en.glob y hk) (Calls.loadGlobal_global (by rw [en.gl]; exact ns_stays x.cx.stays g1) e ⟨rfl, ?_⟩) hd)
  have hb : backTo cpos (starEach [.Constant (.str m) ck cp] env) = (false, eval (.Constant (.str m) ck cp) env) :: backTo cpos (starEach [] env) := rfl
  rw [hb]
  refine evalArgs_kw rfl ?_
  rw [← hb]
  refine wpAny_items_cons (wpAny_Constant_str (wpAny_items_nil (wpAny_evalAll_nil ⟨rfl, (by decide : 1 ≤ sizeLine), h1, h2, fun h' e' hm => ?_⟩))) rfl
  exact StFin.excX x fin (Xc.ofMade hm)

theorem call_str_exc {e C : Addr} {oe : Obj} {vs : Array Value} {t0 : Addr} {m : Str} {tk : Tok} {Q : Value → Shared → Prop} (EC : ErrCls s.heap C) (he : s.heap.get? e = some oe) (hcls : oe.cls = .ref C) (hd : oe.data = .fields vs) (h0 : vs[0]? = some (.ref t0))
    (ht : s.heap.TupAt t0 [.str m tk]) (hu : A.units + 5 < cLine) (hq : Q (.str m tk) s) : wpAny (model prog w) A (call (.type "str") [.ref e]) Q E s := by
  refine el_EEEEEEEEEEEEEEEEAAAT (EC.cls) fun nm' q N bs hdct sn sub ab col dd k0 k1 k2 k3 k5 mN h1 h2 h3 h4 => ?_
  refine callType_new PySem.F.called_str (by decide) (PySem.F.typeCall_str_1 _) (PySem.F.newCall_str_1 _) (fun obj => PySem.F.args_object_init_2 obj _) PySem.F.entry_str_new
    (meets_str_new (S := fun A' R s' => A'.units + 2 < cLine ∧ s' = s ∧ R (.ok (.ret (.str m tk))) s')
      fun prog' w' A' R s' h => ?_) ⟨by show A.units + 1 + 2 < cLine; omega, rfl, typeIs_str _ _ _, hq⟩
  refine el_AAT (h) fun k1' hr1 k3' => ?_
  subst hr1
  exact strOf_sub (prog := prog') (w := w') (A := A'.in1) h1 h2 h4 he hcls hd h0 ht (by show A'.units + 1 < cLine; omega) k3'

theorem FS.ownW {h h' : Heap} (x : FS prog w base A fl hid0 env sc [] [] h) (gr : Gr (faOf fl) (own env) h h') (ns : ∃ m, h'.Ns env.locals m) (cl : ∀ y c, env.cells.lookup y = some c → ∃ v, h'.IsCell c v) : FS prog w base A fl hid0 env sc [] [] h' := by
  have liveOwn : ∀ a ∈ own env, ∃ o, h'.get? a = some o := fun a ha => by
    rcases List.mem_cons.mp ha with rfl | ha
    · obtain ⟨m, o, es, ep, e, _⟩ := ns; exact ⟨o, e⟩
    · obtain ⟨⟨z, c⟩, hz, rfl⟩ := List.mem_map.mp ha
      have : ∃ c', env.cells.lookup z = some c' ∧ c' = c := by
        have nd := x.ok.nd
        revert hz nd
        generalize env.cells = cs
        intro hz nd
        induction cs with
        | nil => cases hz
        | cons p cs ih =>
          obtain ⟨u, d⟩ := p
          rw [List.map_cons, List.nodup_cons] at nd
          rw [List.lookup_cons]
          rcases List.mem_cons.mp hz with q | q
          · cases q; exact ⟨_, by simp, rfl⟩
          · have : (z == u) = false := by
              simp only [beq_eq_false_iff_ne, ne_eq]
              rintro rfl
              exact nd.1 (List.mem_map_of_mem (f := (·.1)) q)
            rw [this]; exact ih q nd.2
      obtain ⟨c', e, rfl⟩ := this
      obtain ⟨v, o, e', _⟩ := cl z c' e
      exact ⟨o, e'⟩
  refine ⟨x.ok, ⟨x.cx.fr, x.cx.hd, ?_, gr.stays x.cx.stays (fun a ha => x.cx.nob a (by simp only [List.nil_append, List.mem_append]; exact .inl ha)) fun a ha => x.cx.nob a (x.cx.fhid a ha), x.cx.fhid, fun a ha => ?_, x.cx.nob⟩, ns, cl, x.out, x.nd, (fun y b e => by cases e), (fun y z b b' a e => by cases e)⟩
  · have key : ∀ l : List Env, (∀ e ∈ l, ∀ L, e.frame = some L → L ≠ env.locals → L ∉ own env) → h.FunFrames base l → h'.FunFrames base l := fun l => by
      induction l with
      | nil => exact fun _ _ => trivial
      | cons e l ih =>
        intro hl hf
        obtain ⟨hk, ⟨L, o, hL, hn, ho, hd⟩, hr⟩ := hf
        refine ⟨hk, ?_, ih (fun e' he' => hl e' (List.mem_cons_of_mem _ he')) hr⟩
        by_cases q : L = env.locals
        · subst q
          obtain ⟨m, o', es, ep, e', hd', _⟩ := ns
          exact ⟨_, o', hL, hn, e', fun vs q => by rw [hd'] at q; cases q⟩
        · obtain ⟨⟨sl, e'⟩, _⟩ := gr L o ho (hl e List.mem_cons_self L hL q)
          exact ⟨L, _, hL, hn, e', hd⟩
    refine key fl (fun e he L hL hne hm => ?_) x.cx.ff
    rcases List.mem_cons.mp hm with q | q
    · exact hne q
    · obtain ⟨⟨z, cc⟩, hz, rfl⟩ := List.mem_map.mp q
      exact x.ok.cnf _ _ hz (List.mem_filterMap.mpr ⟨e, he, hL⟩)
  · by_cases q : a ∈ own env
    · exact liveOwn a q
    · exact gr.alive q (x.cx.live a ha)

theorem cell_ne {h : Heap} (x : FS prog w base A fl hid0 env sc σ mad h) : ∀ y c, env.cells.lookup y = some c → c ∉ [env.locals] := fun y c e q => x.ok.apart y c e (List.mem_singleton.mp q)

theorem sub_types {n T : String} (hn : n = "ValueError" ∨ n = "IndexError") (hT : T = "ValueError" ∨ T = "IndexError") : isSubtype (.type n) (.type T) = pure (n == T) := by
  rcases hn with rfl | rfl <;> rcases hT with rfl | rfl <;> (rw [isSubtype_type]; kernel_rfl)
theorem sub_base {T : String} (hT : T = "ValueError" ∨ T = "IndexError") : isSubtype (.type T) (.type "BaseException") = pure true := by
  rcases hT with rfl | rfl <;> (rw [isSubtype_type]; kernel_rfl)
theorem sub_tuple {T : String} (hT : T = "ValueError" ∨ T = "IndexError") : isSubtype (.type ((Manifest.find? T).elim "type" fun x => x.metatype)) (.type "tuple") = pure false := by
  rcases hT with rfl | rfl <;> (rw [isSubtype_type]; kernel_rfl)

theorem matches_does (K : GOK g base) {s : Shared} {h₀ : Heap} {W : List Addr} {bare : Bool} {fs : List Value} {e : Addr} {c : Value} {m : Str} {T : String} {b : Bool} (st : base.StaysIn s.heap) (x : Xg fl W bare fs h₀ e c m s.heap) (hs : subExc g c T = some b) {Q : Bool → Shared → Prop} {M : Model} {A' : Around}
    (q : Q b s) : wpAny M A' (excMatches (.ref e) (.type T)) Q E s := by
  refine el_EEEAAAAAT (x.there) fun oe vs a0 he hc hd h0 ht hx => ?_
  have hT : (T == "ValueError" || T == "IndexError") = true := (ite_some hs).1
  have hs := (ite_some hs).2
  have hT : T = "ValueError" ∨ T = "IndexError" := by simpa using hT
  cases c with
  | type n =>
    refine el_AT (ite_some hs) fun hn hs => ?_
    cases hs
    have hn : n = "ValueError" ∨ n = "IndexError" := by simpa using hn
    exact wpAny_excMatches_type ⟨oe, he, hc⟩ (sub_base hT) (sub_tuple hT) (sub_types hn hT) q
  | ref a =>
    refine map_some hs fun l hl hs => ?_
    subst hs
    refine el_AT (K.err a l hl) fun EC hr1 => ?_
    subst hr1
    refine el_EEEEEEEEEEEEEEEEAAAT ((EC.keeps st).cls) fun nm' q' N bs hdct sn sub ab col dd k0 k1 k2 k3 k5 mN h1 h2 h3 h4 => ?_
    obtain ⟨hp, gg, d, tk, os⟩ := s
    refine wpAny_excMatches_sub_type h1 he hc (sub_base hT) (sub_tuple hT) ?_
    have : bmVE.contains (.type T) = ["ValueError", "Exception", "BaseException", "object"].contains T := by
      rcases hT with rfl | rfl <;> decide +kernel
    rw [this]; exact q
  | _ => exact no_some hs

theorem FS.mark {h : Heap} (x : FS prog w base A fl hid0 env sc σ mad h) : base.StaysIn h := x.cx.stays

theorem isNone_b {α : Type} {o : Option α} (h : o.isNone = true) : o = none := Option.isNone_iff_eq_none.mp h
theorem bi_load (K : GOK g base) {h : Heap} (st : base.StaysIn h) (en : EnvOK env sc) {y : Str} {T : String} {p : Pos} (hk : sc.names.lookup y = some .globalImplicit) (hg : g.glob y = none) (hd : (y == ("__debug__" : Str)) = false) (hb : g.bi y = some (.type T))
    {s : Shared} (e : s.heap = h) {Q : Value → Shared → Prop} (q : Q (.type T) s) : wpAny (model prog w) A (eval (.Name y p) env) Q E s := by
  refine el_EEAAAT (K.tp) fun mg mb g1 g2 g3 g4 => ?_
  refine el_AEAT (g4 y _ hg hb) fun e0 v e1 r => ?_
  rw [rep_type.mp r] at e1
  subst e
  exact Calls.Name_function_global en.kind (en.glob y hk) (Calls.loadGlobal_builtin (by rw [en.gl]; exact ns_stays st g1) e0 (by rw [en.bl]; exact ns_stays st g2) e1 q) hd

theorem hand_text (K : GOK g base) {s₀ s : Shared} {mad₀ : List Addr} {e : Addr} {c : Value} {m : Str} {T : String} {Q : Flow → Shared → Prop} (hu : A.units + 5 < cLine) (bs : ∀ h', Gr (faOf fl) (mad₀ ++ own env) s₀.heap h' → base.StaysIn h')
    (es : s = { s₀ with heap := s.heap, toks := s.toks }) (x : FS prog w base A fl hid0 env sc [] [] s.heap) (xg : Xg fl (mad₀ ++ own env) false [.none] s₀.heap e c m s.heap) (al : ∀ a o, s₀.heap.get? a = some o → ∃ o', s.heap.get? a = some o')
    (hse : subExc g c T = some true) {b : Expr} {rp hp : Pos} {RR : Result → Shared → Prop} (hR : ∀ f s', Q f s' → RR (.ok f) s') (fin : StFin prog w base A fl hid0 env sc mad₀ s₀ nm ((handB g sc c m none b).map fun f => ([], f)) Q E) :
    codeAny (model prog w) (A.mark (some (.ref e))) (.handlers (.ref e) [.ExceptHandler none none [.Return (some b) rp] hp] env) RR s := by
  cases hs : (Expr.cst? b).bind Const.str? with
  | none => rw [show handB g sc c m none b = (R.of ((Expr.cst? b).bind Const.str?)).map fun s => .ret (.str s) from rfl, hs] at fin; exact fin.elim
  | some st =>
  rw [show handB g sc c m none b = (R.of ((Expr.cst? b).bind Const.str?)).map fun s => .ret (.str s) from rfl, hs] at fin
  refine bind_some hs fun k h1 h2 => ?_
  refine el_EET (Expr.cst?_s h1) fun ck cp hr2 => ?_
  subst hr2
  rw [Const.str?_s h2]
  refine codeAny_handlers_suite (flight_does xg fun h₁ x₁ q₁ => ?_)
  refine wpAny_execs_cons (wpAny_Return_some (wpAny_Constant_str ?_))
  have y₁ := x.qt q₁ (bs _ x₁.gr)
  have := fin (.ret (.str st s.toks)) h₁ (s.toks + 1) [] ⟨x₁.gr, fun a o e => by obtain ⟨o', e'⟩ := al a o e; exact q₁.al a o' e', by simp, by simp⟩ y₁ ⟨_, rfl, rep_str.mpr ⟨_, rfl⟩⟩
  rw [es]; exact hR _ _ this
theorem hand_name (K : GOK g base) {s₀ s : Shared} {mad₀ : List Addr} {e : Addr} {c : Value} {m : Str} {T : String} {Q : Flow → Shared → Prop} (hu : A.units + 5 < cLine) (bs : ∀ h', Gr (faOf fl) (mad₀ ++ own env) s₀.heap h' → base.StaysIn h')
    (es : s = { s₀ with heap := s.heap, toks := s.toks }) (x : FS prog w base A fl hid0 env sc [] [] s.heap) (xg : Xg fl (mad₀ ++ own env) false [.none] s₀.heap e c m s.heap) (al : ∀ a o, s₀.heap.get? a = some o → ∃ o', s.heap.get? a = some o')
    (hse : subExc g c T = some true) {b : Expr} {rp hp : Pos} {RR : Result → Shared → Prop} {w' : Str} (hR : ∀ f s', wpAny (model prog w) A (do bindName env w' .none; unbindBehindTheSuite env w' hp) (fun _ s₃ => Q f s₃) E s' → RR (.ok f) s')
    (fin : StFin prog w base A fl hid0 env sc mad₀ s₀ nm ((handB g sc c m (some w') b).map fun f => ([], f)) Q E) :
    codeAny (model prog w) (A.mark (some (.ref e))) (.handlers (.ref e) [.ExceptHandler none (some w') [.Return (some b) rp] hp] env) RR s := by
  cases h1 : call1 b with
  | none => unfold handB at fin; rw [h1] at fin; exact fin.elim
  | some q =>
  obtain ⟨z, z'⟩ := q
  refine el_EEET (call1_s h1) fun zp wp' cp hr3 => ?_
  subst hr3
  unfold handB at fin; rw [h1] at fin
  cases c with
  | ref C =>
    replace fin : StFin prog w base A fl hid0 env sc mad₀ s₀ nm ((if asOK g sc z z' w' then (R.ok (Fl.ret (D.str m)) : R Fl) else .bad).map fun f => ([], f)) Q E := fin
    by_cases hcc : asOK g sc z z' w' = true
    · rw [if_pos hcc] at fin
      unfold asOK at hcc
      simp only [Bool.and_eq_true, beq_iff_eq, bne_iff_ne, ne_eq] at hcc
      refine el_AT (hcc) fun hn0 hbz => ?_
      obtain ⟨⟨⟨⟨⟨hzn, hky⟩, hgy⟩, hdy⟩, hdn⟩, hln⟩ := hn0
      subst hzn
      have hbz : g.bi z = some (.type "str") := by
        cases hz : g.bi z with
        | none => rw [hz] at hbz; cases hbz
        | some d => rw [hz] at hbz; rw [D.isTy_t hbz]
      have hdn' : (z' == ("__debug__" : Str)) = false := by simpa using hdn
      have kn : env.kindOf z' = some .local := by unfold Env.kindOf; rw [x.ok.scope]; exact hln
      have hcl : (env.scope.kind == .class || (env.scope.kind == .module && env.locals != env.globals)) = false := by rw [x.ok.envOK.kind]; rfl
      have EC0 : ErrCls base C := by
        refine el_EAT (Option.map_eq_some_iff.mp (ite_some hse).2) fun l hl _ => ?_
        exact (K.err C l hl).1
      clear hse h1
      refine codeAny_handlers_suite_as (flight_does xg fun h₁ x₁ q₁ => ?_)
      have y₁ := x.qt q₁ (bs _ x₁.gr)
      refine el_ET (y₁.ns) fun m₁ hn₁ => ?_
      refine wpAny_storeName_local (s := { s with heap := h₁ }) kn hn₁ (fun h₂ hn₂ hs₂ => ?_) hcl
      have gL : Gr (faOf fl) [env.locals] h₁ h₂ := Gr.sameBut hs₂
      have gO : Gr (faOf fl) (own env) h₁ h₂ := gL.mono fun a ha => by rw [List.mem_singleton.mp ha]; exact own_locals env
      have y₂ : FS prog w base A fl hid0 env sc [] [] h₂ := y₁.ownW gO ⟨_, hn₂⟩ fun y c e => by
        refine el_ET (y₁.cl y c e) fun v hv => ?_
        exact ⟨v, gL.cell (cell_ne y₁ y c e) hv⟩
      refine el_EEEAAAAAT (x₁.there) fun oe vs a0 he hce hd h0 ht hx => ?_
      refine el_EEAAT (ht ⟨C, rfl⟩) fun t ta hr2 htn htt => ?_
      subst hr2
      have ne : ∀ {a o}, h₁.get? a = some o → (∀ es' ep, o.data ≠ .dict es' ep) → a ≠ env.locals := fun e k q => by
        refine el_EEEAAT (hn₁) fun o es' ep e' hd' _ => ?_
        rw [q, e'] at e; cases e
        exact k _ _ hd'
      have he₂ := hs₂.extBut e oe (ne he fun _ _ q => by rw [hd] at q; cases q) he
      have ht₂ : h₂.TupAt t [.str m ta] := by
        refine el_EEAAT (htt) fun o' k' e'' r' r'' => ?_
        exact ⟨o', k', hs₂.extBut t _ (ne e'' fun _ _ q => by rw [r''] at q; cases q) e'', r', r''⟩
      refine wpAny_execs_cons (wpAny_Return_some (wpAny_Call_ofName (bi_load K y₂.cx.stays y₂.ok.envOK hky (isNone_b hgy) (by simpa using hdy) hbz rfl ?_)))
      refine callWith_of (P := fun _ => True) rfl (fun _ _ => keep_type) ?_
      have hb : backTo cp (starEach [.Name z' wp'] env) = (false, eval (.Name z' wp') env) :: backTo cp (starEach [] env) := rfl
      rw [hb]
      refine evalArgs_kw rfl ?_
      rw [← hb]
      refine wpAny_items_cons (wpAny_Name (wpAny_loadName_local (v := .ref e) x.ok.envOK.kind kn hn₂ (by simp) ?_) hdn') rfl
      refine wpAny_items_nil (wpAny_evalAll_nil ⟨trivial, ?_⟩)
      refine call_str_exc (s := { s with heap := h₂, toks := _ }) (EC0.keeps y₂.cx.stays) he₂ hce hd h0 ht₂ hu ?_
      refine hR _ _ (wpAny_nameGoes (s := { s with heap := h₂, toks := _ }) kn hn₂ hcl fun h₃ m₃ hn₃ hs₃ => ?_)
      have gL₃ : Gr (faOf fl) [env.locals] h₂ h₃ := Gr.sameBut hs₃
      have gO₃ : Gr (faOf fl) (own env) h₂ h₃ := gL₃.mono fun a ha => by rw [List.mem_singleton.mp ha]; exact own_locals env
      have y₃ : FS prog w base A fl hid0 env sc [] [] h₃ := y₂.ownW gO₃ ⟨_, hn₃⟩ fun y c e => by
        refine el_ET (y₂.cl y c e) fun v hv => ?_
        exact ⟨v, gL₃.cell (cell_ne y₂ y c e) hv⟩
      rw [es]
      exact fin (.ret (.str m ta)) h₃ _ [] ⟨(x₁.gr.trans (gO.mono fun a ha => List.mem_append_right _ ha)).trans (gO₃.mono fun a ha => List.mem_append_right _ ha), fun a o e => by
        refine el_ET (al a o e) fun o₀ e₀ => ?_
        refine el_ET (q₁.al a o₀ e₀) fun o₁ e₁ => ?_
        by_cases q : a = env.locals
        · subst q
          refine el_EEEAT (hn₃) fun o es' ep e' _ => ?_
          exact ⟨o, e'⟩
        · exact ⟨o₁, hs₃.extBut a _ q (hs₂.extBut a _ q e₁)⟩, by simp, by simp⟩ y₃ ⟨_, rfl, rep_str.mpr ⟨_, rfl⟩⟩
    · rw [if_neg hcc] at fin; exact fin.elim
  | _ => exact fin.elim

theorem handle_snd (K : GOK g base) {s₀ : Shared} {mad₀ : List Addr} {e : Addr} {c : Value} {m : Str} {Q : Flow → Shared → Prop} (hu : A.units + 5 < cLine)
    (bs : ∀ h', Gr (faOf fl) (mad₀ ++ own env) s₀.heap h' → base.StaysIn h') :
    ∀ (hs : List ExceptHandler) (s : Shared), s = { s₀ with heap := s.heap, toks := s.toks } → FS prog w base A fl hid0 env sc [] [] s.heap → Xg fl (mad₀ ++ own env) false [.none] s₀.heap e c m s.heap → (∀ a o, s₀.heap.get? a = some o → ∃ o', s.heap.get? a = some o') →
      StFin prog w base A fl hid0 env sc mad₀ s₀ nm ((handleS g sc c m hs).map fun f => ([], f)) Q E → wpAny (model prog w) A (handleBy (.ref e) env hs) Q E s
  | [], s, es, x, xg, al, fin => fin.elim
  | hd :: rest, s, es, x, xg, al, fin => by
    cases hh : hand? hd with
    | none => rw [handleS_c, hh] at fin; exact fin.elim
    | some q =>
    rw [handleS_c, hh] at fin
    obtain ⟨y, n, b⟩ := q
    refine el_EEET (hand?_s hh) fun yp rp hp hr3 => ?_
    subst hr3
    have fin : StFin prog w base A fl hid0 env sc mad₀ s₀ nm ((if sc.names.lookup y == some .globalImplicit && (g.glob y).isNone && y != "__debug__" then
      (R.of ((g.bi y).bind D.type?)).bind fun T => (R.of (subExc g c T)).bind fun bb => if bb then handB g sc c m n b else handleS g sc c m rest
    else .bad).map fun f => ([], f)) Q E := fin
    by_cases hc : (sc.names.lookup y == some .globalImplicit && (g.glob y).isNone && y != "__debug__") = true
    · rw [if_pos hc] at fin
      simp only [Bool.and_eq_true, beq_iff_eq, bne_iff_ne, ne_eq] at hc
      refine el_AT (hc) fun hn0 hdb => ?_
      obtain ⟨hk, hgl⟩ := hn0
      cases hb : (g.bi y).bind D.type? with
      | none => rw [hb] at fin; exact fin.elim
      | some T =>
      rw [hb] at fin
      have hT : g.bi y = some (.type T) := bind_some hb fun d h1 h2 => by rw [h1, D.type?_s h2]
      cases hse : subExc g c T with
      | none => rw [show (R.of (some T)).bind (fun T => (R.of (subExc g c T)).bind fun bb => if bb then handB g sc c m n b else handleS g sc c m rest) = (R.of (subExc g c T)).bind fun bb => if bb then handB g sc c m n b else handleS g sc c m rest from rfl, hse] at fin; exact fin.elim
      | some bb =>
      rw [show (R.of (some T)).bind (fun T => (R.of (subExc g c T)).bind fun bb => if bb then handB g sc c m n b else handleS g sc c m rest) = (R.of (subExc g c T)).bind fun bb => if bb then handB g sc c m n b else handleS g sc c m rest from rfl, hse] at fin
      refine wpAny_handleBy_cons (codeAny_handlers_test (bi_load K x.cx.stays x.ok.envOK hk (isNone_b hgl) (by simpa using hdb) hT rfl ?_)) (by intro q; cases q)
      refine matches_does K x.cx.stays xg hse ?_
      cases bb with
      | false => exact handle_snd K hu bs rest s es x xg al fin
      | true => cases n with
        | none => exact hand_text K hu bs es x xg al hse (fun _ _ q => q) fin
        | some w' => exact hand_name K hu bs es x xg al hse (fun _ _ q => q) fin
    · rw [if_neg hc] at fin; exact fin.elim
end
end Mine
end
section
namespace Mine

noncomputable abbrev ExOK (prog : Program) (w : World) (base : Heap) (F : Fns) (n : Nat) : Prop := ∀ {A : Around} {fl : List Env} {hid0 : List Addr} {env : Env} {sc : Scope} {σ : Sg} {mad : List Addr} {s : Shared} {st : Stmt} {nm : Prop} {Q : Flow → Shared → Prop} {E : Value → Shared → Prop},
  Rm A n → FS prog w base A fl hid0 env sc σ mad s.heap → (nm → ∃ k, mk k st = false) → StFin prog w base A fl hid0 env sc mad s nm (F.ex sc σ st) Q E → wpAny (model prog w) A (exec st env) Q E s

section
variable {g : G} {prog : Program} {w : World} {base : Heap} {A : Around} {fl : List Env} {hid0 : List Addr} {env : Env} {sc : Scope} {σ : Sg} {mad : List Addr} {s : Shared} {n : Nat} {nm : Prop} {F : Fns} {E : Value → Shared → Prop}

theorem try_snd (K : GOK g base) (X : ExsOK prog w base F n) (x : FS prog w base A fl hid0 env sc σ mad s.heap) (rm : Rm A n) {body : List Stmt} {h₀ : ExceptHandler} {hs : List ExceptHandler} {pos : Pos} {Q : Flow → Shared → Prop} (hn : nm → ∀ st ∈ body, ∃ k, mk k st = false)
    (fin : StFin prog w base A fl hid0 env sc mad s nm (tryR g sc (h₀ :: hs) (F.exs sc σ body)) Q E) : wpAny (model prog w) A (exec (.Try body (h₀ :: hs) [] [] pos) env) Q E s := by
  refine wpAny_Try_except (X rm x hn ?_)
  cases hr : F.exs sc σ body with
  | bad => rw [hr] at fin; exact fin
  | ok p =>
    rw [hr] at fin
    intro f h' tk mad' stp x' fr
    obtain ⟨σ', fw⟩ := p
    cases fw with
    | next =>
      have fr : f = .next := fr
      subst fr
      exact wpAny_execs_nil (fin .next h' tk mad' stp x' rfl)
    | brk => exact fin.elim
    | cont => exact fin.elim
    | ret d =>
      refine el_EAT (fr) fun v hr1 rv => ?_
      subst hr1
      exact fin (.ret v) h' tk mad' stp x' ⟨v, rfl, rv⟩
  | exc c m =>
    rw [hr] at fin
    have fin : StFin prog w base A fl hid0 env sc mad s nm ((handleS g sc c m (h₀ :: hs)).map fun f => ([], f)) Q E := fin
    intro e h' tk xg al y
    have bs : ∀ h', Gr (faOf fl) (mad ++ own env) s.heap h' → base.StaysIn h' := fun h' gr => gr.stays x.cx.stays (fun a ha => x.cx.nob a (by
      rcases List.mem_append.mp ha with q | q
      · exact List.mem_append_left _ q
      · simp only [List.mem_append]; exact .inr (.inl q))) fun a ha => x.cx.nob a (x.cx.fhid a ha)
    have fr := y.cx.fr
    have ff := y.cx.ff
    refine el_ET (y.ok.top) fun outer hfl => ?_
    have key : ∀ {Q' : Unit → Shared → Prop}, (∀ h₁, Xg fl (mad ++ own env) false [rawInt env.locals] s.heap e c m h₁ → Qt h' h₁ → Q' () { s with heap := h₁, toks := tk }) → wpAny (model prog w) A (noteFrame (.ref e) env) Q' E { s with heap := h', toks := tk } := fun k => by
      rw [hfl] at fr ff xg
      exact note_does (s := { s with heap := h', toks := tk }) fr ff y.ok.fr (fun v hv => by simpa using hv) xg al fun h₁ x₁ q₁ => k h₁ (by rw [hfl]; exact x₁) q₁
    refine key fun h₁ x₁ q₁ => ?_
    refine flight_does (s := { s with heap := h₁, toks := tk }) x₁ fun h₂ x₂ q₂ => ?_
    refine handle_snd K (by have := rm.units; omega) bs (h₀ :: hs) { s with heap := h₂, toks := tk } rfl ((y.qt q₁ (bs _ x₁.gr)).qt q₂ (bs _ x₂.gr)) x₂ (fun a o e => ?_) fin
    refine el_ET (al a o e) fun o' e' => ?_
    refine el_ET (q₁.al a o' e') fun o₁ e₁ => ?_
    exact q₂.al a o₁ e₁

theorem mk_succ {k : Nat} {st : Stmt} (h : mk k st = false) : ∃ j, k = j + 1 := by
  cases k with
  | zero => exact no_true h.symm
  | succ j => exact ⟨j, rfl⟩
theorem mk_any {k : Nat} {l : List Stmt} (h : l.any (mk k) = false) : ∀ st ∈ l, ∃ k, mk k st = false := fun st hst => ⟨k, by simpa using (List.any_eq_false.mp h) st hst⟩
theorem mk_inv {X : Prop} {st : Stmt} (h : ∃ k, mk k st = false) (k : ∀ k, mk (k + 1) st = false → X) : X := by
  refine el_ET (h) fun j h => ?_
  refine el_ET (mk_succ h) fun i hr1 => ?_
  subst hr1
  exact k i h
theorem name_q {e : Expr} (h : (Expr.name? e).isSome = true) : ∃ x p, e = .Name x p := by
  refine el_ET (Option.isSome_iff_exists.mp h) fun x hx => ?_
  refine el_ET (Expr.name?_s hx) fun p hr1 => ?_
  subst hr1
  exact ⟨x, p, rfl⟩

theorem setN_snd (K : GOK g base) (S : SndC prog w base F n) (rm : Rm A n) (x : FS prog w base A fl hid0 env sc σ mad s.heap) {y : Str} {yp pos : Pos} {e : Expr} {Q : Flow → Shared → Prop} (hn : nm → ∃ k, mk k (.Assign [.Name y yp] e pos) = false)
    (fin : StFin prog w base A fl hid0 env sc mad s nm (setN F sc σ y e) Q E) : wpAny (model prog w) A (exec (.Assign [.Name y yp] e pos) env) Q E s := by
  have no : (isNewL e || isNewD e) = true → ¬ nm := fun h q => mk_inv (hn q) fun k hk => by
    have hk : (true && (isNewL e || isNewD e)) = false := hk
    rw [h] at hk; exact no_true hk.symm
  unfold setN at fin
  by_cases h1 : isNewL e = true
  · rw [if_pos h1] at fin
    refine el_ET (isNewL_t h1) fun p hr1 => ?_
    subst hr1
    exact newlist_snd x (no rfl) fin
  · rw [if_neg h1] at fin
    by_cases h2 : isNewD e = true
    · rw [if_pos h2] at fin
      refine el_ET (isNewD_t h2) fun p hr1 => ?_
      subst hr1
      exact newdict_snd K.sys x (no rfl) fin
    · rw [if_neg h2] at fin
      exact asg_snd S x rm fin

theorem asgS_snd (K : GOK g base) (S : SndC prog w base F n) (rm : Rm A n) (x : FS prog w base A fl hid0 env sc σ mad s.heap) {t e : Expr} {pos : Pos} {Q : Flow → Shared → Prop} (hn : nm → ∃ k, mk k (.Assign [t] e pos) = false)
    (fin : StFin prog w base A fl hid0 env sc mad s nm (asgS F sc σ t e) Q E) : wpAny (model prog w) A (exec (.Assign [t] e pos) env) Q E s := by
  cases t with
  | Name y p => exact setN_snd K S rm x hn fin
  | Tuple ts kk p =>
    refine StFin.ofR fin fun q hq fin1 => ?_
    clear fin
    refine el_EET (names2_s (x := q.1) (y := q.2) hq) fun p1 p2 hr2 => ?_
    subst hr2
    exact pair_snd S.toSndE x rm fin1
  | Subscript o k p =>
    refine StFin.ofR fin fun y hy fin1 => StFin.itn fin1 fun hc fin2 => fin2.ofR fun l hl fin3 => ?_
    clear fin fin1 fin2
    refine el_ET (Expr.name?_s hy) fun op hr1 => ?_
    subst hr1
    simp only [Bool.or_eq_true, not_or, Bool.not_eq_true, Bool.not_eq_false'] at hc
    refine el_AT (hc) fun hn0 hv => ?_
    obtain ⟨hd, hk⟩ := hn0
    refine el_EET (name_q hk) fun ks kp hr2 => ?_
    subst hr2
    refine el_EET (name_q hv) fun vs vp hr2 => ?_
    subst hr2
    refine bind_some hl fun b h1 h2 => ?_
    exact dstore_snd S.toSndE x rm hd (by rw [h1, B.md?_s h2]) fin3
  | _ => exact fin.elim

theorem raiS_snd (K : GOK g base) (x : FS prog w base A fl hid0 env sc σ mad s.heap) {y m : Str} {np cp cpos pos : Pos} {ck : Nat} {Q : Flow → Shared → Prop} (fin : StFin prog w base A fl hid0 env sc mad s nm (raiS g sc y m) Q E) :
    wpAny (model prog w) A (exec (.Raise (some (.Call (.Name y np) [.Constant (.str m) ck cp] [] cpos)) none pos) env) Q E s := by
  refine StFin.ite fin fun hc fin => fin.ofR fun a ha fin => fin.ite fun he fin => ?_
  simp only [Bool.and_eq_true, beq_iff_eq, bne_iff_ne, ne_eq, decide_eq_true_eq] at hc he
  refine bind_some ha fun d h1 h2 => ?_
  exact raise_snd K x (by simpa using hc.1) hc.2 (by rw [h1, D.obj?_s h2]) he.1 fin

theorem ex_snd (K : GOK g base) (S : SndC prog w base F n) (X : ExsOK prog w base F n) (wl : Nat) (st : Stmt) {Q : Flow → Shared → Prop} (rm : Rm A n) (x : FS prog w base A fl hid0 env sc σ mad s.heap) (hn : nm → ∃ k, mk k st = false)
    (fin : StFin prog w base A fl hid0 env sc mad s nm (exS g F wl sc σ st) Q E) : wpAny (model prog w) A (exec st env) Q E s := by
  cases st with
  | Assign ts e p =>
    refine StFin.ofR fin fun t ht fin => ?_
    rw [one?_s ht] at hn ⊢
    exact asgS_snd K S rm x hn fin
  | Expr e p =>
    refine StFin.ofR fin fun q hq fin1 => fin1.ofR fun l hl fin2 => bind_some hl fun b h4 h5 => ?_
    clear fin fin1
    refine el_EEEAAAT (app?_s (x := q.1) (b := q.2) hq) fun p1 p2 p3 hr3 h1 h2 h3 => ?_
    subst hr3
    exact append_snd S.toSndE x rm h1 h2 h3 (by rw [h4, B.ml?_s h5]) fin2
  | If t a b p =>
    refine if_snd S.toSndE x rm (fun l s' hl x' f => X rm x' (fun q => mk_inv (hn q) fun k hk => ?_) f) fin
    have hk := Bool.or_eq_false_iff.mp hk
    rcases hl with rfl | rfl
    · exact mk_any hk.1
    · exact mk_any hk.2
  | For t i body els p =>
    refine StFin.ite fin fun h fin => ?_
    rw [List.isEmpty_iff.mp h]
    exact for_snd S.toSndI X x rm fin
  | While t body els p =>
    refine StFin.ite fin fun h fin => ?_
    rw [List.isEmpty_iff.mp h]
    exact while_snd S.toSndE X x rm (fun q => mk_inv (hn q) fun k hk => mk_any hk) fin
  | Return e p =>
    refine StFin.ofR fin fun e' he fin => ?_
    rw [he]
    exact ret_snd S.toSndE x rm fin
  | Continue p => exact cont_snd x fin
  | Break p => exact brk_snd x fin
  | Assert t m p => exact assert_snd S.toSndE x rm fin
  | Raise e c p =>
    refine StFin.ite fin fun hc fin1 => fin1.ofR fun q hq fin2 => bind_some hq fun e' h1 h2 => ?_
    clear fin fin1
    refine el_EEEET (rais?_s (x := q.1) (m := q.2) h2) fun p1 k p2 p3 hr4 => ?_
    subst hr4
    rw [h1, Option.isNone_iff_eq_none.mp hc]
    exact raiS_snd K x fin2
  | Try body hs els fi p =>
    refine StFin.ite fin fun hc fin => ?_
    simp only [Bool.and_eq_true, List.isEmpty_iff, Bool.not_eq_true'] at hc
    rw [hc.1.1, hc.1.2]
    cases hs with
    | nil => exact no_true hc.2.symm
    | cons h hs => exact try_snd K X x rm (fun q => mk_inv (hn q) fun k hk => mk_any hk) fin
  | _ => exact fin.elim

theorem exs_snd (X : ExOK prog w base F n) : ∀ (l : List Stmt) (σ : Sg) (mad : List Addr) (s : Shared) {Q : Flow → Shared → Prop}, Rm A n → FS prog w base A fl hid0 env sc σ mad s.heap → (nm → ∀ st ∈ l, ∃ k, mk k st = false) → StFin prog w base A fl hid0 env sc mad s nm (exsS F sc σ l) Q E → wpAny (model prog w) A (execs l env) Q E s
  | [], σ, mad, s, Q, rm, x, hn, fin => wpAny_execs_nil (fin .next s.heap s.toks mad Stp.refl x rfl)
  | st :: l, σ, mad, s, Q, rm, x, hn, fin => by
    rw [exsS_c] at fin
    refine wpAny_execs_cons (X rm x (fun q => hn q st List.mem_cons_self) ?_)
    cases hr : F.ex sc σ st with
    | bad => rw [hr] at fin; exact fin
    | exc c m => rw [hr] at fin; exact fin
    | ok p =>
      rw [hr] at fin
      intro f h' tk mad' stp x' fr
      obtain ⟨σ', fw⟩ := p
      have fin' := StFin.after (tk := tk) fin stp
      cases fw with
      | next =>
        have fr : f = .next := fr
        subst fr
        exact exs_snd X l σ' mad' _ rm x' (fun q st' h => hn q st' (List.mem_cons_of_mem _ h)) fin'
      | brk =>
        have fr : f = .brk := fr
        subst fr
        exact fin' .brk h' tk mad' Stp.refl x' rfl
      | cont =>
        have fr : f = .cont := fr
        subst fr
        exact fin' .cont h' tk mad' Stp.refl x' rfl
      | ret d =>
        refine el_EAT (fr) fun v hr1 rv => ?_
        subst hr1
        exact fin' (.ret v) h' tk mad' Stp.refl x' ⟨v, rfl, rv⟩
end
end Mine
end
section
namespace Mine

inductive FnThere (base : Heap) (a : Addr) (fn : Fn) (pos kwo : List Str) (dflt : List D) : Prop
  | mk (o : Obj) (fd : FuncData) (items : List Value) (ho : base.get? a = some o) (hd : o.data = .func fd) (hbody : fd.body = .stmts fn.body) (hsc : fd.scope = fn.scope) (hclo : fd.closure = []) (hgl : fd.globals = mainGlobals) (hbl : fd.builtins = builtinsNs)
    (hcd : base.CodeRec fd.code fd.qualname) (hit : Reps base.get? dflt items)
    (hbind : ∀ (vs kvals : List Value), vs.length ≤ pos.length → pos.length ≤ vs.length + items.length → kvals.length = kwo.length → ∀ s : Shared, base.StaysIn s.heap →
      BindsTo s fd ⟨vs, kwo.zip kvals⟩ (pos.zip (vs ++ items.drop (vs.length + items.length - pos.length)) ++ kwo.zip kvals))
structure FnOK (base : Heap) (a : Addr) (fn : Fn) : Prop where
  there : FnThere base a fn fn.pos fn.kwo fn.dflt
  kind : fn.scope.kind = .function
  co : fn.scope.isCoroutine = false
  gen : fn.scope.isGenerator = false
  nd : (fn.scope.names.map (·.1)).Nodup
  names : ∀ x ∈ fn.pos ++ fn.kwo, fn.scope.names.lookup x = some .local ∨ fn.scope.names.lookup x = some .cell

set_option tactic.hygienic true in
theorem cellsFrom_names : ∀ (names : List (Str × NameKind)) (n : Nat) (acc : List (Str × Addr)) {x : Str}, (x, NameKind.cell) ∈ names ∨ (acc.lookup x).isSome = true → ((cellsFrom n names acc).lookup x).isSome = true
  | [], n, acc, x, h => by
    rcases h with h | h
    · cases h
    · exact h
  | (y, k) :: r, n, acc, x, h => by
    unfold cellsFrom
    split
    · refine cellsFrom_names r _ _ ?_
      rcases h with h | h
      · rcases List.mem_cons.mp h with q | q
        · cases q; right; simp [List.lookup_cons]
        · exact .inl q
      · right
        rw [List.lookup_cons]
        cases x == y <;> first | rfl | exact h
    · rename_i hk
      refine cellsFrom_names r _ _ ?_
      rcases h with h | h
      · rcases List.mem_cons.mp h with q | q
        · cases q; exact absurd rfl hk
        · exact .inl q
      · exact .inr h
set_option tactic.hygienic true in
theorem cellsFrom_sub : ∀ (names : List (Str × NameKind)) (n : Nat) (acc : List (Str × Addr)) {x : Str}, x ∈ (cellsFrom n names acc).map (·.1) → x ∈ acc.map (·.1) ∨ (x, NameKind.cell) ∈ names
  | [], n, acc, x, h => .inl h
  | (y, k) :: r, n, acc, x, h => by
    unfold cellsFrom at h
    split at h
    · rename_i hk
      rcases cellsFrom_sub r _ _ h with q | q
      · rw [List.map_cons, List.mem_cons] at q
        rcases q with q | q
        · right
          have : k = .cell := by cases k <;> first | rfl | cases hk
          rw [q, this]; exact List.mem_cons_self
        · exact .inl q
      · exact .inr (List.mem_cons_of_mem _ q)
    · rcases cellsFrom_sub r _ _ h with q | q
      · exact .inl q
      · exact .inr (List.mem_cons_of_mem _ q)
theorem cellsFrom_nodup : ∀ (names : List (Str × NameKind)) (n : Nat) (acc : List (Str × Addr)), (acc.map (·.1)).Nodup → (names.map (·.1)).Nodup → (∀ x ∈ acc.map (·.1), x ∉ names.map (·.1)) → ((cellsFrom n names acc).map (·.1)).Nodup
  | [], n, acc, h, _, _ => h
  | (y, k) :: r, n, acc, h, hn, hd => by
    rw [List.map_cons, List.nodup_cons] at hn
    unfold cellsFrom
    split
    · refine cellsFrom_nodup r _ _ ?_ hn.2 fun x hx q => ?_
      · rw [List.map_cons, List.nodup_cons]
        exact ⟨fun q => hd _ q (by simp), h⟩
      · rw [List.map_cons, List.mem_cons] at hx
        rcases hx with rfl | hx
        · exact hn.1 q
        · exact hd x hx (by rw [List.map_cons]; exact List.mem_cons_of_mem _ q)
    · exact cellsFrom_nodup r _ _ h hn.2 fun x hx q => hd x hx (by rw [List.map_cons]; exact List.mem_cons_of_mem _ q)

theorem params_ok {ρ : PH} {kindOf : Str → Option NameKind} : ∀ (bs : Vs) (binds : List (Str × Value)) (m cm : Str → Option Value) (σ : Sg), KwR ρ bs binds → (∀ x ∈ bs.map (·.1), kindOf x = some .local ∨ kindOf x = some .cell) →
    (∀ x b, σ.lookup x = some b → ∃ d v, b = .val d ∧ Rep ρ d v ∧ ((kindOf x = some .local ∧ m x = some v) ∨ (kindOf x = some .cell ∧ cm x = some v))) →
    ∀ x b, (bs.foldl (fun s p => setS p.1 (.val p.2) s) σ).lookup x = some b → ∃ d v, b = .val d ∧ Rep ρ d v ∧ ((kindOf x = some .local ∧ bindL kindOf binds m x = some v) ∨ (kindOf x = some .cell ∧ bindC kindOf binds cm x = some v))
  | [], binds, m, cm, σ, hr, hk, hs => by
    have hr : binds = [] := hr
    subst hr
    exact hs
  | (y, d) :: bs, binds, m, cm, σ, hr, hk, hs => by
    refine el_EEAAT (hr) fun v t hr2 r1 r2 => ?_
    subst hr2
    simp only [List.foldl_cons, bindL, bindC]
    refine params_ok bs t _ _ _ r2 (fun x hx => hk x (List.mem_cons_of_mem _ hx)) fun x b e => ?_
    rw [setS_lookup] at e
    by_cases hx : x = y
    · subst hx
      rw [if_pos rfl] at e
      cases e
      refine ⟨d, v, rfl, r1, ?_⟩
      rcases hk x (by simp) with k | k
      · exact .inl ⟨k, by rw [if_pos k]; simp⟩
      · exact .inr ⟨k, by rw [if_neg (by rw [k]; decide)]; simp⟩
    · rw [if_neg hx] at e
      refine el_EEAAT (hs x b e) fun d' v' e' r' h' => ?_
      refine ⟨d', v', e', r', ?_⟩
      rcases h' with ⟨k, h'⟩ | ⟨k, h'⟩
      · refine .inl ⟨k, ?_⟩
        split
        · simp only [if_neg hx]; exact h'
        · exact h'
      · refine .inr ⟨k, ?_⟩
        split
        · exact h'
        · simp only [if_neg hx]; exact h'

theorem setS_foldl_nodup : ∀ (bs : Vs) (σ : Sg), (σ.map (·.1)).Nodup → ((bs.foldl (fun s p => setS p.1 (.val p.2) s) σ).map (·.1)).Nodup
  | [], σ, h => h
  | p :: bs, σ, h => setS_foldl_nodup bs _ (setS_nodup h)

theorem kwr_zip {ρ : PH} : ∀ {xs : List Str} {ds : List D} {vs : List Value}, Reps ρ ds vs → KwR ρ (xs.zip ds) (xs.zip vs)
  | [], _, _, _ => rfl
  | x :: xs, [], vs, h => by rw [reps_nil.mp h, List.zip_nil_right]; rfl
  | x :: xs, d :: ds, vs, h => by
    refine el_EEAAT (reps_cons.mp h) fun v r hr2 h1 h2 => ?_
    subst hr2
    exact ⟨v, _, rfl, h1, kwr_zip h2⟩
theorem kwr_append {ρ : PH} : ∀ {a b : Vs} {x y : List (Str × Value)}, KwR ρ a x → KwR ρ b y → KwR ρ (a ++ b) (x ++ y)
  | [], b, x, y, h, k => by
    have h : x = [] := h
    subst h; exact k
  | (_, _) :: a, b, x, y, ⟨v, t, e, h1, h2⟩, k => by
    subst e
    exact ⟨v, t ++ y, rfl, h1, kwr_append h2 k⟩
theorem kwr_keys {ρ : PH} : ∀ {a : Vs} {x : List (Str × Value)}, KwR ρ a x → x = (a.map (·.1)).zip (x.map (·.2))
  | [], x, h => by
    have h : x = [] := h
    subst h; rfl
  | (_, _) :: a, x, ⟨v, t, e, h1, h2⟩ => by
    subst e
    rw [List.map_cons, List.map_cons, List.zip_cons_cons, ← kwr_keys h2]

noncomputable abbrev CallOK (prog : Program) (w : World) (base : Heap) (F : Fns) (n : Nat) : Prop := ∀ {A : Around} {fl : List Env} {hid : List Addr} {s : Shared} {f : D} {vf : Value} {args : List D} {kws : Vs} {vs : List Value} {kv : List (Str × Value)},
  Rm A n → Cx base A fl hid s.heap → Rep (Vw s.heap hid) f vf → Reps (Vw s.heap hid) args vs → KwR (Vw s.heap hid) kws kv → Does (model prog w) A fl s (call vf vs kv) (F.call f args kws) (PV hid)

section
variable {g : G} {prog : Program} {w : World} {base : Heap} {A : Around} {fl : List Env} {hid : List Addr} {s : Shared} {n : Nat} {F : Fns} {a : Addr} {fn : Fn}

theorem Rm.lt {k : Nat} (r : Rm A k) : A.depth < recursionLimit := by have := r.depth; omega

theorem Ns.live {h : Heap} {C : Addr} (x : ∃ m, h.Ns C m) : ∃ o, h.get? C = some o := by
  obtain ⟨m, o, es, ep, e, _⟩ := x
  exact ⟨o, e⟩
theorem kwr_in {ρ : PH} : ∀ {a : Vs} {x : List (Str × Value)}, KwR ρ a x → ∀ y ∈ x, y.1 ∈ a.map (·.1)
  | [], x, h, y, hy => by have h : x = [] := h; subst h; cases hy
  | (z, d) :: a, x, h, y, hy => by
    refine el_EEAAT (h) fun v t hr2 r1 r2 => ?_
    subst hr2
    rcases List.mem_cons.mp hy with q | q
    · subst q; exact .head _
    · exact .tail _ (kwr_in r2 y q)
theorem look_nodup : ∀ {cs : List (Str × Addr)} {y : Str} {cc : Addr}, (cs.map (·.1)).Nodup → (y, cc) ∈ cs → cs.lookup y = some cc
  | (u, d) :: cs, y, cc, nd, hz => by
    rw [List.map_cons, List.nodup_cons] at nd
    rcases List.mem_cons.mp hz with q | q
    · cases q; exact List.lookup_cons_self
    · rw [List.lookup_cons, show (y == u) = false from beq_false_of_ne fun e => nd.1 (e ▸ List.mem_map_of_mem (f := (·.1)) q)]
      exact look_nodup nd.2 q

theorem call_fn (O : FnOK base a fn) (lim : base.NoLimit) (X : ExsOK prog w base F n) (rm : Rm A (n + 1)) (c : Cx base A fl hid s.heap) {args : List D} {kws bs : Vs} {vs : List Value} {kv : List (Str × Value)}
    (ra : Reps (Vw s.heap hid) args vs) (rk : KwR (Vw s.heap hid) kws kv) (hb : fn.bind args kws = some bs) :
    Does (model prog w) A fl s (call (.ref a) vs kv) ((F.exs fn.scope (bs.foldl (fun s p => setS p.1 (.val p.2) s) []) fn.body).bind fun r => retD r.2) (PV hid) := fun Q E fin => by
  cases O.there with
  | mk o fd items ho hd hbody hsc hclo hgl hbl hcd hit hbind =>
  · refine el_AT (ite_some hb) fun hc hb => ?_
    refine el_AAT (hc) fun h1 h2 h3 => ?_
    cases hb
    have lenA := reps_length ra
    have lenI := reps_length hit
    have ekv := kwr_keys rk
    rw [h3] at ekv
    have lenK : (kv.map (·.2)).length = fn.kwo.length := by
      rw [List.length_map, kwr_length rk, ← h3, List.length_map]
    have BT := hbind vs (kv.map (·.2)) (by omega) (by omega) lenK
    rw [← ekv] at BT
    have st : base.StaysIn s.heap := c.stays
    have rb : KwR (Vw s.heap hid) (fn.pos.zip (args ++ fn.dflt.drop (args.length + fn.dflt.length - fn.pos.length)) ++ kws) (fn.pos.zip (vs ++ items.drop (vs.length + items.length - fn.pos.length)) ++ kv) := by
      refine kwr_append (kwr_zip (reps_append ra ?_)) rk
      rw [lenA, lenI]
      exact reps_drop _ (hit.mono c.base_le)
    generalize hbs : fn.pos.zip (args ++ fn.dflt.drop (args.length + fn.dflt.length - fn.pos.length)) ++ kws = bs at *
    have keys : ∀ x ∈ bs.map (·.1), x ∈ fn.pos ++ fn.kwo := fun x hx => by
      rw [← hbs, List.map_append, List.mem_append] at hx
      rcases hx with q | q
      · refine el_EAT (List.mem_map.mp q) fun p hp hr2 => ?_
        subst hr2
        exact List.mem_append_left _ (List.of_mem_zip (a := p.1) (b := p.2) hp).1
      · rw [h3] at q; exact List.mem_append_right _ q
    generalize hbd : fn.pos.zip (vs ++ items.drop (vs.length + items.length - fn.pos.length)) ++ kv = binds at *
    have bkeys : ∀ x ∈ binds, x.1 ∈ bs.map (·.1) := kwr_in rb
    have hkind : fd.scope.kind = .function := by rw [hsc]; exact O.kind
    refine wpAny_call (codeAny_call_function rm.lt (st _ _ ho) hd (by rw [hsc]; exact O.co) (by rw [hsc]; exact O.gen) hbody (hcd.keeps st) (BT s st _ _ _ _ ?_))
    rw [hclo]
    have hks : ∀ x ∈ binds, fd.scope.names.lookup x.1 = some .local ∨ (fd.scope.names.lookup x.1 = some .cell ∧ ((cellsFrom (s.heap.objs.size + 1) fd.scope.names []).lookup x.1).isSome = true) := fun x hx => by
      rw [hsc]
      rcases O.names x.1 (keys _ (bkeys x hx)) with q | q
      · exact .inl q
      · exact .inr ⟨q, cellsFrom_names _ _ _ (.inl (lookup_mem q))⟩
    refine wpAny_newFunctionEnv_cells hkind hks fun env he s₁ ic => ?_
    refine el_EEAT (ic.done) fun h₁ tk₁ es₁ keep => ?_
    refine ⟨(lim.keeps st).keeps fun b o e => ?_, ?_⟩
    · rw [es₁]; exact keep b o e
    have hsize : s.heap.objs.size ≤ env.locals := ic.toInCall.fresh
    have deadL : s.heap.get? env.locals = none := Heap.get?_none_of_le hsize
    have deadC : ∀ y c, (y, c) ∈ env.cells → s.heap.get? c = none := fun y c hm => Heap.get?_none_of_le (Nat.le_of_lt (Nat.lt_of_le_of_lt hsize (ic.above y c hm)))
    have deadO : ∀ b ∈ own env, s.heap.get? b = none := all_c deadL fun b hb => by
      refine el_EAT (List.mem_map.mp hb) fun p hm e => ?_
      exact e ▸ deadC p.1 p.2 hm
    have e_sc : env.scope = fn.scope := by rw [he]; exact hsc
    have e_cells : env.cells = cellsFrom (s.heap.objs.size + 1) fn.scope.names [] := by rw [he]; show cellsFrom _ fd.scope.names [] = _; rw [hsc]
    have e_frame : env.frame = some env.locals := by rw [he]; rfl
    have ndc : (env.cells.map (·.1)).Nodup := by rw [e_cells]; exact cellsFrom_nodup _ _ _ List.nodup_nil O.nd (by simp)
    have fok : FrOK env fn.scope (env :: fl) hid := by
      refine ⟨e_sc, O.kind, by rw [he]; exact hgl, by rw [he]; exact hbl, e_frame, ⟨fl, rfl⟩, fun x hx => ?_, fun x y c hx hy => ?_, fun x c hx q => ?_, ndc, fun b hb => ?_, fun z cc hm q => ?_⟩
      · rw [e_cells]
        exact Option.isSome_iff_exists.mp (cellsFrom_names _ _ _ (.inl (lookup_mem hx)))
      · exact name_of_addr ic.apart (mem_of_lookup hx) (mem_of_lookup hy)
      · have := ic.above x c (mem_of_lookup hx)
        rw [q] at this
        exact absurd this (Nat.lt_irrefl _)
      · unfold faOf at hb
        rw [List.filterMap_cons, e_frame] at hb
        rcases List.mem_cons.mp hb with rfl | hb
        · exact List.mem_append_left _ (own_locals env)
        · exact List.mem_append_right _ (c.fhid b hb)
      · unfold faOf at q
        rw [List.filterMap_cons, e_frame] at q
        rcases List.mem_cons.mp q with q | q
        · have := ic.above z cc hm
          rw [q] at this
          exact absurd this (Nat.lt_irrefl _)
        · refine el_ET (c.live cc (c.fhid _ q)) fun o' e' => ?_
          rw [deadC z cc hm] at e'; cases e'
    have heapE : s₁.heap = h₁ := by rw [es₁]
    have keep' : ∀ b o, s.heap.get? b = some o → s₁.heap.get? b = some o := fun b o e => by rw [heapE]; exact keep b o e
    have g0 : Gr (faOf (env :: fl)) [] s.heap s₁.heap := Gr.keeps0 keep'
    have nsL : ∃ m, s₁.heap.Ns env.locals m := ⟨_, ic.toInCall.ns⟩
    have baseL : ∀ b ∈ own env, base.get? b = none := fun b hb => c.new (deadO b hb)
    have liveO : ∀ b ∈ own env, ∃ o, s₁.heap.get? b = some o := all_c (Ns.live nsL) fun b hb => by
      refine el_EAT (List.mem_map.mp hb) fun p hm e => ?_
      refine el_EAT (ic.cell p.1 p.2 (look_nodup ndc hm)) fun o e' _ => ?_
      exact ⟨o, e ▸ e'⟩
    have cx₁ : Cx base (A.deeper env) (env :: fl) ([] ++ (own env ++ hid)) s₁.heap := by
      refine ⟨?_, c.hd, ⟨?_, ⟨env.locals, ?_⟩, ?_⟩, fun b o e => keep' b o (st b o e), fok.fin, fun b hb => ?_, fun b hb => ?_⟩
      · show A.frames.map (env :: ·) = _
        rw [c.fr]; rfl
      · rw [e_sc, O.kind]; decide
      · obtain ⟨m, o, es, ep, e, hd', _⟩ := nsL
        exact ⟨o, e_frame, c.new deadL, e, fun vs q => by rw [hd'] at q; cases q⟩
      · exact (Gr.keeps0 (fa := faOf fl) keep').funFrames c.ff (by simp)
      · exact List.forall_mem_append.mpr ⟨liveO, fun b q => (c.live b q).imp fun o e => keep' b o e⟩ b hb
      · exact List.forall_mem_append.mpr ⟨baseL, c.nob⟩ b hb
    have le₁ : PH.le (Vw s.heap hid) (Vw s₁.heap ([] ++ (own env ++ hid))) := by
      rw [List.nil_append]
      exact fun b o e => Vw.mk (keep' b o (Vw.of e)) fun q => by
        rcases List.mem_append.mp q with q | q
        · have := Vw.of e; rw [deadO b q] at this; cases this
        · exact Vw.nin e q
    have hkK : ∀ x ∈ bs.map (·.1), env.kindOf x = some .local ∨ env.kindOf x = some .cell := fun x hx => by
      unfold Env.kindOf
      rw [e_sc]
      exact O.names x (keys x hx)
    have pk := params_ok (ρ := Vw s.heap hid) (kindOf := env.kindOf) bs binds (fun _ => none) (fun _ => none) [] rb hkK (fun x b e => by cases e)
    have fs₁ : FS prog w base (A.deeper env) (env :: fl) hid env fn.scope (bs.foldl (fun s p => setS p.1 (.val p.2) s) []) [] s₁.heap := by
      refine ⟨fok, cx₁, nsL, fun y cc e => ⟨_, ic.cell y cc e⟩, by simp, setS_foldl_nodup bs [] List.nodup_nil, fun x b e => ?_, fun x y b b' a e1 e2 m1 m2 => ?_⟩
      · obtain ⟨d, v, rfl, r, hv⟩ := pk x b e
        refine ⟨v, ?_, r.mono le₁⟩
        rcases hv with ⟨k, hv⟩ | ⟨k, hv⟩
        · exact .inl ⟨k, _, ic.toInCall.ns, hv⟩
        · have hx : fn.scope.names.lookup x = some .cell := by
            have := k
            unfold Env.kindOf at this
            rw [e_sc] at this; exact this
          obtain ⟨cc, hcc⟩ := fok.cells x hx
          exact .inr (.inl ⟨k, cc, hcc, by rw [← hv]; exact ic.cell x cc hcc⟩)
      · obtain ⟨d, v, rfl, _, _⟩ := pk x b e1
        cases m1
    have faE : faOf (env :: fl) = env.locals :: faOf fl := by
      unfold faOf
      rw [List.filterMap_cons, e_frame]
    -- what the call has left as it was
    have out : ∀ {W : List Addr} {h' : Heap}, (∀ b ∈ W, s.heap.get? b = none) → Gr (faOf (env :: fl)) W s₁.heap h' → Gr (faOf fl) [] s.heap h' := fun {W h'} dW gr b o e _ => by
      have nW : b ∉ W := fun q => by rw [dW b q] at e; cases e
      obtain ⟨q1, q2⟩ := gr b o (keep' b o e) nW
      refine ⟨q1, fun q => q2 fun r => ?_⟩
      rw [faE] at r
      rcases List.mem_cons.mp r with r | r
      · rw [r, deadL] at e; cases e
      · exact q r
    refine codeAny_func (X (rm.deeper) fs₁ (nm := False) (fun q => q.elim) ?_)
    cases hr : F.exs fn.scope (bs.foldl (fun s p => setS p.1 (.val p.2) s) []) fn.body with
    | bad => rw [hr] at fin; exact fin.elim
    | ok p =>
      rw [hr] at fin
      intro f h' tk mad' stp x' fr
      obtain ⟨σ', fw⟩ := p
      have gO : Gr (faOf fl) [] s.heap h' := out (W := [] ++ own env) (by simpa using deadO) stp.gr
      cases fw with
      | next =>
        have fr : f = .next := fr
        subst fr
        have := fin .none h' tk gO (rep_none.mpr rfl)
        rw [es₁]; exact this
      | brk => exact fin.elim
      | cont => exact fin.elim
      | ret d =>
        obtain ⟨v, rfl, rv⟩ := fr
        have := fin v h' tk gO (rv.mono (Vw.less fun b hb => by simp only [List.mem_append]; exact .inr (.inr hb)))
        rw [es₁]; exact this
    | exc cl m =>
      rw [hr] at fin
      intro e h' tk xg al y
      refine leaving_does (s := { s₁ with heap := h', toks := tk }) (outer := fl) y.cx.fr y.cx.ff e_frame (fun v hv => by simpa using hv) xg al fun h₂ x₂ => ?_
      obtain ⟨oe, ws, a0, q1, q2, q3, q4, q5, q6⟩ := x₂.there
      have dead : ∀ b, s₁.heap.get? b = none → s.heap.get? b = none := fun b q => by
        cases z : s.heap.get? b with
        | none => rfl
        | some o => rw [keep' b o z] at q; cases q
      have := fin e h₂ tk ⟨out (W := [] ++ own env) (by simpa using deadO) x₂.gr, dead _ x₂.new, oe, ws, a0, q1, q2, q3, q4, fun q => ?_, ?_⟩
      · rw [es₁]; exact this
      · obtain ⟨t, ta, z1, z2, z3⟩ := q5 q
        exact ⟨t, ta, z1, dead _ z2, z3⟩
      · rcases q6 with ⟨q, _⟩ | ⟨T, oT, ts, x, z1, z2, z3, z4, z5, z6, z7⟩
        · cases q
        · refine .inr ⟨T, oT, ts, z1, dead _ z2, z3, z4, z5, ?_⟩
          rw [z6, List.mem_singleton.mp z7]

theorem call_snd (hfn : ∀ a fn, g.fn a = some fn → FnOK base a fn) (lim : base.NoLimit) (X : ExsOK prog w base F n) (rm : Rm A (n + 1)) (c : Cx base A fl hid s.heap) {f : D} {vf : Value} {args : List D} {kws : Vs} {vs : List Value} {kv : List (Str × Value)}
    (rf : Rep (Vw s.heap hid) f vf) (ra : Reps (Vw s.heap hid) args vs) (rk : KwR (Vw s.heap hid) kws kv) : Does (model prog w) A fl s (call vf vs kv) (callS g F f args kws) (PV hid) := by
  cases f with
  | obj a =>
    refine rf.obj ?_
    exact fun Q E f => FinT.ofR f fun fn hf f => f.ofR fun bs hb f => call_fn (hfn a fn hf) lim X rm c ra rk hb Q E f
  | bi id =>
    intro Q E f
    refine FinT.ite f fun hk f => ?_
    rw [List.isEmpty_iff.mp hk] at rk
    rw [show kv = [] from rk]
    exact rf.bi (bi_does c ra Q E f)
  | type n =>
    intro Q E f
    refine FinT.ite f fun hk f => ?_
    rw [List.isEmpty_iff.mp hk] at rk
    rw [show kv = [] from rk]
    exact rf.type (ty_does c ra Q E f)
  | _ => exact fun Q E f => f.elim
end
end Mine
end
section
namespace Mine

section
variable {prog : Program} {w : World} {A : Around} {E : Value → Shared → Prop} {s : Shared}

theorem loadIfAlive_does {M : Model} {a : Addr} {Q : Option Obj → Shared → Prop} (h : Q (s.heap.get? a) s) : wpAny M A (loadIfAlive a) Q E s := fun Γ p _ => by
  unfold loadIfAlive
  rw [Sem.wp_loadIfAlive]
  exact h

end
structure ItL (prog : Program) (w : World) (A : Around) (H : List Addr) (I : Addr) (wr : List Addr) (J : List D → Heap → Prop) : Prop where
  frame : ∀ l h h', J l h → (∀ b o, b ∈ wr → h.get? b = some o → h'.get? b = some o) → PH.le (Vw h H) (Vw h' H) → J l h'
  item : ∀ d l (s : Shared) (Q : Option Value → Shared → Prop) (E : Value → Shared → Prop), J (d :: l) s.heap → (∀ b ∈ H, ∃ o, s.heap.get? b = some o) →
    (∀ v h' tk, Rep (Vw h' H) d v → J l h' → (∀ b o, b ∉ wr → s.heap.get? b = some o → h'.get? b = some o) → Q (some v) { s with heap := h', toks := tk }) → wpAny (model prog w) A (pyNext (.ref I)) Q E s
  done : ∀ (s : Shared) (Q : Option Value → Shared → Prop) (E : Value → Shared → Prop), J [] s.heap → (∀ h' tk, (∀ b o, b ∉ wr → s.heap.get? b = some o → h'.get? b = some o) → Q none { s with heap := h', toks := tk }) → wpAny (model prog w) A (pyNext (.ref I)) Q E s
  live : ∀ l h, J l h → ∀ b ∈ wr, ∃ o, h.get? b = some o

section
variable {prog : Program} {w : World} {A : Around} {E : Value → Shared → Prop} {s : Shared}

theorem extend_loop {H wr : List Addr} {I S : Addr} {J : List D → Heap → Prop} (it : ItL prog w A.in1 H I wr J) (hSH : S ∈ H) (hSw : S ∉ wr) (hwH : ∀ b ∈ wr, b ∈ H) {res : Value} {R : Result → Shared → Prop} :
    ∀ (l pre : List D) (s : Shared) (acc : Array Value) (c : Nat), J l s.heap → s.heap.get? S = some { cls := .type "list", data := .seq acc c } → Reps (Vw s.heap H) pre acc.toList → (∀ b ∈ H, ∃ o, s.heap.get? b = some o) → (pre ++ l).length ≤ big →
    (∀ h' tk acc' c', h'.get? S = some { cls := .type "list", data := .seq acc' c' } → Reps (Vw h' H) (pre ++ l) acc'.toList → (∀ b o, b ≠ S → b ∉ wr → s.heap.get? b = some o → h'.get? b = some o) → R (.ok (.ret res)) { s with heap := h', toks := tk }) →
    codeAny (model prog w) A (.builtin "list.extend.loop" ⟨[.ref S, .ref I, res], []⟩) R s
  | [], pre, s, acc, c, hJ, hS, hr, hl, hn, k => by
    refine codeAny_builtin PySem.F.entry_extend_loop ?_
    rw [Around.under_plainId PySem.F.plain_extend_loop _]
    show wpAny _ A.in1 (pyNext (.ref I) >>= _) _ _ s
    refine wpAny_bind (it.done s _ _ hJ fun h' tk kp => ?_)
    refine wpAny_pure (k h' tk acc c (kp S _ hSw hS) ?_ fun b o _ hb e => kp b o hb e)
    rw [List.append_nil]
    refine hr.mono fun a o e => Vw.mk (kp a o (fun q => ?_) (Vw.of e)) (Vw.nin e)
    exact Vw.nin e (hwH a q)
  | d :: l, pre, s, acc, c, hJ, hS, hr, hl, hn, k => by
    refine codeAny_builtin PySem.F.entry_extend_loop ?_
    rw [Around.under_plainId PySem.F.plain_extend_loop _]
    show wpAny _ A.in1 (pyNext (.ref I) >>= _) _ _ s
    refine wpAny_bind (it.item d l s _ _ hJ hl fun v h₁ tk₁ rv hJ₁ kp => ?_)
    have hS₁ := kp S _ hSw hS
    have le₁ : PH.le (Vw s.heap H) (Vw h₁ H) := fun a o e => Vw.mk (kp a o (fun q => Vw.nin e (hwH a q)) (Vw.of e)) (Vw.nin e)
    have hsz : acc.size ≤ big := by
      have := reps_length hr
      rw [Array.length_toList] at this
      rw [List.length_append] at hn
      omega
    have hsz' : acc.size < big := by
      have := reps_length hr
      rw [Array.length_toList] at this
      rw [List.length_append, List.length_cons] at hn
      omega
    show wpAny _ A.in1 (updateSeq S (·.push v) >>= _) _ _ _
    refine wpAny_bind ?_
    refine wpAny_updateSeq (s := { s with heap := h₁, toks := tk₁ }) hS₁ rfl (wpAny_pure ⟨plainId_quiet PySem.F.plain_extend_loop _, ?_⟩) (Nat.le_trans hsz big_le) (by
      show (acc.push v).size ≤ sizeLine + 1
      rw [Array.size_push]
      have := big_le
      omega)
    have hS₂ : (h₁.update S (Obj.mapSeq (·.push v))).get? S = some { cls := .type "list", data := .seq (acc.push v) (c + 1) } := by
      rw [Heap.get?_update_self _ hS₁ (by rw [mapSeq_push]; rfl), mapSeq_push]
    have hb₂ : ∀ b o, b ≠ S → h₁.get? b = some o → (h₁.update S (Obj.mapSeq (·.push v))).get? b = some o := fun b o nb e => (Heap.get?_update_other _ _ (Ne.symm nb)).trans e
    have le₂ : PH.le (Vw h₁ H) (Vw (h₁.update S (Obj.mapSeq (·.push v))) H) := fun a o e => Vw.mk (hb₂ a o (fun q => Vw.nin e (q ▸ hSH)) (Vw.of e)) (Vw.nin e)
    refine extend_loop it hSH hSw hwH l (pre ++ [d]) _ (acc.push v) (c + 1) (it.frame _ _ _ hJ₁ (fun b o hb e => hb₂ b o (fun q => hSw (q ▸ hb)) e) le₂) hS₂ ?_ (fun b hb => ?_) (by simpa using hn) fun h' tk acc' c' e1 e2 e3 => ?_
    · rw [Array.toList_push]
      exact reps_append ((hr.mono le₁).mono le₂) (reps_cons' (rv.mono le₂) reps_nil')
    · by_cases q : b = S
      · subst q; exact ⟨_, hS₂⟩
      · by_cases q' : b ∈ wr
        · refine el_ET (it.live _ _ hJ₁ b q') fun o e => ?_
          exact ⟨o, hb₂ b o q e⟩
        · refine el_ET (hl b hb) fun o e => ?_
          exact ⟨o, hb₂ b o q (kp b o q' e)⟩
    · refine k h' tk acc' c' e1 (by simpa using e2) fun b o nb nw e => e3 b o nb nw (hb₂ b o nb (kp b o nw e))
end
end Mine
end
section
namespace Mine

section
variable {prog : Program} {w : World} {A : Around} {E : Value → Shared → Prop} {s : Shared}

theorem list_via {r : Addr} {T : String} (nl : (Value.type T == Value.type "list") = false) (nt : (Value.type T == Value.type "tuple") = false) (hh : A.handled = none) (hr : ∃ o, s.heap.get? r = some o ∧ o.cls = .type T)
    (hint : ∀ (A' : Around) (E' : Value → Shared → Prop) (s' : Shared) (Q' : Bool → Shared → Prop), s'.TypeIs (.ref r) T → (∀ b, Q' b s') → wpAny (model prog w) A' (Builtin.List.listLengthHint (.ref r)) Q' E' s')
    (G2 : Heap → Addr × Heap) (keep2 : ∀ h₁ b o, h₁.get? b = some o → (G2 h₁).2.get? b = some o)
    (iter : ∀ (A' : Around) (E' : Value → Shared → Prop) (Q' : Value → Shared → Prop) (h₁ : Heap) (tk : Nat), (∀ b o, s.heap.get? b = some o → h₁.get? b = some o) → Q' (.ref (G2 h₁).1) { s with heap := (G2 h₁).2, toks := tk } → wpAny (model prog w) A' (pyIter (.ref r)) Q' E' { s with heap := h₁, toks := tk })
    {PostP : Heap → Array Value → Prop}
    (loop : ∀ (A' : Around) (R : Result → Shared → Prop) (h₁ h₃ : Heap) (tk c : Nat), A'.handled = none → (∀ b o, s.heap.get? b = some o → h₁.get? b = some o) → s.heap.objs.size < h₁.objs.size → (∀ b o, b ≠ s.heap.objs.size → (G2 h₁).2.get? b = some o → h₃.get? b = some o) →
      h₃.get? s.heap.objs.size = some { cls := .type "list", data := .seq #[] c } →
      (∀ h' tk acc' c', h'.get? s.heap.objs.size = some { cls := .type "list", data := .seq acc' c' } → PostP h' acc' → R (.ok (.ret .none)) { s with heap := h', toks := tk }) →
      codeAny (model prog w) A' (.builtin "list.extend.loop" ⟨[.ref s.heap.objs.size, .ref (G2 h₁).1, .none], []⟩) R { s with heap := h₃, toks := tk })
    {Q : Value → Shared → Prop} (fin : ∀ h' tk acc' c', h'.get? s.heap.objs.size = some { cls := .type "list", data := .seq acc' c' } → PostP h' acc' → Q (.ref s.heap.objs.size) { s with heap := h', toks := tk }) :
    wpAny (model prog w) A (call (.type "list") [.ref r]) Q E s := by
  refine el_EAT (hr) fun or' hr1 hr2 => ?_
  have rlt : r < s.heap.objs.size := Heap.lt_size hr1
  have rne : r ≠ s.heap.objs.size := Nat.ne_of_lt rlt
  refine callType_codes (Q₁ := fun obj s₁ => obj = .ref s.heap.objs.size ∧ s₁ = { s with heap := s.heap.push { cls := .type "list", data := .seq #[] } }) PySem.F.called_list (PySem.F.typeCall_list_1 _) PySem.F.entry_list_init
    (code_list_new _ ⟨rfl, rfl⟩) fun obj s₁ h₁ => ?_
  refine el_AT (h₁) fun hr0 hr1 => ?_
  subst hr0
  subst hr1
  have hS : (s.heap.push { cls := .type "list", data := .seq #[] }).get? s.heap.objs.size = some { cls := .type "list", data := .seq #[] } := Heap.get?_push_size _ rfl
  refine ⟨⟨_, hS, rfl⟩, PySem.F.args_list_init_2 _ _, ?_⟩
  -- list.__init__
  show wpAny _ _ (do let old ← Builtin.List.listItems (.ref s.heap.objs.size); Builtin.List.listUpdate (.ref s.heap.objs.size) (fun _ => #[]); letGo old.toList.reverse; Builtin.List.listExtendWith (.ref s.heap.objs.size) (.ref r) .none) _ _ _
  refine wpAny_bind ?_
  unfold Builtin.List.listItems
  refine wpAny_bind (wpAny_seqItems hS rfl (wpAny_pure ?_))
  show wpAny _ _ (updateSeq s.heap.objs.size (fun _ => #[]) >>= fun _ => letGo (#[] : Array Value).toList.reverse >>= fun _ => Builtin.List.listExtendWith (.ref s.heap.objs.size) (.ref r) .none) _ _ _
  refine wpAny_bind (wpAny_updateSeq hS rfl ?_)
  have hS₂ := Heap.get?_update_self (Obj.mapSeq (fun _ => (#[] : Array Value))) hS rfl
  have oth : ∀ b o, b ≠ s.heap.objs.size → (s.heap.push { cls := .type "list", data := .seq #[] }).get? b = some o → ((s.heap.push { cls := .type "list", data := .seq #[] }).update s.heap.objs.size (Obj.mapSeq (fun _ => (#[] : Array Value)))).get? b = some o :=
    fun b o hb e => (Heap.get?_update_other _ _ (Ne.symm hb)).trans e
  have szU : s.heap.objs.size < ((s.heap.push { cls := .type "list", data := .seq #[] }).update s.heap.objs.size (Obj.mapSeq (fun _ => (#[] : Array Value)))).objs.size := Heap.lt_size hS₂
  have kU : ∀ b o, s.heap.get? b = some o → ((s.heap.push { cls := .type "list", data := .seq #[] }).update s.heap.objs.size (Obj.mapSeq (fun _ => (#[] : Array Value)))).get? b = some o := fun b o e => oth b o (Nat.ne_of_lt (Heap.lt_size e)) (Heap.get?_push_of_some _ e)
  obtain ⟨c₀, hS₂⟩ : ∃ c, ((s.heap.push { cls := .type "list", data := .seq #[] }).update s.heap.objs.size (Obj.mapSeq (fun _ => (#[] : Array Value)))).get? s.heap.objs.size = some { cls := .type "list", data := .seq #[] c } := ⟨_, hS₂⟩
  generalize (s.heap.push { cls := .type "list", data := .seq #[] }).update s.heap.objs.size (Obj.mapSeq (fun _ => (#[] : Array Value))) = hU at hS₂ szU kU
  refine wpAny_bind (wpAny_letGo ?_)
  have hT : ({ s with heap := hU } : Shared).TypeIs (.ref r) T := ⟨or', kU r _ hr1, hr2⟩
  unfold Builtin.List.listExtendWith
  refine wpAny_bind (wpAny_typeOf (T := T) hT ?_)
  have h1 : Builtin.List.listSameRef (.ref s.heap.objs.size) (.ref r) = false := by simp [Builtin.List.listSameRef, Ne.symm rne]
  simp only [h1, nl, nt, Bool.or_false, Bool.false_eq_true, if_false]
  refine wpAny_bind (iter _ _ _ hU s.toks kU ?_)
  have hT₂ : ({ s with heap := (G2 hU).2 } : Shared).TypeIs (.ref r) T := ⟨or', keep2 hU r _ (kU r _ hr1), hr2⟩
  refine wpAny_bind (wpAny_holding (hint _ _ _ _ hT₂ fun b => ?_))
  have hS₃ : (G2 hU).2.get? s.heap.objs.size = some { cls := .type "list", data := .seq #[] c₀ } := keep2 hU _ _ hS₂
  refine wpAny_ite_split (fun _ => ?_) (fun _ => wpAny_pure ⟨plainId_quiet PySem.F.plain_extend_loop _, loop _ _ hU _ _ _ hh kU szU (fun b o _ e => e) hS₃ fun h' tk acc' c' e1 e2 => ?_⟩)
  · refine wpAny_bind (wpAny_rule ?_)
    refine wpAny_bind ?_
    show wpAny _ _ (updateSeq s.heap.objs.size (·.push .none) >>= fun _ => updateSeq s.heap.objs.size (·.pop)) _ _ _
    refine wpAny_bind (wpAny_updateSeq hS₃ rfl ?_)
    have hS₄ := Heap.get?_update_self (Obj.mapSeq (·.push Value.none)) hS₃ rfl
    refine wpAny_updateSeq (hz := by seq_fits) hS₄ rfl ?_
    have hS₅ := Heap.get?_update_self (Obj.mapSeq (·.pop)) hS₄ rfl
    refine wpAny_pure ⟨plainId_quiet PySem.F.plain_extend_loop _, loop _ _ hU _ _ _ hh kU szU (fun b o nb e => ?_) hS₅ fun h' tk acc' c' e1 e2 => ⟨rfl, fin h' tk acc' c' e1 e2⟩⟩
    exact (Heap.get?_update_other _ _ (Ne.symm nb)).trans ((Heap.get?_update_other _ _ (Ne.symm nb)).trans e)
  · exact ⟨rfl, fin h' tk acc' c' e1 e2⟩
end
end Mine
end
section
namespace Mine


section
variable {prog : Program} {w : World} {base : Heap} {A : Around} {fl : List Env} {hid : List Addr} {s : Shared} {E : Value → Shared → Prop}

theorem list_end {h₀ h' : Heap} {wr : List Addr} {S : Addr} {l : List D} {acc : Array Value} {c : Nat} (cx : Cx base A fl hid h₀) (nS : h₀.get? S = none) (hS : h'.get? S = some { cls := .type "list", data := .seq acc c }) (r : Reps (Vw h' (wr ++ ([S] ++ hid))) l acc.toList) : Rep (Vw h' hid) (.list l) (.ref S) := by
  refine rep_of_isList hS (cx.fresh nS) (r.mono (Vw.less fun a ha => ?_))
  simp only [List.mem_append]
  exact .inr (.inr ha)

end
end Mine
end
section
namespace Mine

noncomputable abbrev ItmIt (h : Heap) (it d : Addr) (i n ep : Nat) (f0 f1 ok ov : Value) : Prop :=
  h.get? it = some { cls := .type "dict_itemiterator", dict := none, data := .fields #[f0, f1, .ref d, .int i 0, .int n 0, .int ep 0, ok, ov], slots := #[] }
noncomputable def DictD (h : Heap) (d : Addr) (es : Array DictEntry) (ep : Nat) : Prop := ∃ o, h.get? d = some o ∧ o.cls = .type "dict" ∧ o.data = .dict es ep

section
variable {prog : Program} {w : World} {A : Around} {E : Value → Shared → Prop} {s : Shared}

theorem items_view {d : Addr} {es : Array DictEntry} {ep : Nat} {Q : Value → Shared → Prop} (hm : DictD s.heap d es ep) (hd : (d == sysModules) = false)
    (q : Q (.ref s.heap.objs.size) { s with heap := s.heap.push { cls := .type "dict_items", data := .fields #[.ref d] } }) : wpAny (model prog w) A (call (.builtin "dict.items") [.ref d]) Q E s := by
  refine el_EAAT (hm) fun o ho hc hdat => ?_
  have hT : s.TypeIs (.ref d) "dict" := ⟨o, ho, hc⟩
  refine wpAny_call_entry PySem.F.slot_dict_items hT PySem.F.entry_dict_items ?_ (PySem.F.args_dict_items_1 _)
  unfold Builtin.«dict.items»
  refine wpAny_bind ?_
  unfold Builtin.Dict.noArgs
  refine wpAny_bind (wpAny_notOrdered_dict hT ?_)
  show wpAny _ _ (pure d) _ _ s
  refine wpAny_pure ?_
  show wpAny _ _ (Builtin.Dict.showsAll d >>= _) _ _ s
  unfold Builtin.Dict.showsAll
  rw [if_neg (by rw [hd]; exact Bool.false_ne_true)]
  refine wpAny_bind (wpAny_pure ?_)
  exact wpAny_bind (wpAny_newObj_type (wpAny_pure ⟨_, rfl, q⟩))

theorem items_iter {v d : Addr} {es : Array DictEntry} {ep : Nat} {Q : Value → Shared → Prop} (hv : s.heap.IsItemsView v d) (hm : DictD s.heap d es ep)
    (q : Q (.ref s.heap.objs.size) { s with heap := s.heap.push { cls := .type "dict_itemiterator", data := .fields #[.none, .bool false, .ref d, .int 0 0, .int es.size 0, .int ep 0, .none, .none] } }) : wpAny (model prog w) A (pyIter (.ref v)) Q E s := by
  refine el_EAAT (id hv) fun ov hov hcv hdv => ?_
  refine el_EAAT (hm) fun o ho hc hdat => ?_
  refine wpAny_pyIter_slot hv.typeIs PySem.F.slot_dict_items_iter (wpAny_call_entry PySem.F.slot_dict_items_iter hv.typeIs PySem.F.entry_dict_items_iter ?_ (PySem.F.args_dict_items_iter_1 _))
  unfold Builtin.«dict_items.__iter__»
  refine wpAny_bind (wpAny_pure ?_)
  refine wpAny_bind ?_
  unfold Builtin.Dict_items.dictOf
  refine wpAny_bind (wpAny_field hov hdv (x := .ref d) rfl (wpAny_pure ?_))
  refine wpAny_bind ?_
  unfold Builtin.Dict_items.newIterator
  refine wpAny_bind (wpAny_dictEntries ho hdat ?_)
  refine wpAny_bind (wpAny_dictEpoch ho hdat ?_)
  have hown : Builtin.Dict_items.ownsTuple "dict_itemiterator" = true := by decide
  simp only [hown, if_true]
  refine wpAny_newObj_type (wpAny_pure ⟨_, rfl, "dict_itemiterator", _, ⟨_, Heap.get?_push_size _ rfl, rfl⟩, PySem.F.slot_dict_itemiterator_next.lookup, ?_⟩)
    (by simp only [sizeOk, Builtin.Dict_items.ownedTupleFields, List.size_toArray, List.length_append, List.length_cons, List.length_nil, sizeLine_eq]; omega)
  simpa [rawInt, Builtin.Dict_items.ownedTupleFields] using q

theorem hint_items {r : Addr} {Q : Bool → Shared → Prop} (hT : s.TypeIs (.ref r) "dict_items") (h : ∀ b, Q b s) : wpAny (model prog w) A (Builtin.List.listLengthHint (.ref r)) Q E s := by
  unfold Builtin.List.listLengthHint
  refine wpAny_bind (wpAny_specialOf hT PySem.F.slot_dict_items_len.lookup ?_)
  generalize hid : ("dict_items.__len__" : String) = id0
  wp_delta
  rw [show splitId id0 = some ("dict_items", "__len__") from by subst hid; decide +kernel]
  subst hid
  refine wpAny_bind (wpAny_isInstance (T := "dict_items") (b := true) hT (by rw [isSubtype_type]; kernel_rfl) ?_)
  refine wpAny_ite_split (fun hab => absurd hab (by decide)) (fun _ => ?_)
  refine wpAny_ite_split (fun _ => ?_) (fun hab => absurd (by decide +kernel) hab)
  refine wpAny_bind (wpAny_typeOf hT ?_)
  exact wpAny_pure (h _)

noncomputable abbrev HeldOr (h : Heap) (it : Addr) (f0 f1 : Value) : Prop := (f0 = .none ∧ f1 = .bool false) ∨ ∃ (T : Addr) (oT : Obj) (b : Bool), f0 = rawInt T ∧ f1 = .bool b ∧ T ≠ it ∧ h.get? T = some oT

theorem free_does {it d : Addr} {i n ep : Nat} {f0 f1 ok ov : Value} {Q : Bool → Shared → Prop} (hit : ItmIt s.heap it d i n ep f0 f1 ok ov) (hf : HeldOr s.heap it f0 f1)
    (hQ : ∀ h' fr f1', ItmIt h' it d i n ep f0 f1' ok ov → (fr = true ∧ f0 = .none ∨ fr = false ∧ ∃ T : Addr, f0 = rawInt T ∧ f1' = .bool true) → (∀ b o, b ≠ it → s.heap.get? b = some o → h'.get? b = some o) → Q fr { s with heap := h' }) :
    wpAny (model prog w) A (Builtin.Dict_items.ownedTupleIsFree (.ref it)) Q E s := by
  obtain ⟨hp, g, dr, tk, os⟩ := s
  unfold Builtin.Dict_items.ownedTupleIsFree
  rcases hf with ⟨rfl, rfl⟩ | ⟨T, oT, b, rfl, rfl, hTi, hTa⟩
  · exact wpAny_bind (wpAny_field hit rfl (x := .none) rfl (wpAny_pure (hQ hp _ _ hit (.inl ⟨rfl, rfl⟩) fun _ _ _ e => e)))
  · refine wpAny_bind (wpAny_field hit rfl (x := rawInt T) rfl ?_)
    show wpAny _ _ (loadIfAlive (T : Int).toNat >>= _) _ _ _
    refine wpAny_bind (loadIfAlive_does ?_)
    rw [Int.toNat_natCast, hTa]
    rw [if_neg (show ¬ (Option.isNone (some oT) = true) from Bool.false_ne_true)]
    refine wpAny_bind (wpAny_field hit rfl (x := .bool b) rfl ?_)
    cases b with
    | true => exact wpAny_pure (hQ hp _ _ hit (.inr ⟨rfl, T, rfl, rfl⟩) fun _ _ _ e => e)
    | false =>
      refine wpAny_bind (wpAny_setField_rec hit (Nat.le_of_ble_eq_true rfl) fun h₃ he₃ hs₃ => wpAny_pure ?_)
      exact hQ h₃ _ _ he₃ (.inr ⟨rfl, T, rfl, rfl⟩) hs₃.extBut

theorem pair_does {it d : Addr} {i n ep : Nat} {f0 f1 ok ov k v : Value} {Q : Value → Shared → Prop} (hit : ItmIt s.heap it d i n ep f0 f1 ok ov) (hf : HeldOr s.heap it f0 f1)
    (hQ : ∀ h' f0' f1' ok' ov', ItmIt h' it d i n ep f0' f1' ok' ov' → (∃ (T : Addr) (b : Bool), f0' = rawInt T ∧ f1' = .bool b ∧ (T = s.heap.objs.size ∨ f0 = rawInt T)) →
      h'.get? s.heap.objs.size = some { cls := .type "tuple", data := .seq #[k, v] } → (∀ b o, b ≠ it → s.heap.get? b = some o → h'.get? b = some o) → Q (.ref s.heap.objs.size) { s with heap := h' }) :
    wpAny (model prog w) A (Builtin.Dict_items.pairFromOwner (.ref it) 6 k v) Q E s := by
  obtain ⟨hp, g, dr, tk, os⟩ := s
  unfold Builtin.Dict_items.pairFromOwner
  refine wpAny_bind (wpAny_newTuple ?_)
  have he₂ : ItmIt (hp.push { cls := .type "tuple", data := .seq #[k, v] }) it d i n ep f0 f1 ok ov := Heap.get?_push_of_some _ hit
  have ht₂ : (hp.push { cls := .type "tuple", data := .seq #[k, v] }).get? hp.objs.size = some { cls := .type "tuple", data := .seq #[k, v] } := Heap.get?_push_size _ rfl
  have hk₂ : ∀ b o, b ≠ it → hp.get? b = some o → (hp.push { cls := .type "tuple", data := .seq #[k, v] }).get? b = some o := fun b o _ e => Heap.get?_push_of_some _ e
  have neS : hp.objs.size ≠ it := Nat.ne_of_gt (Heap.lt_size hit)
  have hf₂ : HeldOr (hp.push { cls := .type "tuple", data := .seq #[k, v] }) it f0 f1 := hf.imp id fun ⟨T, oT, b, h1, h2, h3, h4⟩ => ⟨T, oT, b, h1, h2, h3, Heap.get?_push_of_some _ h4⟩
  generalize hp.push { cls := .type "tuple", data := .seq #[k, v] } = h₂ at he₂ ht₂ hk₂ hf₂ ⊢
  refine wpAny_bind (free_does he₂ hf₂ fun h₃ fr f1' he₃ hc hs₃ => ?_)
  rcases hc with ⟨rfl, rfl⟩ | ⟨rfl, T, rfl, rfl⟩
  · refine wpAny_bind (wpAny_field he₃ rfl (x := ok) rfl ?_)
    refine wpAny_bind (wpAny_field he₃ rfl (x := ov) rfl ?_)
    refine wpAny_bind (wpAny_setField_rec he₃ (Nat.le_of_ble_eq_true rfl) fun h₄ he₄ hs₄ => ?_)
    refine wpAny_bind (wpAny_setField_rec he₄ (Nat.le_of_ble_eq_true rfl) fun h₅ he₅ hs₅ => ?_)
    refine wpAny_bind (wpAny_setField_rec he₅ (Nat.le_of_ble_eq_true rfl) fun h₆ he₆ hs₆ => ?_)
    refine wpAny_bind (wpAny_setField_rec he₆ (Nat.le_of_ble_eq_true rfl) fun h₇ he₇ hs₇ => ?_)
    refine wpAny_bind (wpAny_letGo (wpAny_pure (hQ h₇ _ _ _ _ he₇ ⟨_, false, rfl, rfl, .inl rfl⟩ ?_ ?_)))
    · exact hs₇.extBut _ _ neS (hs₆.extBut _ _ neS (hs₅.extBut _ _ neS (hs₄.extBut _ _ neS (hs₃ _ _ neS ht₂))))
    · exact fun b o hb e => hs₇.extBut b o hb (hs₆.extBut b o hb (hs₅.extBut b o hb (hs₄.extBut b o hb (hs₃ b o hb (hk₂ b o hb e)))))
  · exact wpAny_pure (hQ h₃ _ _ _ _ he₃ ⟨T, true, rfl, rfl, .inr rfl⟩ (hs₃ _ _ neS ht₂) fun b o hb e => hs₃ b o hb (hk₂ b o hb e))

theorem items_next {it d : Addr} {i ep : Nat} {es : Array DictEntry} {f0 f1 ok ov : Value} {Q : Option Value → Shared → Prop} (hit : ItmIt s.heap it d i es.size ep f0 f1 ok ov) (hf : HeldOr s.heap it f0 f1) (hm : DictD s.heap d es ep) (hlt : i < es.size)
    (hQ : ∀ h' f0' f1' ok' ov', ItmIt h' it d (i + 1) es.size ep f0' f1' ok' ov' → (∃ (T : Addr) (b : Bool), f0' = rawInt T ∧ f1' = .bool b ∧ (T = s.heap.objs.size ∨ f0 = rawInt T)) →
      h'.get? s.heap.objs.size = some { cls := .type "tuple", data := .seq #[es[i].key, es[i].val] } → (∀ b o, b ≠ it → s.heap.get? b = some o → h'.get? b = some o) → Q (some (.ref s.heap.objs.size)) { s with heap := h' }) :
    wpAny (model prog w) A (pyNext (.ref it)) Q E s := by
  obtain ⟨hp, g, dr, tk, os⟩ := s
  refine el_EAAT (id hm) fun od hod hcd hdd => ?_
  have hT : Shared.TypeIs ⟨hp, g, dr, tk, os⟩ (.ref it) "dict_itemiterator" := ⟨_, hit, rfl⟩
  unfold pyNext
  refine wpAny_bind (wpAny_attempt (wpAny_callSpecial?_slot (name := Str.ofString "__next__") hT PySem.F.slot_dict_itemiterator_next
    (wpAny_call_entry PySem.F.slot_dict_itemiterator_next hT PySem.F.entry_dict_itemiterator_next ?_ (PySem.F.args_dict_itemiterator_next_1 _))))
  refine wpAny_bind (wpAny_pure ?_)
  refine wpAny_bind ?_
  refine wpAny_bind ?_
  refine wpAny_bind (wpAny_typeNameOfWhole_itemiter hT (wpAny_pure ?_))
  refine wpAny_bind (wpAny_fieldsOf hit rfl ?_)
  have hown : Builtin.Dict_items.ownsTuple "dict_itemiterator" = true := by decide
  rw [if_pos hown]
  show wpAny _ _ (if (Value.ref d == Value.none) = true then _ else _) _ _ _
  rw [if_neg (show ¬ ((Value.ref d == Value.none) = true) from Bool.false_ne_true)]
  refine wpAny_bind (wpAny_pure ?_)
  refine wpAny_bind (wpAny_dictEntries hod hdd ?_)
  rw [if_neg (by simp)]
  refine wpAny_bind (wpAny_pure ?_)
  refine wpAny_bind (wpAny_dictEpoch hod hdd ?_)
  rw [if_neg (by simp)]
  refine wpAny_pure ?_
  simp only [show ¬ ((i : Int) < 0) from by omega, if_false, Int.toNat_natCast, Array.getElem?_eq_getElem hlt]
  refine wpAny_bind ?_
  refine wpAny_bind (wpAny_typeNameOfWhole_itemiter hT (wpAny_pure ?_))
  refine wpAny_bind (wpAny_isOneOf_itemiter hT ?_)
  show wpAny _ _ (setField (.ref it) 3 (rawInt ((i : Int) + 1)) >>= _) _ _ ⟨hp, g, dr, tk, os⟩
  refine wpAny_bind (wpAny_setField_rec hit (Nat.le_of_ble_eq_true rfl) fun h₁ he₁ hs₁ => ?_)
  replace hs₁ : Heap.SameBut it hp h₁ := hs₁
  replace he₁ : ItmIt h₁ it d (i + 1) es.size ep f0 f1 ok ov := by
    have e : ((i + 1 : Nat) : Int) = (i : Int) + 1 := by omega
    unfold ItmIt; rw [e]; simpa [rawInt] using he₁
  have hT₁ : Shared.TypeIs ⟨h₁, g, dr, tk, os⟩ (.ref it) "dict_itemiterator" := ⟨_, he₁, rfl⟩
  have hz₁ : h₁.objs.size = hp.objs.size := hs₁.1
  have hf₁ : HeldOr h₁ it f0 f1 := hf.imp id fun ⟨T, oT, b, h1, h2, h3, h4⟩ => ⟨T, oT, b, h1, h2, h3, hs₁.extBut T oT h3 h4⟩
  refine wpAny_bind (wpAny_holding ?_)
  refine wpAny_bind (wpAny_isOneOf_itemiter hT₁ ?_)
  refine wpAny_bind (wpAny_isOneOf_itemiter hT₁ ?_)
  refine pair_does (s := ⟨h₁, g, dr, tk, os⟩) he₁ hf₁ fun h₂ f0' f1' ok' ov' he₂ hc ht hk => ?_
  have ht : h₂.get? hp.objs.size = _ := hz₁ ▸ ht
  have hk : ∀ b o, b ≠ it → hp.get? b = some o → h₂.get? b = some o := fun b o hb e => hk b o hb (hs₁.extBut b o hb e)
  have hc : ∃ (T : Addr) (b : Bool), f0' = rawInt T ∧ f1' = .bool b ∧ (T = hp.objs.size ∨ f0 = rawInt T) := hz₁ ▸ hc
  show wpAny _ _ _ _ _ _
  exact wpAny_pure ⟨_, rfl, wpAny_pure (hz₁ ▸ hQ h₂ _ _ _ _ he₂ hc ht hk)⟩

theorem items_end {it d : Addr} {i ep : Nat} {es : Array DictEntry} {f0 f1 ok ov : Value} {Q : Option Value → Shared → Prop} (hh : A.handled = none) (hit : ItmIt s.heap it d i es.size ep f0 f1 ok ov) (hm : DictD s.heap d es ep) (hge : es.size ≤ i)
    (hQ : ∀ h', Heap.ExtBut it s.heap h' → Q none { s with heap := h' }) : wpAny (model prog w) A (pyNext (.ref it)) Q E s := by
  refine el_EAAT (id hm) fun od hod hcd hdd => ?_
  have hT : s.TypeIs (.ref it) "dict_itemiterator" := ⟨_, hit, rfl⟩
  unfold pyNext
  refine wpAny_bind (wpAny_attempt (wpAny_callSpecial?_slot (name := Str.ofString "__next__") hT PySem.F.slot_dict_itemiterator_next
    (wpAny_call_entry PySem.F.slot_dict_itemiterator_next hT PySem.F.entry_dict_itemiterator_next ?_ (PySem.F.args_dict_itemiterator_next_1 _))))
  refine wpAny_bind (wpAny_pure ?_)
  refine wpAny_bind ?_
  refine wpAny_bind ?_
  refine wpAny_bind (wpAny_typeNameOfWhole_itemiter hT (wpAny_pure ?_))
  refine wpAny_bind (wpAny_fieldsOf hit rfl ?_)
  have hown : Builtin.Dict_items.ownsTuple "dict_itemiterator" = true := by decide
  rw [if_pos hown]
  show wpAny _ _ (if (Value.ref d == Value.none) = true then _ else _) _ _ s
  rw [if_neg (show ¬ ((Value.ref d == Value.none) = true) from Bool.false_ne_true)]
  refine wpAny_bind (wpAny_pure ?_)
  refine wpAny_bind (wpAny_dictEntries hod hdd ?_)
  rw [if_neg (by simp)]
  refine wpAny_bind (wpAny_pure ?_)
  refine wpAny_bind (wpAny_dictEpoch hod hdd ?_)
  rw [if_neg (by simp)]
  refine wpAny_pure ?_
  simp only [show ¬ ((i : Int) < 0) from by omega, if_false, Int.toNat_natCast, Array.getElem?_eq_none hge]
  refine wpAny_bind ?_
  refine wpAny_bind (wpAny_typeNameOfWhole_itemiter hT (wpAny_pure ?_))
  show wpAny _ _ (setField (.ref it) 2 .none >>= _) _ _ s
  refine wpAny_bind (wpAny_setField hit rfl (Nat.le_of_ble_eq_true rfl) ?_)
  show wpAny _ _ (newExc (.type "StopIteration") [] >>= _) _ _ _
  refine wpAny_bind ?_
  simp only [newExc, newTuple]
  refine wpAny_bind (wpAny_newObj_type ?_ (by size_fits))
  refine wpAny_bind (m := firstArgMember _ _) (wpAny_of_eq (a := Value.none) (by first | rfl | (simp only [firstArgMember]; rfl)) ?_)
  refine wpAny_newObj_type ?_ (by size_fits)
  simp only [raiseNew]
  refine wpAny_bind (wpAny_handled ?_)
  rw [show A.in1.handled = none from hh]
  refine wpAny_bind (wpAny_pure (wpAny_throw ?_))
  refine wpAny_bind (wpAny_isInstance (T := "StopIteration") (b := true) ⟨_, Heap.get?_push_size _ rfl, rfl⟩ isSubtype_stop ?_)
  exact wpAny_pure (hQ _ (((Heap.SameBut.update ..).extBut.push _).push _))
end
end Mine
end
section
namespace Mine

noncomputable def pairsD (l : Vs) : List D := l.map fun p => .tuple [.str p.1, p.2]

noncomputable def ItmJ (H : List Addr) (it d : Addr) (ep : Nat) (es : Array DictEntry) (l : List D) (h : Heap) : Prop := ∃ i f0 f1 ok ov, ItmIt h it d i es.size ep f0 f1 ok ov ∧ ((f0 = .none ∧ f1 = .bool false) ∨ ∃ (T : Addr) (oT : Obj) (b : Bool), f0 = rawInt T ∧ f1 = .bool b ∧ Vw h H T = some oT) ∧
  (∃ o, Vw h H d = some o ∧ o.cls = .type "dict" ∧ o.data = .dict es ep) ∧ ∃ ps, RepE (Vw h H) ps (es.toList.drop i) ∧ l = pairsD ps

theorem rawInt_inj {a b : Addr} (h : rawInt (a : Int) = rawInt (b : Int)) : a = b := by
  unfold rawInt at h
  injection h with h
  exact Int.ofNat_inj.mp h

section
variable {prog : Program} {w : World} {A : Around} {E : Value → Shared → Prop} {s : Shared}

theorem ItL.items (hh : A.handled = none) (it d : Addr) (ep : Nat) (es : Array DictEntry) {H : List Addr} (hH : it ∈ H) : ItL prog w A H it [it] (ItmJ H it d ep es) where
  frame := fun l h h' st k v => el_EEEEEAAAEAT st fun i f0 f1 ok ov hi hf hq ps r e => el_EAAT hq fun o ho hc hd => ⟨i, f0, f1, ok, ov, k it _ (by simp) hi, by
    rcases hf with hf | ⟨T, oT, b, h1, h2, h3⟩
    · exact .inl hf
    · exact .inr ⟨T, oT, b, h1, h2, v _ _ h3⟩, ⟨o, v _ _ ho, hc, hd⟩, ps, r.mono v, e⟩
  item := fun x l s Q E st hlive hQ => el_EEEEEAAAEAT st fun i f0 f1 ok ov hi hf hq ps r e => el_EAAT hq fun o ho hc hd => by
    clear st hq
    cases ps with
    | nil => cases e
    | cons p ps =>
      obtain ⟨k, dv⟩ := p
      simp only [pairsD, List.map_cons, List.cons.injEq] at e
      refine el_AT (e) fun hr0 hr1 => ?_
      subst hr0
      subst hr1
      refine el_EEEAAAT (r) fun en t es' e1 e2 r1 r2 => ?_
      have hlt : i < es.size := by
        have := congrArg List.length e1
        simp at this
        omega
      have hen : es[i] = en := by
        have := congrArg (·[0]?) e1
        simp [hlt] at this
        exact this
      have hes : es.toList.drop (i + 1) = es' := by rw [← List.tail_drop, e1]; rfl
      have nS : s.heap.objs.size ∉ H := fun q => by obtain ⟨o, q⟩ := hlive _ q; exact absurd (Heap.lt_size q) (Nat.lt_irrefl _)
      have hf' : HeldOr s.heap it f0 f1 := by
        rcases hf with hf | ⟨T, oT, b, h1, h2, h3⟩
        · exact .inl hf
        · exact .inr ⟨T, oT, b, h1, h2, fun q => Vw.nin h3 (q ▸ hH), Vw.of h3⟩
      refine items_next hi hf' ⟨o, Vw.of ho, hc, hd⟩ hlt fun h' f0' f1' ok' ov' hi' hT ht kp => ?_
      have le : PH.le (Vw s.heap H) (Vw h' H) := fun a o e => Vw.mk (kp a o (fun q => Vw.nin e (q ▸ hH)) (Vw.of e)) (Vw.nin e)
      refine hQ _ h' s.toks ?_ ⟨i + 1, f0', f1', ok', ov', hi', ?_, ⟨o, le _ _ ho, hc, hd⟩, ps, by rw [hes]; exact r2.mono le, rfl⟩ fun b o hb e => kp b o (by simpa using hb) e
      · refine rep_tuple.mpr ⟨_, _, _, 0, rfl, Vw.mk ht nS, ⟨rfl, rfl⟩, rfl, ?_⟩
        rw [hen]
        exact reps_cons' (rep_str.mpr ⟨t, e2⟩) (reps_cons' (r1.mono le) reps_nil')
      · refine el_EEAAT (hT) fun T b q1 q2 q3 => ?_
        rcases q3 with q3 | q3
        · exact .inr ⟨T, _, b, q1, q2, Vw.mk (by rw [q3]; exact ht) (by rw [q3]; exact nS)⟩
        · rcases hf with ⟨hf, _⟩ | ⟨T', oT, b', h1, h2, h3⟩
          · rw [hf] at q3; cases q3
          · rw [h1] at q3
            have := rawInt_inj q3
            subst this
            exact .inr ⟨T', oT, b, q1, q2, le _ _ h3⟩
  done := fun s Q E st hQ => el_EEEEEAAAEAT st fun i f0 f1 ok ov hi hf hq ps r e => el_EAAT hq fun o ho hc hd => by
    clear st hq
    have : ps = [] := by cases ps <;> first | rfl | cases e
    subst this
    have r : es.toList.drop i = [] := r
    have hge : es.size ≤ i := by simpa using r
    exact items_end hh hi ⟨o, Vw.of ho, hc, hd⟩ hge fun h' he => hQ h' s.toks fun b o hb e => he b o (by simpa using hb) e
  live := fun l h st b hb => el_EEEEEAT st fun i f0 f1 ok ov hi _ => by rw [List.mem_singleton.mp hb]; exact ⟨_, hi⟩

theorem repE_length {ρ : PH} : ∀ {l : Vs} {es : List DictEntry}, RepE ρ l es → es.length = l.length
  | [], es, h => by have h : es = [] := h; subst h; rfl
  | (k, d) :: l, es, h => by
    refine el_EEEAAAT (h) fun e t es' hr3 _ _ r => ?_
    subst hr3
    simp [repE_length r]
end

section
variable {prog : Program} {w : World} {base : Heap} {A : Around} {fl : List Env} {hid : List Addr} {s : Shared} {E : Value → Shared → Prop}

theorem listitems_does (c : Cx base A fl hid s.heap) {l : Vs} {v : Value} (r : Rep (Vw s.heap hid) (.dict l) v) (hn : l.length ≤ big) {Q Q' : Value → Shared → Prop}
    (k : ∀ v h' tk, Gr (faOf fl) [] s.heap h' → Rep (Vw h' hid) (.list (pairsD l)) v → Q v { s with heap := h', toks := tk })
    (z : ∀ zz h', wpAny (model prog w) A (call (.type "list") [.ref zz]) Q E { s with heap := h' } → Q' (.ref zz) { s with heap := h' }) :
    wpAny (model prog w) A (call (.builtin "dict.items") [v]) Q' E s := by
  obtain ⟨d, o, es, ep, rfl, ho, ⟨hc, hdn, hsy⟩, hd, re⟩ := rep_dict.mp r
  have hm : DictD s.heap d es ep := ⟨o, Vw.of ho, hc, hd⟩
  refine items_view hm hsy (z _ _ ?_)
  have g' : Gr (faOf fl) [] s.heap (s.heap.push { cls := .type "dict_items", data := .fields #[.ref d] }) := Gr.push _
  have hv : (s.heap.push { cls := .type "dict_items", data := .fields #[.ref d] }).get? s.heap.objs.size = some { cls := .type "dict_items", data := .fields #[.ref d] } := Heap.get?_push_size _ rfl
  generalize s.heap.push { cls := .type "dict_items", data := .fields #[.ref d] } = h' at *
  have nS' : h'.get? h'.objs.size = none := Heap.get?_none_of_le (Nat.le_refl _)
  have nS : s.heap.get? h'.objs.size = none := new_none g' nS'
  have hd' : DictD h' d es ep := ⟨o, (g' d o (Vw.of ho) (by simp)).2 fun q => Vw.nin ho (c.fhid d q), hc, hd⟩
  have hdk : ∀ {h₁ : Heap}, (∀ b o, h'.get? b = some o → h₁.get? b = some o) → DictD h₁ d es ep := fun kp => by
    obtain ⟨o, a, b⟩ := hd'; exact ⟨o, kp _ _ a, b⟩
  refine list_via (s := { s with heap := h' }) (T := "dict_items") (by decide) (by decide) c.hd ⟨_, hv, rfl⟩ (fun A' E' s' Q' hT q => hint_items hT q)
    (fun h => (h.objs.size, h.push { cls := .type "dict_itemiterator", data := .fields #[.none, .bool false, .ref d, .int 0 0, .int es.size 0, .int ep 0, .none, .none] })) (fun _ _ _ e => Heap.get?_push_of_some _ e)
    (fun A' E' Q' h₁ tk kp q => items_iter (s := { s with heap := h₁, toks := tk }) ⟨_, kp _ _ hv, rfl, rfl⟩ (hdk kp) q)
    (PostP := fun h'' acc => ∃ it, Reps (Vw h'' ([it] ++ ([h'.objs.size] ++ hid))) (pairsD l) acc.toList ∧ Gr (faOf fl) [] s.heap h'')
    (fun A' R h₁ h₃ tk cc hh' kp lt₁ kp₃ hS₃ fin => ?_) (fun h'' tk acc cc hS'' ⟨it, p1, p2⟩ => k _ h'' tk p2 (list_end c nS hS'' p1))
  have dIt : h₁.get? h₁.objs.size = none := Heap.get?_none_of_le (Nat.le_refl _)
  have g₁ : Gr (faOf fl) [] s.heap h₁ := g'.trans (Gr.keeps0 kp)
  have nIt : s.heap.get? h₁.objs.size = none := new_none g₁ dIt
  have neI : h₁.objs.size ≠ h'.objs.size := Nat.ne_of_gt lt₁
  have kp' : ∀ b o, h'.get? b = some o → h₃.get? b = some o := fun b o e => kp₃ b o (fun q => by rw [q, nS'] at e; cases e) (Heap.get?_push_of_some _ (kp b o e))
  have hIt : ItmIt h₃ h₁.objs.size d 0 es.size ep .none (.bool false) .none .none := kp₃ _ _ neI (Heap.get?_push_size _ rfl)
  have g₃ : Gr (faOf fl) [] s.heap h₃ := g'.trans (Gr.keeps0 kp')
  have le : PH.le (Vw s.heap hid) (Vw h₃ ([h₁.objs.size] ++ ([h'.objs.size] ++ hid))) := by
    have := le_dead (ex := [h₁.objs.size] ++ [h'.objs.size]) g₃ c.fhid (fun b hb => by
      simp only [List.cons_append, List.nil_append, List.mem_cons, List.not_mem_nil, or_false] at hb
      rcases hb with q | q
      · rw [q]; exact nIt
      · rw [q]; exact nS)
    rwa [List.append_assoc] at this
  have hn' : (([] : List D) ++ pairsD l).length ≤ big := by simpa [pairsD] using hn
  refine extend_loop (H := [h₁.objs.size] ++ ([h'.objs.size] ++ hid)) (wr := [h₁.objs.size]) (J := ItmJ ([h₁.objs.size] ++ ([h'.objs.size] ++ hid)) h₁.objs.size d ep es) (ItL.items (A := A'.in1) hh' _ _ _ _ (by simp)) (by simp) (by simpa using Ne.symm neI) (fun b hb => by simp [List.mem_singleton.mp hb]) (pairsD l) [] { s with heap := h₃, toks := tk } #[] cc
    ⟨0, _, _, _, _, hIt, .inl ⟨rfl, rfl⟩, ⟨o, le _ _ ho, hc, hd⟩, l, by simpa using re.mono le, rfl⟩ hS₃ reps_nil' (fun b hb => ?_) hn' fun h'' tk' acc' c' e1 e2 e3 => fin h'' tk' acc' c' e1 ⟨_, e2, ?_⟩
  · rcases List.mem_append.mp hb with q | q
    · rw [List.mem_singleton.mp q]; exact ⟨_, hIt⟩
    · rcases List.mem_append.mp q with q | q
      · rw [List.mem_singleton.mp q]; exact ⟨_, hS₃⟩
      · exact g₃.alive (by simp) (c.live b q)
  · refine g₃.newW (W := [h'.objs.size, h₁.objs.size]) (Gr.of_keeps fun b o nb e => ?_) (fun b hb => ?_)
    · simp only [List.mem_cons, List.not_mem_nil, or_false, not_or] at nb
      exact e3 b o nb.1 (by simpa using nb.2) e
    · simp only [List.mem_cons, List.not_mem_nil, or_false] at hb
      rcases hb with q | q
      · rw [q]; exact nS
      · rw [q]; exact nIt
end
end Mine
end
section
namespace Mine

noncomputable def callable (g : G) : D → Bool
  | .obj a => (g.fn a).isSome
  | .bi _ => true
  | .type _ => true
  | _ => false

section
variable {g : G} {prog : Program} {w : World} {base : Heap} {A : Around} {fl : List Env} {hid : List Addr} {env : Env} {sc : Scope} {σ : Vs} {n : Nat} {s : Shared} {F : Fns}

theorem not_snd (S : SndE prog w base F n) (H : Here base A fl hid env sc σ n s.heap) (x : Expr) (pos : Pos) :
    Does (model prog w) A fl s (eval (.UnaryOp .Not x pos) env) ((F.ev sc σ x).bind fun a => (R.of (truthD a)).map fun b => .bool (!b)) (PV hid) := fun Q E f => by
  refine wpAny_UnaryOp ((S.ev H).use f fun a va h₁ tk₁ _ g₁ r₁ f₁ => ?_)
  refine not_of (truth_does r₁ _ E (f₁.map fun b b' h' tk _ g' p k => ?_))
  have p : b' = b := p
  subst p
  exact k _ _ _ (Gr.refl _ _ _) (rep_bool.mpr rfl)

theorem fn_looks {M : Model} {a : Addr} {fn : Fn} {h : Heap} (O : FnOK base a fn) (st : base.StaysIn h) : Looks M h (keeperOf (.ref a)) Keeper.frame := by
  obtain ⟨o, fd, items, ho, hd⟩ := O.there
  intro A' Q E s k q
  unfold keeperOf
  refine wpAny_bind (wpAny_load (k _ _ (st _ _ ho)) ?_)
  rw [hd]
  exact wpAny_pure q

theorem kw_some (pos : Pos) {ks : List Keyword} {kes : List (Str × Expr)} (h : kwNames ks = some kes) : (backToKw pos (keywordEach ks env)).any (·.1.isNone) = false := by
  refine el_AT (kw_names (env := env) pos ks h) fun h1 _ => ?_
  refine List.any_eq_false.mpr fun p hp => ?_
  have := List.all_eq_true.mp h1 p hp
  cases hq : p.1 <;> rw [hq] at this <;> simp at this ⊢

theorem callno_snd (K : GOK g base) (hfn : ∀ a fn, g.fn a = some fn → FnOK base a fn) (cb : ∀ f args kws, callable g f = false → F.call f args kws = .bad) (C : CallOK prog w base F n) (S : SndE prog w base F n) (H : Here base A fl hid env sc σ n s.heap)
    (x : Str) (np pos : Pos) (as : List Expr) (ks : List Keyword) :
    Does (model prog w) A fl s (eval (.Call (.Name x np) as ks pos) env) (if as.any starred || decide (20 < as.length) then .bad else (nameD g sc σ x).bind fun f => (argsD F sc σ as ks).bind fun p => F.call f p.1 p.2) (PV hid) := fun Q E fin => by
  refine fin.itn fun hc fin => ?_
  · have hs : as.any starred = false := by
      simp only [Bool.or_eq_true, not_or, Bool.not_eq_true] at hc
      exact hc.1
    refine wpAny_Call_ofName ((name_does K.tp H x np).use fin fun f v h₁ tk₁ eq₁ g₁ r₁ f₁ => ?_)
    clear eq₁
    have H₁ := H.grow g₁
    have H₁' : Here base A fl hid env sc σ n ({ s with heap := h₁, toks := tk₁ } : Shared).heap := H₁
    cases hk : kwNames ks with
    | none =>
      unfold argsD at f₁
      rw [hk] at f₁
      exact f₁.elim
    | some kes =>
      have hp : ((backTo pos (starEach as env)).any (·.1) || (backToKw pos (keywordEach ks env)).any (·.1.isNone)) = false := by
        rw [(star_plain pos as hs).1, kw_some pos hk]; rfl
      have go : ∀ {P : Heap → Prop}, (∀ h, P h → ∃ k, (k = Keeper.frame ∨ k = Keeper.machine ∨ k = Keeper.boundFrame) ∧ Looks (model prog w) h (keeperOf v) k) → (∀ h', Gr (faOf fl) [] h₁ h' → P h') →
          wpAny (model prog w) A (callWith pos v [] (backTo pos (starEach as env)) (backToKw pos (keywordEach ks env))) Q E { s with heap := h₁, toks := tk₁ } := fun hP pP => by
        refine callWith_of hp hP ((args_snd S H₁' v as ks pos hs).use f₁ fun p a h₂ tk₂ _ g₂ r₂ f₂ => ⟨pP h₂ g₂, ?_⟩)
        have H₂ := H₁.grow g₂
        exact C (s := { s with heap := h₂, toks := tk₂ }) H₂.rm H₂.cx (r₁.mono (H₁.view g₂)) r₂.1 r₂.2 Q E f₂
      cases hcl : callable g f with
      | false =>
        refine callWith_of (P := fun _ => False) hp (fun _ q => q.elim) ((args_snd S H₁' v as ks pos hs).use f₁ fun p a h₂ tk₂ _ g₂ r₂ f₂ => ?_)
        rw [cb _ _ _ hcl] at f₂
        exact f₂.elim
      | true =>
        cases f with
        | obj a =>
          refine el_ET (Option.isSome_iff_exists.mp hcl) fun fn hf => ?_
          have r₁' := rep_obj.mp r₁
          subst r₁'
          exact go (P := fun h => base.StaysIn h) (fun h st => ⟨_, .inl rfl, fn_looks (hfn a fn hf) st⟩) fun h' g' => (H₁.cx.grow g').stays
        | bi id =>
          have r₁' := rep_bi.mp r₁
          subst r₁'
          exact go (P := fun _ => True) (fun _ _ => keep_builtin) fun _ _ => trivial
        | type n =>
          have r₁' := rep_type.mp r₁
          subst r₁'
          exact go (P := fun _ => True) (fun _ _ => keep_type) fun _ _ => trivial
        | _ => exact no_true hcl

theorem LF.elim_no {α : Type} {P : Prop} {o : Option α} {k : α → LF} {l : LF} (hl : l ≠ .no) (h : o.elim .no k = l) (c : ∀ a, o = some a → k a = l → P) : P := by
  cases o with
  | none => exact (hl h.symm).elim
  | some a => exact c a rfl h
theorem LF.if_no {P : Prop} {p : Prop} [Decidable p] {a l : LF} (hl : l ≠ .no) (h : (if p then a else .no) = l) (c : p → a = l → P) : P := by
  by_cases q : p
  · rw [if_pos q] at h; exact c q h
  · rw [if_neg q] at h; exact (hl h.symm).elim
theorem listForm_inv {P : Prop} {x : Str} {as : List Expr} {ks : List Keyword} {l : LF} (hl : l ≠ .no) (h : listForm x as ks = l) (c : ∀ f as' cp, as = [.Call f as' [] cp] → ks = [] → listForm1 f as' cp = l → P) : P :=
  LF.if_no hl h fun h1 h => LF.elim_no hl h fun q h2 h => LF.if_no hl h fun h3 h => bind_some h2 fun a h4 h5 => by
    obtain ⟨f, as', ks', cp⟩ := q
    have h1 := (Bool.and_eq_true_iff.mp h1).2
    refine c f as' cp ?_ (List.isEmpty_iff.mp h1) h
    rw [one?_s h4, Expr.call?_s h5, show ks' = [] from List.isEmpty_iff.mp h3]
theorem listForm_items {x : Str} {o : Expr} {as : List Expr} {ks : List Keyword} (h : listForm x as ks = .items o) : ∃ apos cp, as = [.Call (.Attribute o "items" apos) [] [] cp] ∧ ks = [] ∧ superForm o = false ∧ (apos.endLine == cp.line) = true :=
  listForm_inv (by intro q; cases q) h fun f as' cp e1 e2 h => by
    cases f with
    | Attribute o' n q =>
      refine LF.if_no (by intro q; cases q) h fun h2 h => ?_
      cases h
      simp only [Bool.and_eq_true, Bool.not_eq_true', List.isEmpty_iff] at h2
      refine el_AT (h2) fun hn0 h5 => ?_
      obtain ⟨⟨h1, h3⟩, h4⟩ := hn0
      exact ⟨q, cp, by rw [e1, h1, eq_of_beq h3], e2, h4, h5⟩
    | _ => cases h

theorem itemscase_snd (K : GOK g base) (S : SndE prog w base F n) (H : Here base A fl hid env sc σ n s.heap) (x : Str) (np apos cp pos : Pos) (o : Expr) (ho : superForm o = false) (hl : (apos.endLine == cp.line) = true) :
    Does (model prog w) A fl s (eval (.Call (.Name x np) [.Call (.Attribute o "items" apos) [] [] cp] [] pos) env) (itemsE g F sc σ x o) (PV hid) := fun Q E fin => by
  refine wpAny_Call_ofName ((name_does K.tp H x np).use fin fun f v h₁ tk₁ _ g₁ r₁ f₁ => ?_)
  have H₁ := H.grow g₁
  refine FinT.ite f₁ fun hty f₁ => ?_
  rw [D.isTy_t hty] at r₁
  · have r₁' := rep_type.mp r₁
    subst r₁'
    refine callWith_of (P := fun _ => True) rfl (fun _ _ => keep_type) ?_
    have hbk : backTo pos (starEach [.Call (.Attribute o "items" apos) [] [] cp] env) = (false, eval (.Call (.Attribute o "items" apos) [] [] cp) env) :: backTo pos (starEach [] env) := rfl
    rw [hbk]
    refine evalArgs_kw rfl ?_
    rw [← hbk]
    refine wpAny_items_cons ?_ rfl
    rw [arm_eval_Call, base_plain ho]
    refine wpAny_bind ((S.ev H₁).use f₁ fun u vu h₂ tk₂ _ g₂ r₂ f₂ => ?_)
    have H₂ := H₁.grow g₂
    refine wpAny_bind (wpAny_standAt ?_)
    have hform : methodCallForm (([] : List Expr).length + ([] : List Keyword).length) (backTo cp (starEach [] env)) (backToKw cp (keywordEach [] env)) = true := rfl
    have hpos : methodCallPos true o env apos cp = pure cp := by unfold methodCallPos; simp [hl]
    unfold methodCall
    rw [hform]
    refine f₂.ofR fun l hl' f₂ => f₂.ite fun hn f₂ => ?_
    rw [D.dict?_s hl'] at r₂
    · · refine el_EEEEAAAAT (rep_dict.mp r₂) fun d od es ep hr4 hod hn6 hd re => ?_
        subst hr4
        obtain ⟨hc, hdn, hsy⟩ := hn6
        refine wpAny_bind (wpAny_holding (getMethod_builtin (T := "dict") (name := Str.ofString "items") (id := "dict.items") ⟨od, Vw.of hod, hc⟩ PySem.F.plainAttrs_dict PySem.F.slot_dict_items PySem.F.type_dict_items (fun a q => by cases q; exact ⟨od, Vw.of hod, hdn⟩) ?_))
        refine wpAny_bind (wpAny_of_eq hpos ?_)
        refine callWith_of (P := fun _ => True) rfl (fun _ _ => keep_builtin) ?_
        have hb0 : backTo cp (starEach [] env) = [] := rfl
        rw [hb0]
        refine evalArgs_kw_nil rfl (wpAny_evalAll_nil ⟨trivial, ?_⟩)
        refine listitems_does (s := { s with heap := h₂, toks := tk₂ }) (Q := Q) (E := E) H₂.cx r₂ hn (fun v h' tk g' r' => f₂ v h' tk g' r') fun zz h' q => ?_
        exact wpAny_items_nil (wpAny_evalAll_nil ⟨trivial, q⟩)
end
end Mine
end
section
namespace Mine

structure Snd (g : G) (prog : Program) (w : World) (base : Heap) (F : Fns) (n : Nat) : Prop extends SndC prog w base F n where
  call : CallOK prog w base F n
  cb : ∀ f args kws, callable g f = false → F.call f args kws = .bad
  ex : ExOK prog w base F n
  exs : ExsOK prog w base F n

section
variable {g : G} {prog : Program} {w : World} {base : Heap} {n : Nat} {F : Fns}

theorem snd_zero : Snd g prog w base (fns g 0) 0 where
  ev := fun _ _ _ f => f.elim
  evT := fun _ _ _ f => f.elim
  it := fun _ _ _ f => f.elim
  cu := fun _ f => f.elim
  call := fun _ _ _ _ _ _ _ f => f.elim
  cb := fun _ _ _ _ => rfl
  ex := fun _ _ _ f => f.elim
  exs := fun _ _ _ f => f.elim

theorem ev_all (K : GOK g base) (hfn : ∀ a fn, g.fn a = some fn → FnOK base a fn) (S : Snd g prog w base F n) {A : Around} {fl : List Env} {hid : List Addr} {env : Env} {sc : Scope} {σ : Vs} {s : Shared} {e : Expr} (H : Here base A fl hid env sc σ n s.heap) :
    Does (model prog w) A fl s (eval e env) (evS g F sc σ e) (PV hid) := fun Q E f => by
  cases e with
  | Constant c k p => exact const_does _ _ _ Q E f
  | Name x p => exact name_does K.tp H _ _ Q E f
  | BinOp l op r p => exact bin_snd S.toSndE H _ _ _ _ Q E f
  | UnaryOp op x p =>
    cases op with
    | USub => exact neg_snd S.toSndE H _ _ Q E f
    | Not => exact not_snd S.toSndE H _ _ Q E f
    | _ => exact f.elim
  | IfExp t a b p => exact ifexp_snd S.toSndE H _ _ _ _ Q E f
  | Compare l ops rs p => exact cmp_snd S.toSndE H _ _ _ _ Q E f
  | List es p => exact list_snd S.toSndE H _ _ Q E f
  | Tuple es k p => exact tuple_snd S.toSndE H _ _ _ Q E f
  | ListComp elt gs csc p =>
      refine f.ofR fun q hq f => ?_
      rw [gen1_s (t := q.1) (i := q.2.1) (ifs := q.2.2) hq]
      exact comp_snd S.toSndI H _ _ _ _ _ Q E f
  | Call fe as ks p =>
    cases fe with
    | Attribute o x q =>
        refine f.ite fun hk f => ?_
        rw [List.isEmpty_iff.mp hk]
        exact meth_snd K.pat S.toSndE H _ _ _ _ _ Q E f
    | Name x q =>
      replace f : FinT fl s (callE g F sc σ x as ks) (PV hid) Q E := f
      unfold callE at f
      cases hl : listForm x as ks with
      | items o =>
        rw [hl] at f
        obtain ⟨apos, cp, rfl, rfl, ho, hl⟩ := listForm_items hl
        exact itemscase_snd K S.toSndE H _ _ _ _ _ _ ho hl Q E f
      | no =>
        rw [hl] at f
        exact callno_snd K hfn S.cb S.call S.toSndE H _ _ _ _ _ Q E f
    | _ => exact f.elim
  | Subscript o i p =>
    replace f : FinT fl s (subE F sc σ o i) (PV hid) Q E := f
    unfold subE at f
    cases hs : Expr.slice? i with
    | some q =>
      rw [hs] at f
      refine el_ET (Expr.slice?_s (a := q.1) (b := q.2.1) (c := q.2.2) hs) fun sp hr1 => ?_
      subst hr1
      exact slice_snd S.toSndE H _ _ _ _ _ _ Q E f
    | none =>
      rw [hs] at f
      exact sub_snd S.toSndE H _ _ _ hs Q E f
  | _ => exact f.elim

theorem snd_succ (K : GOK g base) (hfn : ∀ a fn, g.fn a = some fn → FnOK base a fn) (lim : base.NoLimit) (S : Snd g prog w base F n) : Snd g prog w base (stepF g n F) (n + 1) where
  ev := fun H => ev_all K hfn S (H.le (Nat.le_succ n))
  evT := fun H => evT_snd S.toSndE (H.le (Nat.le_succ n)) _
  it := fun H => it_snd K.tp S.toSndE (H.le (Nat.le_succ n)) _
  cu := fun H f => comp_core S.toSndI (H.le (Nat.le_succ n)) f
  call := fun rm c rf ra rk => call_snd hfn lim S.exs rm c rf ra rk
  cb := fun f args kws h => by
    cases f with
    | obj a =>
      show (R.of (g.fn a)).bind _ = .bad
      rw [Option.not_isSome_iff_eq_none.mp (Bool.eq_false_iff.mp h)]; rfl
    | bi id => exact no_true h.symm
    | type n => exact no_true h.symm
    | _ => rfl
  ex := fun rm x hn fin => ex_snd K S.toSndC S.exs n _ (rm.le (Nat.le_succ n)) x hn fin
  exs := fun rm x hn fin => exs_snd S.ex _ _ _ _ (rm.le (Nat.le_succ n)) x hn fin

theorem snd_all (K : GOK g base) (hfn : ∀ a fn, g.fn a = some fn → FnOK base a fn) (lim : base.NoLimit) : ∀ n, Snd g prog w base (fns g n) n
  | 0 => snd_zero
  | n + 1 => snd_succ K hfn lim (snd_all K hfn lim n)
end
end Mine
end
section
namespace Mine

noncomputable def findDef (p : Program) (name : Str) : Option (Arguments × List Stmt × Scope) := p.main.body.findSome? fun st => match st with
  | .FunctionDef n a b _ _ _ sc _ _ _ => if n == name then some (a, b, sc) else Option.none
  | _ => Option.none
noncomputable def mkFn (p : Program) (name : String) (dflt : List D) : Option Fn := (findDef p name).map fun (a, b, sc) =>
  ⟨(a.posonlyargs ++ a.args).map (·.arg), a.kwonlyargs.map (·.arg), dflt, b, sc⟩
noncomputable def B64 : Array UInt8 := #[65, 66, 67, 68, 69, 70, 71, 72, 73, 74, 75, 76, 77, 78, 79, 80, 81, 82, 83, 84, 85, 86, 87, 88, 89, 90, 97, 98, 99, 100, 101, 102, 103, 104, 105, 106, 107, 108, 109, 110, 111, 112, 113, 114, 115, 116, 117, 118, 119, 120, 121, 122, 48, 49, 50, 51, 52, 53, 54, 55, 56, 57, 43, 47]
noncomputable def baseG : List (Str × D) := [("_wall", .obj 38), ("parse_keqv_list", .obj 45), ("_twin_re_1", .obj 50), ("bytes_types", .tys ["bytes", "bytearray"]), ("_bytes_from_decode_data", .obj 58), ("Error", .obj 68), ("_ascii_buffer", .obj 78), ("_buffer", .obj 85), ("_truth", .obj 92), ("_B64", .bytes B64), ("_b64_value", .obj 99), ("a2b_base64", .obj 107), ("b2a_base64", .obj 115), ("_NO_SEP", .obj 116), ("b2a_hex", .obj 124), ("hexlify", .obj 124), ("_hex_value", .obj 131), ("a2b_hex", .obj 138), ("unhexlify", .obj 138), ("b64encode", .obj 146), ("b64decode", .obj 154), ("b16encode", .obj 161), ("b16decode", .obj 169)]
noncomputable def baseF : List (Addr × String × List D) := [(45, "parse_keqv_list", []), (58, "_bytes_from_decode_data", []), (78, "_ascii_buffer", []), (85, "_buffer", []), (92, "_truth", []), (99, "_b64_value", []), (107, "a2b_base64", []), (115, "b2a_base64", []), (124, "b2a_hex", [.obj 116, .int 1]), (131, "_hex_value", []), (138, "a2b_hex", []), (146, "b64encode", [.none]), (154, "b64decode", [.none, .bool false]), (161, "b16encode", []), (169, "b16decode", [.bool false])]
noncomputable def biL : List (Str × D) := [("len", .bi "len"), ("sum", .bi "sum"), ("chr", .bi "chr"), ("isinstance", .bi "isinstance"), ("range", .type "range"), ("zip", .type "zip"), ("list", .type "list"), ("bytes", .type "bytes"), ("bytearray", .type "bytearray"), ("str", .type "str"), ("type", .type "type"), ("ValueError", .type "ValueError"), ("IndexError", .type "IndexError"), ("int", .type "int"), ("bool", .type "bool")]
noncomputable def mkG (p : Program) (l : List (Addr × String)) : G :=
  ⟨fun x => (baseG ++ l.map fun q : Addr × String => ((q.2 : Str), D.obj q.1)).lookup x, fun a => ((baseF ++ l.map fun q : Addr × String => (q.1, q.2, ([] : List D))).lookup a).bind fun q => mkFn p q.1 q.2, fun a => if a = 68 then some ["ValueError", "Exception", "BaseException", "object"] else Option.none, 50, fun x => biL.lookup x⟩

theorem look_all {α β : Type} [BEq α] [LawfulBEq α] {P : α → β → Prop} : ∀ (l : List (α × β)), (∀ p ∈ l, P p.1 p.2) → ∀ x b, l.lookup x = some b → P x b
  | [], _, x, b, h => by cases h
  | (y, c) :: r, H, x, b, h => by
    rw [List.lookup_cons] at h
    cases e : x == y with
    | true => rw [e] at h; cases h; cases (beq_iff_eq.mp e); exact H _ (List.mem_cons_self ..)
    | false => rw [e] at h; exact look_all r (fun p q => H p (List.mem_cons_of_mem _ q)) x b h

theorem Ns.ofEntries {h : Heap} {a : Addr} {o : Obj} {es : Array DictEntry} {ep : Nat} (ho : h.get? a = some o) (hd : o.data = .dict es ep) (sk : StrKeys es) : h.Ns a (nsFind es) := ⟨o, es, ep, ho, hd, sk, fun _ => rfl⟩

noncomputable def keyStr? (v : Value) : Bool := match v with
  | .str _ _ => true
  | _ => false
theorem strKeys_of {es : Array DictEntry} (h : es.all (fun e => keyStr? e.key) = true) : StrKeys es := by
  intro e he
  have := Array.all_eq_true_iff_forall_mem.mp h e he
  cases hk : e.key with
  | str n t => exact ⟨n, t, rfl⟩
  | _ => rw [hk] at this; cases this
end Mine
namespace Mine
noncomputable def AllL {α : Type} (P : α → Prop) : List α → Prop
  | [] => True
  | x :: r => P x ∧ AllL P r
theorem AllL.all {α : Type} {P : α → Prop} : ∀ {l : List α}, AllL P l → ∀ p ∈ l, P p
  | _ :: _, h, p, hp => by
    rcases List.mem_cons.mp hp with q | q
    · subst q; exact h.1
    · exact AllL.all h.2 p q
theorem reps_ints {ρ : PH} : ∀ {vs : List Value} {ns : List Int}, IntsAre vs ns → Reps ρ (ns.map .int) vs
  | _, _, .nil => rfl
  | _, _, .cons n t r => ⟨_, _, rfl, rep_int.mpr ⟨t, rfl⟩, reps_ints r⟩
theorem rep_script {P : Params} {h : Heap} {a : Addr} {ns : List Int} {vs : List Value} (w1 : Well P h (.ref a) (ofPy (.list (ns.map .int)))) (hL : h.IsList a vs.toArray) (hI : IntsAre vs ns) : Rep (Vw h []) (.list (ns.map .int)) (.ref a) := by
  generalize hx : ofPy (.list (ns.map .int)) = x at w1
  refine el_EAAET (hL) fun o ho hc n hd => ?_
  cases w1 with
  | list e _ =>
    rw [ho] at e
    cases e
    cases hd
    exact ⟨_, _, _, _, rfl, Vw.mk ho (by simp), ⟨rfl, rfl⟩, rfl, by simpa using reps_ints hI⟩
  | _ => cases hx
theorem cx_top {h : Heap} : Cx h callerA [] [] h := ⟨rfl, rfl, trivial, fun _ _ e => e, fun _ q => (List.not_mem_nil q).elim, fun _ q => (List.not_mem_nil q).elim, fun _ q => (List.not_mem_nil q).elim⟩
theorem gr_top {h h' : Heap} (g : Gr (faOf []) [] h h') : ∀ b o, h.get? b = some o → h'.get? b = some o := fun b o e => (g b o e (by simp)).2 (by simp [faOf])

noncomputable def objAt (K : Frag) (a : Addr) : Obj := (K.lookup a).getD { cls := .none, data := .plain }
noncomputable def fdAt (K : Frag) (a : Addr) (j : FuncData) : FuncData := match (objAt K a).data with
  | .func fd => fd
  | _ => j
noncomputable def itemsAt (K : Frag) (a : Addr) : Array Value := match (objAt K a).data with
  | .seq vs _ => vs
  | _ => #[]
noncomputable def fieldsAt (K : Frag) (a : Addr) : Array Value := match (objAt K a).data with
  | .fields vs => vs
  | _ => #[]
noncomputable def entriesAt (K : Frag) (a : Addr) : Array DictEntry := match (objAt K a).data with
  | .dict es _ => es
  | _ => #[]
noncomputable def tokOf (v : Option Value) : Tok := match v with
  | some (.str _ t) => t
  | some (.int _ t) => t
  | some (.bytes _ t) => t
  | _ => 0
noncomputable def epAt (K : Frag) (a : Addr) : Nat := match (objAt K a).data with
  | .dict _ n => n
  | _ => 0
noncomputable def codeAt (fd : FuncData) : Addr := match fd.code with
  | .ref c => c
  | _ => 0
theorem some_of {α : Type} {o : Option α} {a : α} {Q : α → Prop} (h : o = some a) (q : Q a) : ∀ b, o = some b → Q b := fun b e => by
  rw [h] at e; cases e; exact q
theorem FnOK.ofParts {base : Heap} {a : Addr} {fn : Fn} {pos kwo : List Str} {dflt : List D} (hp : fn.pos = pos) (hk : fn.kwo = kwo) (hd : fn.dflt = dflt)
    (there : FnThere base a fn pos kwo dflt)
    (kind : fn.scope.kind = .function) (co : fn.scope.isCoroutine = false) (gen : fn.scope.isGenerator = false) (nd : (fn.scope.names.map (·.1)).Nodup)
    (names : ∀ x ∈ pos ++ kwo, fn.scope.names.lookup x = some .local ∨ fn.scope.names.lookup x = some .cell) : FnOK base a fn := by
  subst hp hk hd
  exact ⟨there, kind, co, gen, nd, names⟩
theorem binds100 {K : Frag} {base : Heap} {fd : FuncData} {x : Str} (X : K.In base) (H1 : ∀ (S : Setting) (a : Value), peek K S (bindArgs fd ⟨[a], []⟩) = some [(x, a)]) :
    ∀ (vs kvals : List Value), vs.length ≤ ([x] : List Str).length → ([x] : List Str).length ≤ vs.length + ([] : List Value).length → kvals.length = ([] : List Str).length → ∀ s : Shared, base.StaysIn s.heap →
      BindsTo s fd ⟨vs, ([] : List Str).zip kvals⟩ (([x] : List Str).zip (vs ++ ([] : List Value).drop (vs.length + ([] : List Value).length - ([x] : List Str).length)) ++ ([] : List Str).zip kvals) := by
  intro vs kvals h1 h2 h3 s st
  simp only [List.length_cons, List.length_nil] at h1 h2 h3
  rcases vs with _ | ⟨a, _ | ⟨b, vs⟩⟩
  · exact absurd h2 (by simp)
  · rcases kvals with _ | ⟨w, kvals⟩
    · exact kp_binds (X.keeps st) fun S => H1 S a
    · simp at h3
  · simp only [List.length_cons] at h1; omega
theorem binds110 {K : Frag} {base : Heap} {fd : FuncData} {x u : Str} (X : K.In base) (H1 : ∀ (S : Setting) (a w : Value), peek K S (bindArgs fd ⟨[a], [(u, w)]⟩) = some [(x, a), (u, w)]) :
    ∀ (vs kvals : List Value), vs.length ≤ ([x] : List Str).length → ([x] : List Str).length ≤ vs.length + ([] : List Value).length → kvals.length = ([u] : List Str).length → ∀ s : Shared, base.StaysIn s.heap →
      BindsTo s fd ⟨vs, ([u] : List Str).zip kvals⟩ (([x] : List Str).zip (vs ++ ([] : List Value).drop (vs.length + ([] : List Value).length - ([x] : List Str).length)) ++ ([u] : List Str).zip kvals) := by
  intro vs kvals h1 h2 h3 s st
  simp only [List.length_cons, List.length_nil] at h1 h2 h3
  rcases vs with _ | ⟨a, _ | ⟨b, vs⟩⟩
  · exact absurd h2 (by simp)
  · rcases kvals with _ | ⟨w, _ | ⟨w', kvals⟩⟩
    · simp at h3
    · exact kp_binds (X.keeps st) fun S => H1 S a w
    · simp at h3
  · simp only [List.length_cons] at h1; omega
theorem binds200 {K : Frag} {base : Heap} {fd : FuncData} {x y : Str} (X : K.In base) (H2 : ∀ (S : Setting) (a b : Value), peek K S (bindArgs fd ⟨[a, b], []⟩) = some [(x, a), (y, b)]) :
    ∀ (vs kvals : List Value), vs.length ≤ ([x, y] : List Str).length → ([x, y] : List Str).length ≤ vs.length + ([] : List Value).length → kvals.length = ([] : List Str).length → ∀ s : Shared, base.StaysIn s.heap →
      BindsTo s fd ⟨vs, ([] : List Str).zip kvals⟩ (([x, y] : List Str).zip (vs ++ ([] : List Value).drop (vs.length + ([] : List Value).length - ([x, y] : List Str).length)) ++ ([] : List Str).zip kvals) := by
  intro vs kvals h1 h2 h3 s st
  simp only [List.length_cons, List.length_nil] at h1 h2 h3
  rcases vs with _ | ⟨a, _ | ⟨b, _ | ⟨c, vs⟩⟩⟩
  · exact absurd h2 (by simp)
  · exact absurd h2 (by simp)
  · rcases kvals with _ | ⟨w, kvals⟩
    · exact kp_binds (X.keeps st) fun S => H2 S a b
    · simp at h3
  · simp only [List.length_cons] at h1; omega
theorem binds300 {K : Frag} {base : Heap} {fd : FuncData} {x y z : Str} (X : K.In base) (H3 : ∀ (S : Setting) (a b c : Value), peek K S (bindArgs fd ⟨[a, b, c], []⟩) = some [(x, a), (y, b), (z, c)]) :
    ∀ (vs kvals : List Value), vs.length ≤ ([x, y, z] : List Str).length → ([x, y, z] : List Str).length ≤ vs.length + ([] : List Value).length → kvals.length = ([] : List Str).length → ∀ s : Shared, base.StaysIn s.heap →
      BindsTo s fd ⟨vs, ([] : List Str).zip kvals⟩ (([x, y, z] : List Str).zip (vs ++ ([] : List Value).drop (vs.length + ([] : List Value).length - ([x, y, z] : List Str).length)) ++ ([] : List Str).zip kvals) := by
  intro vs kvals h1 h2 h3 s st
  simp only [List.length_cons, List.length_nil] at h1 h2 h3
  rcases vs with _ | ⟨a, _ | ⟨b, _ | ⟨c, _ | ⟨d, vs⟩⟩⟩⟩
  · exact absurd h2 (by simp)
  · exact absurd h2 (by simp)
  · exact absurd h2 (by simp)
  · rcases kvals with _ | ⟨w, kvals⟩
    · exact kp_binds (X.keeps st) fun S => H3 S a b c
    · simp at h3
  · simp only [List.length_cons] at h1; omega
theorem binds302 {K : Frag} {base : Heap} {fd : FuncData} {x y z : Str} {i j : Value} (X : K.In base) (H1 : ∀ (S : Setting) (a : Value), peek K S (bindArgs fd ⟨[a], []⟩) = some [(x, a), (y, i), (z, j)]) (H2 : ∀ (S : Setting) (a b : Value), peek K S (bindArgs fd ⟨[a, b], []⟩) = some [(x, a), (y, b), (z, j)]) (H3 : ∀ (S : Setting) (a b c : Value), peek K S (bindArgs fd ⟨[a, b, c], []⟩) = some [(x, a), (y, b), (z, c)]) :
    ∀ (vs kvals : List Value), vs.length ≤ ([x, y, z] : List Str).length → ([x, y, z] : List Str).length ≤ vs.length + ([i, j] : List Value).length → kvals.length = ([] : List Str).length → ∀ s : Shared, base.StaysIn s.heap →
      BindsTo s fd ⟨vs, ([] : List Str).zip kvals⟩ (([x, y, z] : List Str).zip (vs ++ ([i, j] : List Value).drop (vs.length + ([i, j] : List Value).length - ([x, y, z] : List Str).length)) ++ ([] : List Str).zip kvals) := by
  intro vs kvals h1 h2 h3 s st
  simp only [List.length_cons, List.length_nil] at h1 h2 h3
  rcases vs with _ | ⟨a, _ | ⟨b, _ | ⟨c, _ | ⟨d, vs⟩⟩⟩⟩
  · exact absurd h2 (by simp)
  · rcases kvals with _ | ⟨w, kvals⟩
    · exact kp_binds (X.keeps st) fun S => H1 S a
    · simp at h3
  · rcases kvals with _ | ⟨w, kvals⟩
    · exact kp_binds (X.keeps st) fun S => H2 S a b
    · simp at h3
  · rcases kvals with _ | ⟨w, kvals⟩
    · exact kp_binds (X.keeps st) fun S => H3 S a b c
    · simp at h3
  · simp only [List.length_cons] at h1; omega
theorem binds201 {K : Frag} {base : Heap} {fd : FuncData} {x y : Str} {i : Value} (X : K.In base) (H1 : ∀ (S : Setting) (a : Value), peek K S (bindArgs fd ⟨[a], []⟩) = some [(x, a), (y, i)]) (H2 : ∀ (S : Setting) (a b : Value), peek K S (bindArgs fd ⟨[a, b], []⟩) = some [(x, a), (y, b)]) :
    ∀ (vs kvals : List Value), vs.length ≤ ([x, y] : List Str).length → ([x, y] : List Str).length ≤ vs.length + ([i] : List Value).length → kvals.length = ([] : List Str).length → ∀ s : Shared, base.StaysIn s.heap →
      BindsTo s fd ⟨vs, ([] : List Str).zip kvals⟩ (([x, y] : List Str).zip (vs ++ ([i] : List Value).drop (vs.length + ([i] : List Value).length - ([x, y] : List Str).length)) ++ ([] : List Str).zip kvals) := by
  intro vs kvals h1 h2 h3 s st
  simp only [List.length_cons, List.length_nil] at h1 h2 h3
  rcases vs with _ | ⟨a, _ | ⟨b, _ | ⟨c, vs⟩⟩⟩
  · exact absurd h2 (by simp)
  · rcases kvals with _ | ⟨w, kvals⟩
    · exact kp_binds (X.keeps st) fun S => H1 S a
    · simp at h3
  · rcases kvals with _ | ⟨w, kvals⟩
    · exact kp_binds (X.keeps st) fun S => H2 S a b
    · simp at h3
  · simp only [List.length_cons] at h1; omega
end Mine
end
section
namespace Mine

section
variable {g : G} {n : Nat}
theorem fns_ev (sc σ e) : (fns g (n+1)).ev sc σ e = evS g (fns g n) sc σ e := (rfl)
theorem fns_evT (sc σ e) : (fns g (n+1)).evT sc σ e = evTS (fns g n) sc σ e := (rfl)
theorem fns_it (sc σ e) : (fns g (n+1)).it sc σ e = itS g (fns g n) sc σ e := (rfl)
theorem fns_ex (sc σ e) : (fns g (n+1)).ex sc σ e = exS g (fns g n) n sc σ e := (rfl)
theorem fns_exs (sc σ e) : (fns g (n+1)).exs sc σ e = exsS (fns g n) sc σ e := (rfl)
end

theorem lookup_nil' {β : Type} (a : Str) : List.lookup a ([] : List (Str × β)) = none := (rfl)
end Mine
end
section
set_option backward.match.sparseCases false
namespace Mine
structure Shut {α β : Type} (f : α → R β) : Type where
noncomputable def BK {α β : Type} (m : R α) (f : α → R β) (_ : Shut f) : R β := R.bind m f
theorem bk_ok {α β : Type} (a : α) (f : α → R β) (x) : BK (.ok a) f x = f a := (rfl)
theorem bk_exc {α β : Type} (c : Value) (m : Str) (f : α → R β) (x) : BK (.exc c m) f x = .exc c m := (rfl)
theorem bk_bad {α β : Type} (f : α → R β) (x) : BK .bad f x = .bad := (rfl)
theorem rb_ok {α β : Type} (a : α) (f : α → R β) : R.bind (.ok a) f = f a := (rfl)
theorem rm_ok {α β : Type} (a : α) (f : α → β) : R.map f (.ok a) = .ok (f a) := (rfl)
theorem rm_exc {α β : Type} (c : Value) (m : Str) (f : α → β) : R.map f (.exc c m) = .exc c m := (rfl)
theorem R.of_some {α : Type} (a : α) : R.of (some a) = .ok a := (rfl)
theorem R.of_none {α : Type} : R.of (none : Option α) = .bad := (rfl)
theorem R.safe_ok {α : Type} (a : α) : R.safe (.ok a) = .ok a := (rfl)
theorem ob_s {α β : Type} (a : α) (f : α → Option β) : (some a).bind f = f a := (rfl)
theorem ob_n {α β : Type} (f : α → Option β) : (none : Option α).bind f = none := (rfl)
theorem om_s {α β : Type} (a : α) (f : α → β) : (some a).map f = some (f a) := (rfl)
theorem ite_t {α : Type} {p : Prop} [Decidable p] (h : p) (a b : α) : ite p a b = a := if_pos h
theorem ite_f {α : Type} {p : Prop} [Decidable p] (h : ¬ p) (a b : α) : ite p a b = b := if_neg h
theorem not_closed {p : Prop} [Decidable p] (h : decide p = false) : ¬ p := of_decide_eq_false h
theorem ite_and (b c : Bool) : (if b = true then R.ok c else R.ok false) = R.ok (b && c) := by cases b <;> rfl
theorem ite_or (b c : Bool) : (if b = true then R.ok true else R.ok c) = R.ok (b || c) := by cases b <;> rfl
theorem dq_int (i) : D.int? (.int i) = some i := (rfl)
theorem dq_str (i) : D.str? (.str i) = some i := (rfl)
theorem dq_bytes (i) : D.bytes? (.bytes i) = some i := (rfl)
theorem dq_type (i) : D.type? (.type i) = some i := (rfl)
theorem dq_list (i) : D.list? (.list i) = some i := (rfl)
theorem dq_tuple (i) : D.tuple? (.tuple i) = some i := (rfl)
theorem dq_dict (i) : D.dict? (.dict i) = some i := (rfl)
theorem dq_obj (i) : D.obj? (.obj i) = some i := (rfl)
theorem bq_ml (i) : B.ml? (.ml i) = some i := (rfl)
theorem bq_md (i) : B.md? (.md i) = some i := (rfl)
theorem two_eq {α : Type} (a b : α) : two? [a, b] = some (a, b) := (rfl)
noncomputable def isNo : LF → Bool
  | .no => true
  | _ => false
theorem isNo_eq {f : LF} (h : isNo f = true) : f = .no := by cases f <;> first | rfl | exact no_true h
section
variable {g : G} {F : Fns} {sc csc : Scope} {σ : Vs} {τ : Sg} {n : Nat} {p p' p'' q q' : Pos} {k : Nat}
theorem e_const (c) : evS g F sc σ (.Constant c k p) = constD c := (rfl)
theorem e_name (x) : evS g F sc σ (.Name x p) = nameD g sc σ x := (rfl)
theorem e_bin (l op r) : evS g F sc σ (.BinOp l op r p) = BK (F.ev sc σ l) (fun a => BK (F.ev sc σ r) (fun b => R.of (binD op a b)) ⟨⟩) ⟨⟩ := (rfl)
theorem e_neg (x) : evS g F sc σ (.UnaryOp .USub x p) = BK (F.ev sc σ x) (unaryD .USub) ⟨⟩ := (rfl)
theorem e_not (x) : evS g F sc σ (.UnaryOp .Not x p) = BK (F.ev sc σ x) (unaryD .Not) ⟨⟩ := (rfl)
theorem un_neg (i) : unaryD .USub (.int i) = .ok (.int (-i)) := (rfl)
theorem un_not (d) : unaryD .Not d = (R.of (truthD d)).map fun b => .bool (!b) := (rfl)
theorem e_if (t a b) : evS g F sc σ (.IfExp t a b p) = BK (F.evT sc σ t) (fun c => if c then F.ev sc σ a else F.ev sc σ b) ⟨⟩ := (rfl)
theorem e_cmp (l ops rs) : evS g F sc σ (.Compare l ops rs p) = BK (F.ev sc σ l) (fun a => (chainD F sc σ a ops rs).map .bool) ⟨⟩ := (rfl)
theorem e_list {es : List Expr} (h : (es.any starred || decide (big < es.length)) = false) : evS g F sc σ (.List es p) = (evs F sc σ es).map .list := if_neg (by rw [h]; decide)
theorem e_tuple {es : List Expr} {b : Nat} (h : (es.any starred || decide (big < es.length)) = false) : evS g F sc σ (.Tuple es b p) = (evs F sc σ es).map .tuple := if_neg (by rw [h]; decide)
theorem e_comp {t elt i : Expr} {ifs : List Expr} (h : (isSet i || !compOK sc csc t) = false) : evS g F sc σ (.ListComp elt [⟨t, i, ifs, 0⟩] csc p) =
    BK (F.it sc σ i) (fun l => if l.1 && !isTup t then .bad else if l.2.length ≤ big then ((compL F csc (capt csc σ) t elt ifs l.2).safe).map .list else .bad) ⟨⟩ := by
  obtain ⟨h1, h2⟩ := Bool.or_eq_false_iff.mp h
  show compE F sc csc σ elt t i ifs = _
  unfold compE
  rw [h1, if_neg (by decide), if_pos (by simpa using h2)]; rfl
theorem e_meth {o : Expr} {name : Str} {as : List Expr} (h : (as.any starred || decide (20 < as.length) || superForm o || !(p.endLine == p'.line)) = false) :
    evS g F sc σ (.Call (.Attribute o name p) as [] p') = BK (F.ev sc σ o) (fun ov => BK (R.of (methOf g.pat ov name)) (fun m => BK (argsD F sc σ as []) (fun q => R.of (methD m ov q.1)) ⟨⟩) ⟨⟩) ⟨⟩ := by
  show methE g F sc σ o name p as p' = _
  unfold methE
  rw [h, if_neg (by decide)]; rfl
theorem e_call {x : Str} {as : List Expr} {ks : List Keyword} (h : (isNo (listForm x as ks) && !(as.any starred || decide (20 < as.length))) = true) :
    evS g F sc σ (.Call (.Name x p) as ks p') = BK (nameD g sc σ x) (fun f => BK (argsD F sc σ as ks) (fun q => F.call f q.1 q.2) ⟨⟩) ⟨⟩ := by
  obtain ⟨h1, h2⟩ := Bool.and_eq_true_iff.mp h
  show callE g F sc σ x as ks = _
  unfold callE
  rw [isNo_eq h1]
  dsimp only
  rw [if_neg (by simpa using h2)]; rfl
theorem e_items {o : Expr} (h : (!superForm o && (q.endLine == q'.line)) = true) : evS g F sc σ (.Call (.Name (Str.ofString "list") p) [.Call (.Attribute o (Str.ofString "items") q) [] [] q'] [] p') =
    BK (nameD g sc σ (Str.ofString "list")) (fun f => if f.isTy "list" then BK (F.ev sc σ o) (fun u => BK (R.of u.dict?) (fun l => if l.length ≤ big then .ok (.list (l.map fun p => .tuple [.str p.1, p.2])) else .bad) ⟨⟩) ⟨⟩ else .bad) ⟨⟩ := by
  obtain ⟨h1, h2⟩ := Bool.and_eq_true_iff.mp h
  have : listForm (Str.ofString "list") [.Call (.Attribute o (Str.ofString "items") q) [] [] q'] [] = .items o := by
    show (if _ then (if ([] : List Expr).isEmpty && Str.ofString "items" == "items" && !superForm o && (q.endLine == q'.line) then LF.items o else .no) else .no) = _
    rw [if_pos (by decide +kernel), h2, Bool.and_true, if_pos]
    rw [h1]; decide +kernel
  show callE g F sc σ _ _ _ = _
  unfold callE
  rw [this]; rfl
theorem e_slice (o lo hi st) : evS g F sc σ (.Subscript o (.Slice lo hi st p) p') = BK (F.ev sc σ o) (fun ov => BK (optE F sc σ lo) (fun a => BK (optE F sc σ hi) (fun b => BK (optE F sc σ st) (fun c => R.of (sliceD ov a b c)) ⟨⟩) ⟨⟩) ⟨⟩) ⟨⟩ := (rfl)
theorem e_sub {o i : Expr} (h : (Expr.slice? i).isNone = true) : evS g F sc σ (.Subscript o i p') = BK (F.ev sc σ o) (fun ov => BK (F.ev sc σ i) (fun iv => getD ov iv) ⟨⟩) ⟨⟩ := by
  show subE F sc σ o i = _
  unfold subE
  rw [Option.isNone_iff_eq_none.mp h]; rfl
theorem t_not (x) : evTS F sc σ (.UnaryOp .Not x p) = (F.evT sc σ x).map (!·) := (rfl)
theorem t_bool (op vs) : evTS F sc σ (.BoolOp op vs p) = boolT F sc σ op vs := (rfl)
theorem t_if (t a b) : evTS F sc σ (.IfExp t a b p) = BK (F.evT sc σ t) (fun c => if c then F.evT sc σ a else F.evT sc σ b) ⟨⟩ := (rfl)
theorem t_cmp (l ops rs) : evTS F sc σ (.Compare l ops rs p) = BK (F.ev sc σ l) (fun a => chainD F sc σ a ops rs) ⟨⟩ := (rfl)
theorem t_name (x) : evTS F sc σ (.Name x p) = BK (F.ev sc σ (.Name x p)) (fun a => R.of (truthD a)) ⟨⟩ := (rfl)
theorem t_const (c) : evTS F sc σ (.Constant c k p) = BK (F.ev sc σ (.Constant c k p)) (fun a => R.of (truthD a)) ⟨⟩ := (rfl)
theorem t_call (f as ks) : evTS F sc σ (.Call f as ks p) = BK (F.ev sc σ (.Call f as ks p)) (fun a => R.of (truthD a)) ⟨⟩ := (rfl)
theorem t_bin (a op b) : evTS F sc σ (.BinOp a op b p) = BK (F.ev sc σ (.BinOp a op b p)) (fun a => R.of (truthD a)) ⟨⟩ := (rfl)
theorem t_sub (a b) : evTS F sc σ (.Subscript a b p) = BK (F.ev sc σ (.Subscript a b p)) (fun a => R.of (truthD a)) ⟨⟩ := (rfl)
theorem and_nil : boolT F sc σ .And [] = .ok true := (rfl)
theorem or_nil : boolT F sc σ .Or [] = .ok false := (rfl)
theorem and_cons (e r) : boolT F sc σ .And (e :: r) = BK (F.evT sc σ e) (fun b => if b then boolT F sc σ .And r else .ok false) ⟨⟩ := (rfl)
theorem or_cons (e r) : boolT F sc σ .Or (e :: r) = BK (F.evT sc σ e) (fun b => if b then .ok true else boolT F sc σ .Or r) ⟨⟩ := (rfl)
theorem chain1 {e : Expr} (h : isSet e = false) (a op) : chainD F sc σ a [op] [e] = BK (F.ev sc σ e) (fun b => R.of (cmpD op a b)) ⟨⟩ := if_neg (by rw [h]; decide)
theorem chain2 {e e' : Expr} (h : (isSet e || isSet e') = false) (a op op') : chainD F sc σ a [op, op'] [e, e'] = BK (F.ev sc σ e) (fun b => BK (R.of (cmpD op a b)) (fun c => if c then BK (F.ev sc σ e') (fun b' => R.of (cmpD op' b b')) ⟨⟩ else .ok false) ⟨⟩) ⟨⟩ := if_neg (by rw [h]; decide)
theorem s_nil : exsS F sc τ [] = .ok (τ, .next) := (rfl)
theorem s_cons (s r) : exsS F sc τ (s :: r) = BK (F.ex sc τ s) (fun p => match p.2 with
    | .next => exsS F sc p.1 r
    | f => .ok (p.1, f)) ⟨⟩ := (rfl)
theorem s_ret (e) : exS g F n sc τ (.Return (some e) p) = BK (F.ev sc (fast (freeze (occ 30 e) τ)) e) (fun d => .ok (freeze (occ 30 e) τ, .ret d)) ⟨⟩ := (rfl)
theorem s_if (t a b) : exS g F n sc τ (.If t a b p) = BK (F.evT sc (allV τ) t) (fun c => if c then F.exs sc τ a else F.exs sc τ b) ⟨⟩ := (rfl)
theorem s_while (t b) : exS g F n sc τ (.While t b [] p) = (whileL F sc t b n τ).safe := (rfl)
theorem s_for {t i : Expr} {body : List Stmt} (h : (isSet i || body.any (mk 10)) = false) : exS g F n sc τ (.For t i body [] p) =
    BK (F.it sc (fast (freeze (occ 30 i) τ)) i) (fun l => if l.1 && !isTup t then .bad else if l.2.length ≤ big then forL F sc t body l.2 (freeze (occ 30 i) τ) else .bad) ⟨⟩ := by
  show forS F sc τ t i body = _
  unfold forS
  rw [h, if_neg (by decide)]; rfl
theorem s_cont : exS g F n sc τ (.Continue p) = .ok (τ, .cont) := (rfl)
theorem s_break : exS g F n sc τ (.Break p) = .ok (τ, .brk) := (rfl)
noncomputable def plainE (e : Expr) : Bool := !isNewL e && !isNewD e && !oddComp e
theorem s_set {x : Str} {e : Expr} (h : (storable sc x && plainE e) = true) : exS g F n sc τ (.Assign [.Name x p] e p'') = BK (F.ev sc (fast (freeze (occ 30 e) τ)) e) (fun d => .ok (setS x (.val d) (freeze (occ 30 e) τ), .next)) ⟨⟩ := by
  simp only [plainE, Bool.and_eq_true, Bool.not_eq_true'] at h
  obtain ⟨h0, ⟨h1, h2⟩, h3⟩ := h
  show setN F sc τ x e = _
  unfold setN setNE
  rw [h1, h2, h0, h3]; rfl
theorem s_newl {x : Str} (h : storable sc x = true) : exS g F n sc τ (.Assign [.Name x p] (.List [] p') p'') = .ok (setS x (.ml []) τ, .next) := if_pos h
theorem s_newd {x : Str} (h : storable sc x = true) : exS g F n sc τ (.Assign [.Name x p] (.Dict [] [] p') p'') = .ok (setS x (.md []) τ, .next) := if_pos h
theorem s_unpack {x y : Str} {k0 : Nat} {e : Expr} (h : (storable sc x && storable sc y && !isTup e) = true) : exS g F n sc τ (.Assign [.Tuple [.Name x p, .Name y p'] k0 p''] e q) =
    BK (F.ev sc (fast (freeze (occ 30 e) τ)) e) (fun d => BK (R.of d.list?) (unp2 (freeze (occ 30 e) τ) x y) ⟨⟩) ⟨⟩ := if_pos h
theorem unp_2 (x y a b) : unp2 τ x y [a, b] = .ok (setS y (.val b) (setS x (.val a) τ), .next) := (rfl)
theorem unp_1 (x y a) : unp2 τ x y [a] = .exc (.type "ValueError") "not enough values to unpack (expected 2, got 1)" := (rfl)
theorem s_dstore {x y v : Str} (h : (x == ("__debug__" : Str)) = false) : exS g F n sc τ (.Assign [.Subscript (.Name x p) (.Name y p') p''] (.Name v q) q') =
    BK (R.of ((τ.lookup x).bind B.md?)) (fun l => BK (F.ev sc (fast τ) (.Name v q)) (fun d => BK (F.ev sc (fast τ) (.Name y p')) (fun kd => BK (R.of kd.str?) (fun ks => if l.length ≤ 1000 then .ok (setS x (.md (putIn ks d l)) τ, .next) else .bad) ⟨⟩) ⟨⟩) ⟨⟩) ⟨⟩ := by
  show setI F sc τ x (.Name y p') (.Name v q) = _
  unfold setI
  rw [h]; rfl
theorem s_append {x : Str} {e : Expr} (h : (!starred e && !(x == ("__debug__" : Str)) && (p'.endLine == p''.line)) = true) : exS g F n sc τ (.Expr (.Call (.Attribute (.Name x p) (Str.ofString "append") p') [e] [] p'') q) =
    BK (R.of ((τ.lookup x).bind B.ml?)) (fun l => BK (F.ev sc (fast (freeze ((occ 30 e).filter (· != x)) τ)) e) (fun d => if l.length ≤ big then .ok (setS x (.ml (l ++ [d])) (freeze ((occ 30 e).filter (· != x)) τ), .next) else .bad) ⟨⟩) ⟨⟩ := by
  have : app? (.Call (.Attribute (.Name x p) (Str.ofString "append") p') [e] [] p'') = some (x, e) := by
    show (if Str.ofString "append" == "append" && true && !starred e && x != "__debug__" && (p'.endLine == p''.line) then some (x, e) else none) = _
    refine if_pos ?_
    simp only [Bool.and_eq_true] at h ⊢
    exact ⟨⟨⟨⟨by decide +kernel, trivial⟩, h.1.1⟩, h.1.2⟩, h.2⟩
  show (R.of (app? _)).bind _ = _
  rw [this]; rfl
theorem s_try (b h hs) : exS g F n sc τ (.Try b (h :: hs) [] [] p) = tryR g sc (h :: hs) (F.exs sc τ b) := (rfl)
theorem try_ret (hs d) : tryR g sc hs (.ok (τ, .ret d)) = .ok (τ, .ret d) := (rfl)
theorem try_next (hs) : tryR g sc hs (.ok (τ, .next)) = .ok (τ, .next) := (rfl)
theorem try_exc (hs c m) : tryR g sc hs (.exc c m) = (handleS g sc c m hs).map fun f => ([], f) := (rfl)
theorem s_raise (x m) : exS g F n sc τ (.Raise (some (.Call (.Name x p) [.Constant (.str m) k p'] [] p'')) none q) = raiS g sc x m := (rfl)
theorem raiS_ok {x m : Str} {a : Addr} (h : (x != "__debug__" && sc.names.lookup x == some .globalImplicit && (g.exc a).isSome && decide (m.length ≤ big)) = true) (hg : (g.glob x).bind D.obj? = some a) : raiS g sc x m = .exc (.ref a) m := by
  simp only [Bool.and_eq_true] at h
  unfold raiS
  rw [if_pos (by rw [h.1.1.1, h.1.1.2]; rfl), hg]
  exact if_pos (by rw [h.1.2, h.2]; rfl)
theorem s_assert (t m) : exS g F n sc τ (.Assert t m p) = BK (F.evT sc (allV τ) t) (fun c => if c then .ok (τ, .next) else .bad) ⟨⟩ := (rfl)
theorem h_text {x m s : Str} {c : Value} {rest : List ExceptHandler} (h : (sc.names.lookup x == some .globalImplicit && (g.glob x).isNone && x != "__debug__") = true) (hb : ((g.bi x).bind D.type?).bind (subExc g c) = some true) :
    handleS g sc c m (.ExceptHandler (some (.Name x p)) none [.Return (some (.Constant (.str s) k p')) q] q' :: rest) = .ok (.ret (.str s)) := by
  rw [handleS_c]
  show (if (sc.names.lookup x == some .globalImplicit && (g.glob x).isNone && x != "__debug__") = true then (R.of ((g.bi x).bind D.type?)).bind _ else _) = _
  rw [if_pos h]
  refine bind_some hb fun T h1 h2 => ?_
  rw [h1]
  show (R.of (subExc g c T)).bind _ = _
  rw [h2]; rfl
theorem h_skip {x m : Str} {c : Value} {o : Option Str} {b : Expr} {rest : List ExceptHandler} (h : (sc.names.lookup x == some .globalImplicit && (g.glob x).isNone && x != "__debug__") = true) (hb : ((g.bi x).bind D.type?).bind (subExc g c) = some false) :
    handleS g sc c m (.ExceptHandler (some (.Name x p)) o [.Return (some b) q] q' :: rest) = handleS g sc c m rest := by
  rw [handleS_c]
  show (if (sc.names.lookup x == some .globalImplicit && (g.glob x).isNone && x != "__debug__") = true then (R.of ((g.bi x).bind D.type?)).bind _ else _) = _
  rw [if_pos h]
  refine bind_some hb fun T h1 h2 => ?_
  rw [h1]
  show (R.of (subExc g c T)).bind _ = _
  rw [h2]; rfl
theorem h_name {x m y z o : Str} {c : Value} {rest : List ExceptHandler} (h : (sc.names.lookup x == some .globalImplicit && (g.glob x).isNone && x != "__debug__") = true) (hb : ((g.bi x).bind D.type?).bind (subExc g c) = some true) (ho : (isRefV c && asOK g sc y z o) = true) :
    handleS g sc c m (.ExceptHandler (some (.Name x p)) (some o) [.Return (some (.Call (.Name y p') [.Name z p''] [] q)) q'] q :: rest) = .ok (.ret (.str m)) := by
  rw [handleS_c]
  show (if (sc.names.lookup x == some .globalImplicit && (g.glob x).isNone && x != "__debug__") = true then (R.of ((g.bi x).bind D.type?)).bind _ else _) = _
  rw [if_pos h]
  refine bind_some hb fun T h1 h2 => ?_
  rw [h1]
  show (R.of (subExc g c T)).bind _ = _
  rw [h2]
  exact if_pos ho
theorem i_name (x) : itS g F sc σ (.Name x p) = BK (F.ev sc σ (.Name x p)) (fun v => (R.of (itemsD v)).map fun l => (false, l)) ⟨⟩ := (rfl)
theorem i_tuple (l b) : itS g F sc σ (.Tuple l b p) = BK (F.ev sc σ (.Tuple l b p)) (fun v => (R.of (itemsD v)).map fun l => (false, l)) ⟨⟩ := (rfl)
theorem i_bin (a op b) : itS g F sc σ (.BinOp a op b p) = BK (F.ev sc σ (.BinOp a op b p)) (fun v => (R.of (itemsD v)).map fun l => (false, l)) ⟨⟩ := (rfl)
theorem i_sub (a b) : itS g F sc σ (.Subscript a b p) = BK (F.ev sc σ (.Subscript a b p)) (fun v => (R.of (itemsD v)).map fun l => (false, l)) ⟨⟩ := (rfl)
theorem i_comp (elt gs) : itS g F sc σ (.ListComp elt gs csc p) = BK (F.ev sc σ (.ListComp elt gs csc p)) (fun v => (R.of (itemsD v)).map fun l => (false, l)) ⟨⟩ := (rfl)
theorem i_range {as : List Expr} (h : as.any starred = false) : itS g F sc σ (.Call (.Name (Str.ofString "range") p) as [] p') =
    BK (nameD g sc σ (Str.ofString "range")) (fun f => if f.isTy "range" then BK (evs F sc σ as) (fun vs => (R.of (rangeD vs)).map fun l => (false, l)) ⟨⟩ else .bad) ⟨⟩ := by
  show callI g F sc σ _ as _ = _
  unfold callI
  rw [h, if_neg (by decide), if_pos (by decide +kernel)]; rfl
theorem i_zip {as : List Expr} (h : as.any starred = false) : itS g F sc σ (.Call (.Name (Str.ofString "zip") p) as [] p') =
    BK (nameD g sc σ (Str.ofString "zip")) (fun f => if f.isTy "zip" then BK (evs F sc σ as) (fun vs => R.of (zipD vs)) ⟨⟩ else .bad) ⟨⟩ := by
  show callI g F sc σ _ as _ = _
  unfold callI
  rw [h, if_neg (by decide), if_neg (by decide +kernel), if_pos (by decide +kernel)]; rfl
theorem zipI2 (a b) : zipD [.list a, .list b] = some (true, zip2 a b) := (rfl)
theorem zipI3 (a b c) : zipD [.list a, .list b, .list c] = if a.length = b.length ∧ b.length = c.length then some (true, zip3 a b c) else none := (rfl)
theorem ll_2 (a b) : listL [.list a, .list b] = some [a, b] := (rfl)
theorem rg_1 (m : Int) : rangeD [.int m] = if m.natAbs ≤ 4096 then some (upTo 0 m.toNat) else none := (rfl)
theorem upTo_s (lo : Int) (n : Nat) : upTo lo (n + 1) = .int lo :: upTo (lo + 1) n := (rfl)
theorem it_list (l) : itemsD (.list l) = some l := (rfl)
theorem it_tuple (l) : itemsD (.tuple l) = some l := (rfl)
theorem it_bytes (b) : itemsD (.bytes b) = some (b.toList.map fun x => .int x.toNat) := (rfl)
noncomputable def nameL (g : G) (sc : Scope) (x : Str) : Option D → R D
  | some d => .ok d
  | none => if sc.names.lookup x == some .globalImplicit then (match g.glob x with | some d => .ok d | none => R.of (g.bi x)) else .bad
noncomputable def globD (g : G) (x : Str) : R D := match g.glob x with | some d => .ok d | none => R.of (g.bi x)
theorem nameD_ok {x : Str} (h : (x == ("__debug__" : Str)) = false) : nameD g sc σ x = nameL g sc x (List.lookup x σ) := by
  unfold nameD
  rw [h, if_neg (by decide)]
  cases List.lookup x σ <;> rfl
theorem nl_some (x : Str) (d : D) : nameL g sc x (some d) = .ok d := (rfl)
theorem nl_none {x : Str} (h : (sc.names.lookup x == some .globalImplicit) = true) : nameL g sc x none = globD g x := if_pos h
theorem lk_hd {β : Type} (a : Str) (b : β) (es : List (Str × β)) : List.lookup a ((a, b) :: es) = some b := by rw [List.lookup_cons, beq_self_eq_true]
theorem lk_1 {β : Type} {a k : Str} (h : (a == k) = false) (b : β) (es : List (Str × β)) : List.lookup a ((k, b) :: es) = List.lookup a es := by rw [List.lookup_cons, h]
theorem ss_nil (a : Str) (b : B) : setS a b [] = [(a, b)] := (rfl)
theorem ss_hd (a : Str) (b c : B) (r : Sg) : setS a b ((a, c) :: r) = (a, b) :: r := if_pos rfl
theorem ss_1 {a k : Str} (h : (a == k) = false) (b c : B) (r : Sg) : setS a b ((k, c) :: r) = (k, c) :: setS a b r := if_neg (by simpa using h)
theorem fast_val (x d r) : fast ((x, .val d) :: r) = (x, d) :: fast r := (rfl)
theorem fast_ml (x d r) : fast ((x, .ml d) :: r) = fast r := (rfl)
theorem fast_md (x d r) : fast ((x, .md d) :: r) = fast r := (rfl)
theorem fast_nil : fast [] = [] := (rfl)
theorem allV_val (x d r) : allV ((x, .val d) :: r) = (x, d) :: allV r := (rfl)
theorem allV_ml (x d r) : allV ((x, .ml d) :: r) = (x, .list d) :: allV r := (rfl)
theorem allV_md (x d r) : allV ((x, .md d) :: r) = allV r := (rfl)
theorem allV_nil : allV [] = [] := (rfl)
theorem fz_nil (l) : freeze l [] = [] := (rfl)
theorem fz_val (l x d r) : freeze l ((x, .val d) :: r) = (x, .val d) :: freeze l r := (rfl)
theorem fz_ml (l x d r) : freeze l ((x, .ml d) :: r) = (x, if l.contains x then .val (.list d) else .ml d) :: freeze l r := (rfl)
theorem fz_md (l x d r) : freeze l ((x, .md d) :: r) = (x, if l.contains x then .val (.dict d) else .md d) :: freeze l r := (rfl)
theorem cp_nil : capt sc [] = [] := (rfl)
theorem cp_t {x : Str} (h : (sc.names.lookup x == some .free) = true) (d : D) (r : Vs) : capt sc ((x, d) :: r) = (x, d) :: capt sc r := by
  unfold capt; rw [List.filter_cons, if_pos h]
theorem cp_f {x : Str} (h : (sc.names.lookup x == some .free) = false) (d : D) (r : Vs) : capt sc ((x, d) :: r) = capt sc r := by
  unfold capt; rw [List.filter_cons, if_neg (by rw [h]; decide)]
theorem bs_name {x : Str} (h : storable sc x = true) (d) : bindS sc (.Name x p) d τ = .ok (setS x (.val d) τ) := if_pos h
theorem bs_tup2 {x y : Str} {b : Nat} (h : (storable sc x && storable sc y) = true) (u v) : bindS sc (.Tuple [.Name x p, .Name y p'] b p'') (.tuple [u, v]) τ = .ok (setS y (.val v) (setS x (.val u) τ)) := by
  obtain ⟨h1, h2⟩ := Bool.and_eq_true_iff.mp h
  show (R.of (namesL sc [.Name x p, .Name y p'])).bind _ = _
  have : namesL sc [.Name x p, .Name y p'] = some [x, y] := by
    show (if storable sc x = true then (if storable sc y = true then some [y] else none).map (x :: ·) else none) = _
    rw [if_pos h1, if_pos h2]; rfl
  rw [this]; rfl
theorem bs_tup3 {x y z : Str} {b : Nat} (h : (storable sc x && storable sc y && storable sc z) = true) (u v w) : bindS sc (.Tuple [.Name x p, .Name y p', .Name z q] b p'') (.tuple [u, v, w]) τ = .ok (setS z (.val w) (setS y (.val v) (setS x (.val u) τ))) := by
  simp only [Bool.and_eq_true] at h
  obtain ⟨⟨h1, h2⟩, h3⟩ := h
  show (R.of (namesL sc [.Name x p, .Name y p', .Name z q])).bind _ = _
  have : namesL sc [.Name x p, .Name y p', .Name z q] = some [x, y, z] := by
    show (if storable sc x = true then (if storable sc y = true then (if storable sc z = true then some [z] else none).map (y :: ·) else none).map (x :: ·) else none) = _
    rw [if_pos h1, if_pos h2, if_pos h3]; rfl
  rw [this]; rfl
theorem bt_name (x d) : bindT (.Name x p) d σ = .ok ((x, d) :: σ) := (rfl)
theorem bt_pair (x y b a c) : bindT (.Tuple [.Name x p, .Name y p'] b p'') (.tuple [a, c]) σ = .ok ((y, c) :: (x, a) :: σ) := (rfl)
theorem optE_none : optE F sc σ none = .ok none := (rfl)
theorem optE_s (e) : optE F sc σ (some e) = (F.ev sc σ e).map some := (rfl)
theorem testAll_nil : testAll F sc σ [] = .ok true := (rfl)
theorem testAll_cons (e r) : testAll F sc σ (e :: r) = BK (F.evT sc σ e) (fun b => if b then testAll F sc σ r else .ok false) ⟨⟩ := (rfl)
theorem argsD_no (as) : argsD F sc σ as [] = (mapR (F.ev sc σ) as).map fun a => (a, []) := by
  show (mapR (F.ev sc σ) as).bind _ = _
  cases mapR (F.ev sc σ) as <;> rfl
theorem argsD_kw (as x v) : argsD F sc σ as [⟨some x, v, p⟩] = BK (mapR (F.ev sc σ) as) (fun a => BK (F.ev sc σ v) (fun b => .ok (a, [(x, b)])) ⟨⟩) ⟨⟩ := by
  show (R.bind (mapR (F.ev sc σ) as) fun avs => R.map _ (R.bind (R.map _ (F.ev sc σ v)) fun y => R.map _ (.ok []))) = R.bind _ _
  congr; funext a
  show _ = R.bind _ _
  cases F.ev sc σ v <;> rfl
theorem mapR_nil {α β : Type} (f : α → R β) : mapR f [] = .ok [] := (rfl)
theorem mapR_cons {α β : Type} (f : α → R β) (x r) : mapR f (x :: r) = BK (f x) (fun y => (mapR f r).map (y :: ·)) ⟨⟩ := (rfl)
theorem evs_eq (es) : evs F sc σ es = mapR (F.ev sc σ) es := (rfl)
theorem call_bi (id as) : (fns g (n+1)).call (.bi id) as [] = R.of (biD id as) := (rfl)
theorem call_type (id as) : (fns g (n+1)).call (.type id) as [] = R.of (tyD id as) := (rfl)
theorem isTy_eq (a b : String) : D.isTy (.type a) b = (a == b) := (rfl)
theorem lt_d (a b : Int) : cmpD .Lt (.int a) (.int b) = some (decide (a < b)) := (rfl)
theorem le_d (a b : Int) : cmpD .LtE (.int a) (.int b) = some (decide (a ≤ b)) := (rfl)
theorem gt_d (a b : Int) : cmpD .Gt (.int a) (.int b) = some (decide (b < a)) := (rfl)
theorem ge_d (a b : Int) : cmpD .GtE (.int a) (.int b) = some (decide (b ≤ a)) := (rfl)
theorem eq_i (a b : Int) : cmpD .Eq (.int a) (.int b) = some (a == b) := (rfl)
theorem ne_i (a b : Int) : cmpD .NotEq (.int a) (.int b) = some (!(a == b)) := (rfl)
theorem eq_s (a b : Str) : cmpD .Eq (.str a) (.str b) = some (a == b) := (rfl)
theorem ne_s (a b : Str) : cmpD .NotEq (.str a) (.str b) = some (!(a == b)) := (rfl)
theorem is_tt (a b : String) : cmpD .Is (.type a) (.type b) = some (a == b) := (rfl)
theorem isnot_tt (a b : String) : cmpD .IsNot (.type a) (.type b) = some (!(a == b)) := (rfl)
theorem is_nn : cmpD .Is .none .none = some true := (rfl)
theorem isnot_nn : cmpD .IsNot .none .none = some false := (rfl)
theorem isnot_bn (b) : cmpD .IsNot (.bytes b) .none = some true := (rfl)
theorem is_in (b) : cmpD .Is (.int b) .none = some false := (rfl)
theorem is_bn (b) : cmpD .Is (.bool b) .none = some false := (rfl)
theorem is_oo (a b : Addr) : cmpD .Is (.obj a) (.obj b) = if a = b then some true else none := (rfl)
theorem add_i (a b : Int) : binD .Add (.int a) (.int b) = some (.int (a + b)) := (rfl)
theorem sub_i (a b : Int) : binD .Sub (.int a) (.int b) = some (.int (a - b)) := (rfl)
theorem or_i (a b : Int) : binD .BitOr (.int a) (.int b) = some (.int (Builtin.bitOr a b)) := (rfl)
theorem and_i (a b : Int) : binD .BitAnd (.int a) (.int b) = some (.int (Builtin.bitAnd a b)) := (rfl)
theorem mul_i (a b : Int) : binD .Mult (.int a) (.int b) = if b.natAbs < 2 ^ 64 then if a.natAbs < 2 ^ 64 then some (.int (a * b)) else none else none := (rfl)
theorem fdiv_i (a b : Int) : binD .FloorDiv (.int a) (.int b) = (intOp .FloorDiv a b).map .int := (rfl)
theorem mod_i (a b : Int) : binD .Mod (.int a) (.int b) = (intOp .Mod a b).map .int := (rfl)
theorem pow_i (a b : Int) : binD .Pow (.int a) (.int b) = (intOp .Pow a b).map .int := (rfl)
theorem shl_i (a b : Int) : binD .LShift (.int a) (.int b) = (intOp .LShift a b).map .int := (rfl)
theorem shr_i (a b : Int) : binD .RShift (.int a) (.int b) = (intOp .RShift a b).map .int := (rfl)
theorem io_fdiv (a b : Int) : intOp .FloorDiv a b = if b ≠ 0 then if b.natAbs < 2 ^ 64 then some (a.fdiv b) else none else none := (rfl)
theorem io_mod (a b : Int) : intOp .Mod a b = if b = 0 then none else some (a.fmod b) := (rfl)
theorem io_pow (a b : Int) : intOp .Pow a b = if 0 ≤ b then if b ≤ 4096 then if a.natAbs < 65536 then some (a ^ b.toNat) else none else none else none := (rfl)
theorem io_shl (a b : Int) : intOp .LShift a b = if 0 ≤ b then if b ≤ 1000000 then if a.natAbs < 2 ^ 64 then some (a * 2 ^ b.toNat) else none else none else none := (rfl)
theorem io_shr (a b : Int) : intOp .RShift a b = if 0 ≤ b then some (a.fdiv (2 ^ b.toNat)) else none := (rfl)
theorem add_s (a b : Str) : binD .Add (.str a) (.str b) = if a.length + b.length ≤ big then some (.str (a ++ b)) else none := (rfl)
theorem truth_b (b) : truthD (.bool b) = some b := (rfl)
theorem truth_i (b) : truthD (.int b) = some (b != 0) := (rfl)
theorem truth_n : truthD .none = some false := (rfl)
theorem truth_h : truthD .hit = some true := (rfl)
theorem c_none : constD .none = .ok .none := (rfl)
theorem c_bool (b) : constD (.bool b) = .ok (.bool b) := (rfl)
theorem c_int (b) : constD (.int b) = .ok (.int b) := (rfl)
theorem c_str (b) : constD (.str b) = .ok (.str b) := (rfl)
theorem c_bytes (b) : constD (.bytes b) = .ok (.bytes b.toArray) := (rfl)
theorem ty_b (b) : typeD (.bool b) = some (.type "bool") := (rfl)
theorem ty_i (b) : typeD (.int b) = some (.type "int") := (rfl)
theorem ty_s (b) : typeD (.str b) = some (.type "str") := (rfl)
theorem ty_y (b) : typeD (.bytes b) = some (.type "bytes") := (rfl)
theorem tyD_type (x) : tyD "type" [x] = typeD x := (rfl)
theorem tyD_bytes (l) : tyD "bytes" [.list l] = (intL l).bind fun xs => (toBytes? xs).bind fun b => if b.length ≤ big then some (.bytes b.toArray) else none := by kernel_rfl!
theorem mo_str (pat s name) : methOf pat (.str s) name = if name = "split" then some .split else if name = "join" then some .join else if name = "encode" then some .encode else if name = "isascii" then some .isascii else none := (rfl)
theorem mo_bytes (pat s name) : methOf pat (.bytes s) name = if name = "hex" then some .hex else if name = "upper" then some .upper else if name = "translate" then some .translate else none := (rfl)
theorem mo_type (pat x name) : methOf pat (.type x) name = if x = "bytes" ∧ name = "maketrans" then some .maketrans else none := (rfl)
theorem mo_obj (pat a name) : methOf pat (.obj a) name = if a = pat ∧ name = "search" then some .search else none := (rfl)
theorem md_split (s t i) : methD .split (.str s) [.str t, .int i] = if i = 1 ∧ t.length = 1 ∧ t.cps.getD 0 0 < 256 then if s.length ≤ big then
      (match split1 (t.cps.getD 0 0) s.cps.toList with
        | some (a, b) => some (.list [.str ⟨a.toArray⟩, .str ⟨b.toArray⟩])
        | none => some (.list [.str s])) else none else none := (rfl)
theorem md_join (s l) : methD .join (.str s) [.list l] = (strL l).bind fun xs => if s.length = 0 then if (catS xs).length ≤ big then some (.str ⟨(catS xs).toArray⟩) else none else none := (rfl)
theorem md_encode (s t) : methD .encode (.str s) [.str t] = if t = "ascii" then if s.cps.all (· < 128) = true ∧ s.length ≤ big then some (.bytes (s.cps.map (·.toUInt8))) else none else none := (rfl)
theorem md_isascii (s) : methD .isascii (.str s) [] = some (.bool (s.cps.all (· < 128))) := (rfl)
theorem md_hex (b) : methD .hex (.bytes b) [] = if b.size ≤ big then some (.str ⟨(hexNs b.toList).toArray⟩) else none := (rfl)
theorem md_upper (b) : methD .upper (.bytes b) [] = if b.size ≤ big then some (.bytes (b.map upByte)) else none := (rfl)
theorem md_translate (b t) : methD .translate (.bytes b) [.bytes t] = if t.size = 256 ∧ b.size ≤ big then some (.bytes (b.map fun x => t.getD x.toNat x)) else none := (rfl)
theorem md_search (a s) : methD .search (.obj a) [.bytes s] = if s.size ≤ big then some (if s.all isHexB then .none else .hit) else none := (rfl)
theorem len_s (l) : lenD (.str l) = if l.length ≤ big then some (.int l.length) else none := (rfl)
theorem lb_list (l) : biD "len" [.list l] = if l.length ≤ big then some (.int l.length) else none := (rfl)
theorem lb_bytes (s) : biD "len" [.bytes s] = if s.size ≤ big then some (.int s.size) else none := (rfl)
theorem sb_list (l) : biD "sum" [.list l] = (intL l).map fun xs => .int xs.sum := by kernel_rfl!
theorem cb_int (i) : biD "chr" [.int i] = if 0 ≤ i ∧ i < 1114112 then some (.str ⟨#[i.toNat]⟩) else none := by kernel_rfl!
theorem ib_str (s) : biD "isinstance" [.str s, .type "str"] = some (.bool true) := by kernel_rfl!
theorem ib_bytes (s) : biD "isinstance" [.bytes s, .type "str"] = some (.bool false) := by kernel_rfl!
theorem ib_bytes' (s) : biD "isinstance" [.bytes s, .tys ["bytes", "bytearray"]] = some (.bool true) := by kernel_rfl!
theorem big_eq : big = 1048576 := (rfl)
theorem nab_neg (i : Int) : Int.natAbs (-i) = Int.natAbs i := Int.natAbs_neg i
theorem wh_succ (t b) : whileL F sc t b (n + 1) τ = BK (F.evT sc (allV τ) t) (fun c => if c then BK (F.exs sc τ b) (fun q => match q.2 with
    | .next => whileL F sc t b n q.1
    | .cont => whileL F sc t b n q.1
    | .brk => .ok (q.1, .next)
    | .ret d => .ok (q.1, .ret d)) ⟨⟩ else .ok (τ, .next)) ⟨⟩ := (rfl)
theorem forL_nil (t b) : forL F sc t b [] τ = .ok (τ, .next) := (rfl)
theorem forL_cons (t b d r) : forL F sc t b (d :: r) τ = BK (bindS sc t d τ) (fun σ' => BK (F.exs sc σ' b) (fun p => match p.2 with
    | .next => forL F sc t b r p.1
    | .cont => forL F sc t b r p.1
    | .brk => .ok (p.1, .next)
    | .ret d => .ok (p.1, .ret d)) ⟨⟩) ⟨⟩ := (rfl)
theorem compL_cons (t elt ifs d r) : compL F sc σ t elt ifs (d :: r) = BK (bindT t d σ) (fun σ' => BK (testAll F sc σ' ifs) (fun b => 
      if b then BK (F.ev sc σ' elt) (fun v => (compL F sc σ t elt ifs r).map (v :: ·)) ⟨⟩ else compL F sc σ t elt ifs r) ⟨⟩) ⟨⟩ := (rfl)
theorem forL_run {α β : Type} {t : Expr} {body : List Stmt} (st : α → Sg) (item : β → D) (step : α → β → α) (I : List β → α → Prop) : ∀ (l : List β) (a : α) {σ₀ : Sg}, σ₀ = st a → I l a →
    (∀ a b r, I (b :: r) a → I r (step a b) ∧ (BK (bindS sc t (item b) (st a)) (fun σ' => F.exs sc σ' body) ⟨⟩ = .ok (st (step a b), .next) ∨ BK (bindS sc t (item b) (st a)) (fun σ' => F.exs sc σ' body) ⟨⟩ = .ok (st (step a b), .cont))) →
    forL F sc t body (l.map item) σ₀ = .ok (st (l.foldl step a), .next)
  | [], a, _, e, i, _ => by rw [e]; rfl
  | b :: r, a, _, e0, i, h => by
    obtain ⟨i', e⟩ := h a b r i
    have ih := forL_run st item step I r _ rfl i' h
    rw [e0, List.map_cons, forL_cons]
    cases e1 : bindS sc t (item b) (st a) with
    | ok σ' =>
      rw [e1] at e
      rw [bk_ok] at e ⊢
      rcases e with e | e <;> (rw [e, bk_ok]; exact ih)
    | exc c m => rw [e1] at e; rcases e with e | e <;> cases e
    | bad => rw [e1] at e; rcases e with e | e <;> cases e
theorem call_obj {a : Addr} {f : Fn} {args : List D} {kws bs : Vs} (hf : g.fn a = some f) (hb : f.bind args kws = some bs) :
    (fns g (n+1)).call (.obj a) args kws = BK ((fns g n).exs f.scope (bs.foldl (fun s p => setS p.1 (.val p.2) s) []) f.body) (fun r => retD r.2) ⟨⟩ := by
  show (R.of (g.fn a)).bind _ = _
  rw [hf]
  show (R.of (f.bind args kws)).bind _ = _
  rw [hb]; rfl
theorem ret_d (d) : retD (.ret d) = .ok d := (rfl)
theorem ret_n : retD .next = .ok .none := (rfl)
end
end Mine
end
section
namespace Mine
theorem upTo_range' : ∀ (k lo : Nat), upTo lo k = (List.range' lo k).map fun p : Nat => D.int p
  | 0, _ => rfl
  | k + 1, lo => by
    rw [upTo_s, List.range'_succ, List.map_cons, show ((lo : Int) + 1) = ((lo + 1 : Nat) : Int) from rfl, upTo_range' k (lo + 1)]
theorem upTo_map (k : Nat) : upTo 0 k = (List.range k).map fun p : Nat => D.int p := by
  rw [List.range_eq_range']; exact upTo_range' k 0
section
variable {F : Fns} {sc : Scope} {σ : Vs} {p p' p'' : Pos}
theorem compL_gen {β : Type} {t elt : Expr} {ifs : List Expr} (item : β → D) (ext : β → Vs) (q : β → Bool) (f : β → D) : ∀ (l : List β),
    (∀ b ∈ l, bindT t (item b) σ = .ok (ext b)) → (∀ b ∈ l, testAll F sc (ext b) ifs = .ok (q b)) → (∀ b ∈ l, q b = true → F.ev sc (ext b) elt = .ok (f b)) →
    compL F sc σ t elt ifs (l.map item) = .ok ((l.filter q).map f)
  | [], _, _, _ => rfl
  | b :: r, h1, h2, h3 => by
    have ih := compL_gen item ext q f r (fun x m => h1 x (List.mem_cons_of_mem _ m)) (fun x m => h2 x (List.mem_cons_of_mem _ m)) (fun x m => h3 x (List.mem_cons_of_mem _ m))
    rw [List.map_cons, compL_cons, h1 b (List.mem_cons_self ..), bk_ok, h2 b (List.mem_cons_self ..), bk_ok, ih]
    cases e : q b with
    | true => rw [if_pos rfl, h3 b (List.mem_cons_self ..) e, bk_ok, rm_ok, List.filter_cons_of_pos e, List.map_cons]
    | false => rw [if_neg (by decide), List.filter_cons_of_neg (by rw [e]; decide)]
theorem compL_map {β : Type} {x : Str} {elt : Expr} (item : β → D) (f : β → D) (l : List β) (h : ∀ b ∈ l, F.ev sc ((x, item b) :: σ) elt = .ok (f b)) :
    compL F sc σ (.Name x p) elt [] (l.map item) = .ok (l.map f) := by
  rw [compL_gen item (fun b => (x, item b) :: σ) (fun _ => true) f l (fun _ _ => rfl) (fun _ _ => rfl) (fun b m _ => h b m), List.filter_eq_self.mpr (fun _ _ => rfl)]
theorem compL_map2 {β : Type} {x y : Str} {elt : Expr} {k : Nat} (u v : β → D) (f : β → D) (l : List β) (h : ∀ b ∈ l, F.ev sc ((y, v b) :: (x, u b) :: σ) elt = .ok (f b)) :
    compL F sc σ (.Tuple [.Name x p, .Name y p'] k p'') elt [] (l.map fun b => .tuple [u b, v b]) = .ok (l.map f) := by
  rw [compL_gen (fun b => .tuple [u b, v b]) (fun b => (y, v b) :: (x, u b) :: σ) (fun _ => true) f l (fun _ _ => rfl) (fun _ _ => rfl) (fun b m _ => h b m), List.filter_eq_self.mpr (fun _ _ => rfl)]
theorem compL_fil {β : Type} {x : Str} {elt e : Expr} (item : β → D) (q : β → Bool) (f : β → D) (l : List β) (h1 : ∀ b ∈ l, F.evT sc ((x, item b) :: σ) e = .ok (q b)) (h : ∀ b ∈ l, q b = true → F.ev sc ((x, item b) :: σ) elt = .ok (f b)) :
    compL F sc σ (.Name x p) elt [e] (l.map item) = .ok ((l.filter q).map f) := by
  rw [compL_gen item (fun b => (x, item b) :: σ) q f l (fun _ _ => rfl) (fun b m => by rw [testAll_cons, h1 b m, bk_ok]; cases q b <;> rfl) h]
theorem forL_stop {α β : Type} {t : Expr} {body : List Stmt} (st : α → Sg) (item : β → D) (step : α → β → α) (I : List β → α → Prop) (z : β) (tail : List D) {c : Value} {m : Str} : ∀ (l : List β) (a : α) {σ₀ : Sg}, σ₀ = st a → I (l ++ [z]) a →
    (∀ a b r, I (b :: r) a → r ≠ [] → I r (step a b) ∧ BK (bindS sc t (item b) (st a)) (fun σ' => F.exs sc σ' body) ⟨⟩ = .ok (st (step a b), .next)) →
    (∀ a, I [z] a → BK (bindS sc t (item z) (st a)) (fun σ' => F.exs sc σ' body) ⟨⟩ = .exc c m) →
    forL F sc t body (l.map item ++ item z :: tail) σ₀ = .exc c m
  | [], a, _, e, i, _, hz => by
    rw [e, List.map_nil, List.nil_append, forL_cons]
    have hz := hz a i
    cases e1 : bindS sc t (item z) (st a) with
    | ok σ' => rw [e1, bk_ok] at hz; rw [bk_ok, hz, bk_exc]
    | exc c m => rw [e1, bk_exc] at hz; rw [bk_exc]; cases hz; rfl
    | bad => rw [e1, bk_bad] at hz; cases hz
  | b :: r, a, _, e0, i, h, hz => by
    obtain ⟨i', e⟩ := h a b (r ++ [z]) i (by simp)
    have ih := forL_stop st item step I z tail r _ rfl i' h hz
    rw [e0, List.map_cons, List.cons_append, forL_cons]
    cases e1 : bindS sc t (item b) (st a) with
    | ok σ' =>
      rw [e1] at e
      rw [bk_ok] at e ⊢
      rw [e, bk_ok]; exact ih
    | exc c m => rw [e1] at e; cases e
    | bad => rw [e1] at e; cases e
theorem nabL (k : Nat) : Int.natAbs (no_index (@OfNat.ofNat Int k _)) = k := (rfl)
theorem nat_toNat (a : Nat) : (a : Int).toNat = a := (rfl)
theorem chr_u8 (x : UInt8) : biD "chr" [.int (x.toNat : Int)] = some (.str ⟨#[x.toNat]⟩) := by
  have := x.toNat_lt
  rw [cb_int, if_pos ⟨by omega, by omega⟩, nat_toNat]
theorem fmod_nat' (a b : Nat) : Int.fmod (a : Int) (b : Int) = ((a % b : Nat) : Int) := by
  rw [Int.fmod_eq_emod_of_nonneg _ (by omega)]; rfl
theorem fdiv_nat' (a b : Nat) : Int.fdiv (a : Int) (b : Int) = ((a / b : Nat) : Int) := by
  rw [Int.fdiv_eq_ediv_of_nonneg _ (by omega)]; rfl
theorem fmod_lit (a k : Nat) : Int.fmod (a : Int) (no_index (@OfNat.ofNat Int k _)) = ((a % k : Nat) : Int) := by
  exact fmod_nat' a k
theorem fdiv_lit (a k : Nat) : Int.fdiv (a : Int) (no_index (@OfNat.ofNat Int k _)) = ((a / k : Nat) : Int) := by
  exact fdiv_nat' a k
theorem mul_lit (a k : Nat) : (a : Int) * (no_index (@OfNat.ofNat Int k _)) = ((a * k : Nat) : Int) := (Int.natCast_mul a k).symm
theorem lit_mul (a k : Nat) : (no_index (@OfNat.ofNat Int k _)) * (a : Int) = ((k * a : Nat) : Int) := (Int.natCast_mul k a).symm
theorem add_lit (a k : Nat) : (a : Int) + (no_index (@OfNat.ofNat Int k _)) = ((a + k : Nat) : Int) := (rfl)
theorem lit_add (a k : Nat) : (no_index (@OfNat.ofNat Int k _)) + (a : Int) = ((k + a : Nat) : Int) := (rfl)
theorem nat_add (a k : Nat) : (a : Int) + (k : Int) = ((a + k : Nat) : Int) := (rfl)
theorem nat_mul (a k : Nat) : (a : Int) * (k : Int) = ((a * k : Nat) : Int) := (Int.natCast_mul a k).symm
theorem nat_nab (a : Nat) : (a : Int).natAbs = a := (rfl)
theorem nat_le (a b : Nat) : ((a : Int) ≤ (b : Int)) = (a ≤ b) := propext Int.ofNat_le
theorem nat_lt (a b : Nat) : ((a : Int) < (b : Int)) = (a < b) := propext Int.ofNat_lt
theorem nat_beq (a b : Nat) : ((a : Int) == (b : Int)) = (a == b) := by
  rw [Bool.eq_iff_iff, beq_iff_eq, beq_iff_eq]; exact Int.ofNat_inj
theorem nat_le_lit (a k : Nat) : ((a : Int) ≤ (no_index (@OfNat.ofNat Int k _))) = (a ≤ k) := propext Int.ofNat_le
theorem lit_le_nat (a k : Nat) : ((no_index (@OfNat.ofNat Int k _)) ≤ (a : Int)) = (k ≤ a) := propext Int.ofNat_le
end
end Mine
end
section
namespace Mine
noncomputable def l1 : List (Addr × String) := [(174, "_law_figures"), (179, "_law_octets"), (184, "_law_text"), (189, "_law_name"), (194, "_law_peeled"), (201, "_law_read"), (208, "_law_told"), (215, "_law_list"), (220, "_law_last"), (225, "_law_letters"), (230, "law")]
noncomputable def g1 : G := mkG PySem.Challenge.pw_qh0090_01 l1
noncomputable def f1 (a : Addr) : Fn := (g1.fn a).getD ⟨[], [], [], [], default⟩
end Mine
end
section
namespace Mine
set_option linter.defProp false
theorem gd0 : globD g1 (Str.ofString "_wall") = .ok (.obj 38) := by kernel_rfl!
theorem gd1 : globD g1 (Str.ofString "parse_keqv_list") = .ok (.obj 45) := by kernel_rfl!
theorem gd2 : globD g1 (Str.ofString "_twin_re_1") = .ok (.obj 50) := by kernel_rfl!
theorem gd3 : globD g1 (Str.ofString "_bytes_from_decode_data") = .ok (.obj 58) := by kernel_rfl!
theorem gd4 : globD g1 (Str.ofString "Error") = .ok (.obj 68) := by kernel_rfl!
theorem gd5 : globD g1 (Str.ofString "_ascii_buffer") = .ok (.obj 78) := by kernel_rfl!
theorem gd6 : globD g1 (Str.ofString "_buffer") = .ok (.obj 85) := by kernel_rfl!
theorem gd7 : globD g1 (Str.ofString "_truth") = .ok (.obj 92) := by kernel_rfl!
theorem gd8 : globD g1 (Str.ofString "_b64_value") = .ok (.obj 99) := by kernel_rfl!
theorem gd9 : globD g1 (Str.ofString "a2b_base64") = .ok (.obj 107) := by kernel_rfl!
theorem gd10 : globD g1 (Str.ofString "b2a_base64") = .ok (.obj 115) := by kernel_rfl!
theorem gd11 : globD g1 (Str.ofString "_NO_SEP") = .ok (.obj 116) := by kernel_rfl!
theorem gd12 : globD g1 (Str.ofString "b2a_hex") = .ok (.obj 124) := by kernel_rfl!
theorem gd13 : globD g1 (Str.ofString "hexlify") = .ok (.obj 124) := by kernel_rfl!
theorem gd14 : globD g1 (Str.ofString "_hex_value") = .ok (.obj 131) := by kernel_rfl!
theorem gd15 : globD g1 (Str.ofString "a2b_hex") = .ok (.obj 138) := by kernel_rfl!
theorem gd16 : globD g1 (Str.ofString "unhexlify") = .ok (.obj 138) := by kernel_rfl!
theorem gd17 : globD g1 (Str.ofString "b64encode") = .ok (.obj 146) := by kernel_rfl!
theorem gd18 : globD g1 (Str.ofString "b64decode") = .ok (.obj 154) := by kernel_rfl!
theorem gd19 : globD g1 (Str.ofString "b16encode") = .ok (.obj 161) := by kernel_rfl!
theorem gd20 : globD g1 (Str.ofString "b16decode") = .ok (.obj 169) := by kernel_rfl!
theorem gd21 : globD g1 (Str.ofString "_law_figures") = .ok (.obj 174) := by kernel_rfl!
theorem gd22 : globD g1 (Str.ofString "_law_octets") = .ok (.obj 179) := by kernel_rfl!
theorem gd23 : globD g1 (Str.ofString "_law_text") = .ok (.obj 184) := by kernel_rfl!
theorem gd24 : globD g1 (Str.ofString "_law_name") = .ok (.obj 189) := by kernel_rfl!
theorem gd25 : globD g1 (Str.ofString "_law_peeled") = .ok (.obj 194) := by kernel_rfl!
theorem gd26 : globD g1 (Str.ofString "_law_read") = .ok (.obj 201) := by kernel_rfl!
theorem gd27 : globD g1 (Str.ofString "_law_told") = .ok (.obj 208) := by kernel_rfl!
theorem gd28 : globD g1 (Str.ofString "_law_list") = .ok (.obj 215) := by kernel_rfl!
theorem gd29 : globD g1 (Str.ofString "_law_last") = .ok (.obj 220) := by kernel_rfl!
theorem gd30 : globD g1 (Str.ofString "_law_letters") = .ok (.obj 225) := by kernel_rfl!
theorem gx0 : globD g1 (Str.ofString "len") = .ok (.bi "len") := by kernel_rfl!
theorem gx1 : globD g1 (Str.ofString "sum") = .ok (.bi "sum") := by kernel_rfl!
theorem gx2 : globD g1 (Str.ofString "chr") = .ok (.bi "chr") := by kernel_rfl!
theorem gx3 : globD g1 (Str.ofString "isinstance") = .ok (.bi "isinstance") := by kernel_rfl!
theorem gx4 : globD g1 (Str.ofString "range") = .ok (.type "range") := by kernel_rfl!
theorem gx5 : globD g1 (Str.ofString "zip") = .ok (.type "zip") := by kernel_rfl!
theorem gx6 : globD g1 (Str.ofString "list") = .ok (.type "list") := by kernel_rfl!
theorem gx7 : globD g1 (Str.ofString "bytes") = .ok (.type "bytes") := by kernel_rfl!
theorem gx8 : globD g1 (Str.ofString "bytearray") = .ok (.type "bytearray") := by kernel_rfl!
theorem gx9 : globD g1 (Str.ofString "str") = .ok (.type "str") := by kernel_rfl!
theorem gx10 : globD g1 (Str.ofString "type") = .ok (.type "type") := by kernel_rfl!
theorem gx11 : globD g1 (Str.ofString "int") = .ok (.type "int") := by kernel_rfl!
theorem gx12 : globD g1 (Str.ofString "bool") = .ok (.type "bool") := by kernel_rfl!
theorem gdA : globD g1 (Str.ofString "bytes_types") = .ok (.tys ["bytes", "bytearray"]) := by kernel_rfl!
theorem gdB : globD g1 (Str.ofString "_B64") = .ok (.bytes B64) := by kernel_rfl!
theorem gpat : g1.pat = 50 := rfl
theorem rs_err {sc : Scope} {m : Str} (h : (Str.ofString "Error" != "__debug__" && sc.names.lookup (Str.ofString "Error") == some .globalImplicit && (g1.exc 68).isSome && decide (m.length ≤ big)) = true) : raiS g1 sc (Str.ofString "Error") m = .exc (.ref 68) m := raiS_ok h (by kernel_rfl!)
noncomputable def rP := And.intro (And.intro (And.intro (And.intro (And.intro (And.intro (@fns_exs) (@fns_ex)) (And.intro (@fns_evT) (And.intro (@fns_ev) (@fns_it)))) (And.intro (And.intro (@e_const) (@e_name)) (And.intro (@e_bin) (And.intro (@e_neg) (@e_not))))) (And.intro (And.intro (And.intro (@un_neg) (@un_not)) (And.intro (@e_if) (And.intro (@e_cmp) (@e_list)))) (And.intro (And.intro (@e_tuple) (@e_comp)) (And.intro (@e_meth) (And.intro (@e_items) (@e_call)))))) (And.intro (And.intro (And.intro (And.intro (@e_slice) (@e_sub)) (And.intro (@t_not) (And.intro (@t_bool) (@t_if)))) (And.intro (And.intro (@t_cmp) (@t_name)) (And.intro (@t_const) (And.intro (@t_call) (@t_bin))))) (And.intro (And.intro (And.intro (@t_sub) (@and_nil)) (And.intro (@or_nil) (And.intro (@and_cons) (@or_cons)))) (And.intro (And.intro (@chain1) (And.intro (@chain2) (@s_nil))) (And.intro (@s_cons) (And.intro (@s_ret) (@s_if))))))) (And.intro (And.intro (And.intro (And.intro (And.intro (@s_while) (@s_for)) (And.intro (@s_cont) (And.intro (@s_break) (@s_newl)))) (And.intro (And.intro (@s_newd) (@s_set)) (And.intro (@s_unpack) (And.intro (@s_dstore) (@s_append))))) (And.intro (And.intro (And.intro (@s_try) (@s_raise)) (And.intro (@s_assert) (And.intro (@i_name) (@i_tuple)))) (And.intro (And.intro (@i_bin) (And.intro (@i_sub) (@i_comp))) (And.intro (@i_range) (And.intro (@i_zip) (@argsD_no)))))) (And.intro (And.intro (And.intro (And.intro (@argsD_kw) (@mapR_nil)) (And.intro (@mapR_cons) (And.intro (@evs_eq) (@optE_none)))) (And.intro (And.intro (@optE_s) (@testAll_nil)) (And.intro (@testAll_cons) (And.intro (@bt_name) (@bt_pair))))) (And.intro (And.intro (And.intro (@bs_name) (@bs_tup2)) (And.intro (@bs_tup3) (And.intro (@wh_succ) (@forL_nil)))) (And.intro (And.intro (@cp_t) (And.intro (@cp_f) (@lk_hd))) (And.intro (@lk_1) (And.intro (@ss_hd) (@ss_1)))))))
noncomputable def rQ := And.intro (And.intro (And.intro (And.intro (And.intro (And.intro (And.intro (@rm_ok) (@rm_exc)) (And.intro (@R.of_some) (And.intro (@R.of_none) (@R.safe_ok)))) (And.intro (And.intro (@ob_s) (@ob_n)) (And.intro (@om_s) (And.intro (@dq_int) (@dq_str))))) (And.intro (And.intro (And.intro (@dq_bytes) (@dq_type)) (And.intro (@dq_list) (And.intro (@dq_tuple) (@dq_dict)))) (And.intro (And.intro (@dq_obj) (And.intro (@bq_ml) (@bq_md))) (And.intro (@unp_2) (And.intro (@unp_1) (@try_ret)))))) (And.intro (And.intro (And.intro (And.intro (@try_next) (@try_exc)) (And.intro (@h_text) (And.intro (@h_skip) (@h_name)))) (And.intro (And.intro (@zipI2) (@zipI3)) (And.intro (@ll_2) (And.intro (@two_eq) (@rg_1))))) (And.intro (And.intro (And.intro (@it_list) (@it_tuple)) (And.intro (@it_bytes) (And.intro (@nameD_ok) (@nl_some)))) (And.intro (And.intro (@lookup_nil') (And.intro (@ss_nil) (@fast_val))) (And.intro (@fast_ml) (And.intro (@fast_md) (@fast_nil))))))) (And.intro (And.intro (And.intro (And.intro (And.intro (@allV_val) (@allV_ml)) (And.intro (@allV_md) (And.intro (@allV_nil) (@fz_nil)))) (And.intro (And.intro (@fz_val) (@fz_ml)) (And.intro (@fz_md) (And.intro (@cp_nil) (@call_bi))))) (And.intro (And.intro (And.intro (@call_type) (@isTy_eq)) (And.intro (@lt_d) (And.intro (@le_d) (@gt_d)))) (And.intro (And.intro (@ge_d) (And.intro (@eq_i) (@ne_i))) (And.intro (@eq_s) (And.intro (@ne_s) (@is_tt)))))) (And.intro (And.intro (And.intro (And.intro (@isnot_tt) (@is_nn)) (And.intro (@isnot_nn) (And.intro (@isnot_bn) (@is_in)))) (And.intro (And.intro (@is_bn) (@is_oo)) (And.intro (@add_i) (And.intro (@sub_i) (@or_i))))) (And.intro (And.intro (And.intro (@and_i) (@mul_i)) (And.intro (@fdiv_i) (And.intro (@mod_i) (@pow_i)))) (And.intro (And.intro (@shl_i) (And.intro (@shr_i) (@io_fdiv))) (And.intro (@io_mod) (And.intro (@io_pow) (@io_shl)))))))) (And.intro (And.intro (And.intro (And.intro (And.intro (And.intro (@io_shr) (@add_s)) (And.intro (@truth_b) (And.intro (@truth_i) (@truth_n)))) (And.intro (And.intro (@truth_h) (@c_none)) (And.intro (@c_bool) (And.intro (@c_int) (@c_str))))) (And.intro (And.intro (And.intro (@c_bytes) (@ty_b)) (And.intro (@ty_i) (And.intro (@ty_s) (@ty_y)))) (And.intro (And.intro (@tyD_type) (And.intro (@mo_str) (@mo_bytes))) (And.intro (@mo_type) (And.intro (@mo_obj) (@md_encode)))))) (And.intro (And.intro (And.intro (And.intro (@md_isascii) (@md_hex)) (And.intro (@md_upper) (And.intro (@md_translate) (@lb_list)))) (And.intro (And.intro (@lb_bytes) (@len_s)) (And.intro (@sb_list) (And.intro (@ib_str) (@ib_bytes))))) (And.intro (And.intro (And.intro (@ib_bytes') (@big_eq)) (And.intro (@ret_d) (And.intro (@ret_n) (@nl_none)))) (And.intro (And.intro (@gd0) (And.intro (@gd1) (@gd2))) (And.intro (@gd3) (And.intro (@gd4) (@gd5))))))) (And.intro (And.intro (And.intro (And.intro (And.intro (@gd6) (@gd7)) (And.intro (@gd8) (And.intro (@gd9) (@gd10)))) (And.intro (And.intro (@gd11) (@gd12)) (And.intro (@gd13) (And.intro (@gd14) (@gd15))))) (And.intro (And.intro (And.intro (@gd16) (@gd17)) (And.intro (@gd18) (And.intro (@gd19) (@gd20)))) (And.intro (And.intro (@gd21) (And.intro (@gd22) (@gd23))) (And.intro (@gd24) (And.intro (@gd25) (@gd26)))))) (And.intro (And.intro (And.intro (And.intro (@gd27) (@gd28)) (And.intro (@gd29) (And.intro (@gd30) (@gx0)))) (And.intro (And.intro (@gx1) (@gx2)) (And.intro (@gx3) (And.intro (@gx4) (@gx5))))) (And.intro (And.intro (And.intro (@gx6) (@gx7)) (And.intro (@gx8) (And.intro (@gx9) (@gx10)))) (And.intro (And.intro (@gx11) (And.intro (@gx12) (@gdA))) (And.intro (@gdB) (And.intro (@gpat) (@rs_err))))))))
noncomputable def rB := And.intro (@bk_ok) (And.intro (@bk_exc) (@bk_bad))
end Mine
end
section
namespace Mine
section
variable {g : G} {F : Fns} {sc : Scope} {σ σ1 σ2 : Sg} {n : Nat} {p p' p'' q q' : Pos} {k : Nat} {s : Stmt} {rest a b : List Stmt} {r : R (Sg × Fl)} {d : D} {c : Value} {m : Str} {e t i : Expr} {x : Str}
theorem x_exs (h : exsS (fns g n) sc σ a = r) : (fns g (n + 1)).exs sc σ a = r := h
theorem xs_nil : exsS F sc σ [] = .ok (σ, .next) := (rfl)
theorem xs_nil' (h : σ = σ1) : exsS F sc σ [] = .ok (σ1, .next) := by rw [h]; rfl
theorem xs_next (h : F.ex sc σ s = .ok (σ1, .next)) (k : exsS F sc σ1 rest = r) : exsS F sc σ (s :: rest) = r := by rw [exsS_c, h]; exact k
theorem xs_ret (h : F.ex sc σ s = .ok (σ1, .ret d)) : exsS F sc σ (s :: rest) = .ok (σ1, .ret d) := by rw [exsS_c, h]; rfl
theorem xs_exc (h : F.ex sc σ s = .exc c m) : exsS F sc σ (s :: rest) = .exc c m := by rw [exsS_c, h]; rfl
theorem x_set (h : (storable sc x && plainE e) = true) (hf : freeze (occ 30 e) σ = σ1) (he : (fns g n).ev sc (fast σ1) e = .ok d) (hs : setS x (.val d) σ1 = σ2) : (fns g (n + 1)).ex sc σ (.Assign [.Name x p] e p') = .ok (σ2, .next) := by
  rw [fns_ex, s_set h, hf, he, bk_ok, hs]
theorem x_setx (h : (storable sc x && plainE e) = true) (hf : freeze (occ 30 e) σ = σ1) (he : (fns g n).ev sc (fast σ1) e = .exc c m) : (fns g (n + 1)).ex sc σ (.Assign [.Name x p] e p') = .exc c m := by
  rw [fns_ex, s_set h, hf, he, bk_exc]
theorem x_newl (h : storable sc x = true) (hs : setS x (.ml []) σ = σ1) : (fns g (n + 1)).ex sc σ (.Assign [.Name x p] (.List [] p') p'') = .ok (σ1, .next) := by
  rw [fns_ex, s_newl h, hs]
theorem x_newd (h : storable sc x = true) (hs : setS x (.md []) σ = σ1) : (fns g (n + 1)).ex sc σ (.Assign [.Name x p] (.Dict [] [] p') p'') = .ok (σ1, .next) := by
  rw [fns_ex, s_newd h, hs]
theorem x_unp {y : Str} {k0 : Nat} {u v : D} (h : (storable sc x && storable sc y && !isTup e) = true) (hf : freeze (occ 30 e) σ = σ1) (he : (fns g n).ev sc (fast σ1) e = .ok (.list [u, v])) (hs : setS y (.val v) (setS x (.val u) σ1) = σ2) :
    (fns g (n + 1)).ex sc σ (.Assign [.Tuple [.Name x p, .Name y p'] k0 p''] e q) = .ok (σ2, .next) := by
  rw [fns_ex, s_unpack h, hf, he, bk_ok, dq_list, R.of_some, bk_ok, unp_2, hs]
theorem x_dst {y v ks : Str} {l : List (Str × D)} (h : (x == ("__debug__" : Str)) = false) (hl : (σ.lookup x).bind B.md? = some l) (hv : (fns g n).ev sc (fast σ) (.Name v q) = .ok d) (hk : (fns g n).ev sc (fast σ) (.Name y p') = .ok (.str ks)) (hn : l.length ≤ 1000) (hs : setS x (.md (putIn ks d l)) σ = σ1) :
    (fns g (n + 1)).ex sc σ (.Assign [.Subscript (.Name x p) (.Name y p') p''] (.Name v q) q') = .ok (σ1, .next) := by
  rw [fns_ex, s_dstore h, hl, R.of_some, bk_ok, hv, bk_ok, hk, bk_ok, dq_str, R.of_some, bk_ok, if_pos hn, hs]
theorem x_app {l : List D} (h : (!starred e && !(x == ("__debug__" : Str)) && (p'.endLine == p''.line)) = true) (hl : (σ.lookup x).bind B.ml? = some l) (hf : freeze ((occ 30 e).filter (· != x)) σ = σ1) (he : (fns g n).ev sc (fast σ1) e = .ok d) (hn : l.length ≤ big) (hs : setS x (.ml (l ++ [d])) σ1 = σ2) :
    (fns g (n + 1)).ex sc σ (.Expr (.Call (.Attribute (.Name x p) (Str.ofString "append") p') [e] [] p'') q) = .ok (σ2, .next) := by
  rw [fns_ex, s_append h, hl, R.of_some, bk_ok, hf, he, bk_ok, if_pos hn, hs]
theorem x_ift (ht : (fns g n).evT sc (allV σ) t = .ok true) (k : (fns g n).exs sc σ a = r) : (fns g (n + 1)).ex sc σ (.If t a b p) = r := by
  rw [fns_ex, s_if, ht, bk_ok]; exact k
theorem x_iff (ht : (fns g n).evT sc (allV σ) t = .ok false) (k : (fns g n).exs sc σ b = r) : (fns g (n + 1)).ex sc σ (.If t a b p) = r := by
  rw [fns_ex, s_if, ht, bk_ok]; exact k
theorem x_ifx (ht : (fns g n).evT sc (allV σ) t = .exc c m) : (fns g (n + 1)).ex sc σ (.If t a b p) = .exc c m := by
  rw [fns_ex, s_if, ht, bk_exc]
theorem x_for {o : Bool} {l : List D} (h : (isSet i || a.any (mk 10)) = false) (hf : freeze (occ 30 i) σ = σ1) (hi : (fns g n).it sc (fast σ1) i = .ok (o, l)) (ho : (o && !isTup t) = false) (hl : l.length ≤ 1048576) (k : forL (fns g n) sc t a l σ1 = r) : (fns g (n + 1)).ex sc σ (.For t i a [] p) = r := by
  rw [fns_ex, s_for h, hf, hi, bk_ok]
  show (if (o && !isTup t) = true then _ else if l.length ≤ big then _ else _) = _
  rw [ho, if_neg (by decide), if_pos (show l.length ≤ big from hl)]; exact k
theorem x_while {v : Sg × Fl} (k : whileL (fns g n) sc t a n σ = .ok v) : (fns g (n + 1)).ex sc σ (.While t a [] p) = .ok v := by
  rw [fns_ex, s_while, k]; rfl
theorem x_ret (hf : freeze (occ 30 e) σ = σ1) (he : (fns g n).ev sc (fast σ1) e = .ok d) : (fns g (n + 1)).ex sc σ (.Return (some e) p) = .ok (σ1, .ret d) := by
  rw [fns_ex, s_ret, hf, he, bk_ok]
theorem x_retx (hf : freeze (occ 30 e) σ = σ1) (he : (fns g n).ev sc (fast σ1) e = .exc c m) : (fns g (n + 1)).ex sc σ (.Return (some e) p) = .exc c m := by
  rw [fns_ex, s_ret, hf, he, bk_exc]
theorem x_rais {y m' : Str} (h : raiS g sc y m' = .exc c m) : (fns g (n + 1)).ex sc σ (.Raise (some (.Call (.Name y p) [.Constant (.str m') k p'] [] p'')) none q) = .exc c m := h
theorem x_asr {m : Option Expr} (ht : (fns g n).evT sc (allV σ) t = .ok true) : (fns g (n + 1)).ex sc σ (.Assert t m p) = .ok (σ, .next) := by
  rw [fns_ex, s_assert, ht, bk_ok, if_pos rfl]
theorem x_tryr {h : ExceptHandler} {hs : List ExceptHandler} (hb : (fns g n).exs sc σ a = .ok (σ1, .ret d)) : (fns g (n + 1)).ex sc σ (.Try a (h :: hs) [] [] p) = .ok (σ1, .ret d) := by
  rw [fns_ex, s_try, hb]; rfl
theorem x_tryn {h : ExceptHandler} {hs : List ExceptHandler} (hb : (fns g n).exs sc σ a = .ok (σ1, .next)) : (fns g (n + 1)).ex sc σ (.Try a (h :: hs) [] [] p) = .ok (σ1, .next) := by
  rw [fns_ex, s_try, hb]; rfl
theorem x_tryx {h : ExceptHandler} {hs : List ExceptHandler} {f : Fl} (hb : (fns g n).exs sc σ a = .exc c m) (hh : handleS g sc c m (h :: hs) = .ok f) : (fns g (n + 1)).ex sc σ (.Try a (h :: hs) [] [] p) = .ok ([], f) := by
  rw [fns_ex, s_try, hb, try_exc, hh]; rfl
theorem x_call {u : Addr} {f : Fn} {args : List D} {kws bs : Vs} (hf : g.fn u = some f) (hb : f.bind args kws = some bs) (hs : bs.foldl (fun s p => setS p.1 (.val p.2) s) [] = σ) (h : (fns g n).exs f.scope σ f.body = .ok (σ1, .ret d)) : (fns g (n + 1)).call (.obj u) args kws = .ok d := by
  rw [call_obj hf hb, hs, h]; rfl
noncomputable def seqK (F : Fns) (sc : Scope) (l : List Stmt) (σ : Sg) : Fl → R (Sg × Fl)
  | .next => exsS F sc σ l
  | f => .ok (σ, f)
theorem sk_n (h : exsS F sc σ rest = r) : seqK F sc rest σ .next = r := h
theorem sk_r : seqK F sc rest σ (.ret d) = .ok (σ, .ret d) := (rfl)
theorem xs_step {f : Fl} (h : F.ex sc σ s = .ok (σ1, f)) (k : seqK F sc rest σ1 f = r) : exsS F sc σ (s :: rest) = r := by
  rw [exsS_c, h, rb_ok]
  cases f <;> exact k
theorem cd_t {α : Type} {x y z : α} (h : x = z) : cond true x y = z := h
theorem cd_f {α : Type} {x y z : α} (h : y = z) : cond false x y = z := h
theorem cd_th {α : Type} {c : Bool} {x y z : α} (h : c = true) (k : x = z) : cond c x y = z := by rw [h]; exact k
theorem cd_fh {α : Type} {c : Bool} {x y z : α} (h : ¬ c = true) (k : y = z) : cond c x y = z := by rw [Bool.eq_false_iff.mpr h]; exact k
theorem x_if {c : Bool} (ht : (fns g n).evT sc (allV σ) t = .ok c) (k : cond c ((fns g n).exs sc σ a) ((fns g n).exs sc σ b) = r) : (fns g (n + 1)).ex sc σ (.If t a b p) = r := by
  cases c
  · exact x_iff ht k
  · exact x_ift ht k
theorem w_step {c : Bool} (ht : F.evT sc (allV σ) t = .ok c) (k : cond c ((F.exs sc σ a).bind fun q => match q.2 with
    | .next => whileL F sc t a n q.1
    | .cont => whileL F sc t a n q.1
    | .brk => .ok (q.1, .next)
    | .ret d => .ok (q.1, .ret d)) (.ok (σ, .next)) = r) : whileL F sc t a (n + 1) σ = r := by
  rw [wh_succ, ht, bk_ok]
  cases c
  · exact k
  · exact k
theorem w_n {m : R (Sg × Fl)} (h : m = .ok (σ1, .next)) (k : whileL F sc t a n σ1 = r) : (m.bind fun q => match q.2 with
    | .next => whileL F sc t a n q.1
    | .cont => whileL F sc t a n q.1
    | .brk => .ok (q.1, .next)
    | .ret d => .ok (q.1, .ret d)) = r := by
  rw [h]; exact k
theorem w_f {m : R (Sg × Fl)} : cond false m (.ok (σ, .next)) = (.ok (σ, .next)) := (rfl)
noncomputable def Rt (v : R D) (r : R (Sg × Fl)) : Prop := (r.bind fun r => retD r.2) = v
theorem xp_exs {v : R D} (h : Rt v (exsS (fns g n) sc σ a)) : Rt v ((fns g (n + 1)).exs sc σ a) := h
theorem xp_next {v : R D} (h : F.ex sc σ s = .ok (σ1, .next)) (k : Rt v (exsS F sc σ1 rest)) : Rt v (exsS F sc σ (s :: rest)) := by rw [xs_next h rfl]; exact k
theorem xp_step {v : R D} {f : Fl} (h : F.ex sc σ s = .ok (σ1, f)) (k : Rt v (seqK F sc rest σ1 f)) : Rt v (exsS F sc σ (s :: rest)) := by rw [xs_step h rfl]; exact k
theorem xp_skn {v : R D} (h : Rt v (exsS F sc σ rest)) : Rt v (seqK F sc rest σ .next) := h
theorem rt_ret {v : R D} (hf : freeze (occ 30 e) σ = σ1) (he : (fns g n).ev sc (fast σ1) e = v) : Rt v (exsS (fns g (n + 1)) sc σ (.Return (some e) p :: rest)) := by
  subst hf
  rw [Rt, exsS_c, fns_ex, s_ret, he]
  cases v <;> rfl
theorem rt_sk : Rt (.ok d) (seqK F sc rest σ (.ret d)) := (rfl)
theorem rt_exc (h : F.ex sc σ s = .exc c m) : Rt (.exc c m) (exsS F sc σ (s :: rest)) := by rw [xs_exc h]; rfl
theorem rt_ifr {y m' : Str} {k0 : Nat} (ht : (fns g (n + 2)).evT sc (allV σ) t = .ok true) (h : raiS g sc y m' = .exc c m) : Rt (.exc c m) (exsS (fns g (n + 3)) sc σ (.If t [.Raise (some (.Call (.Name y p) [.Constant (.str m') k0 p'] [] p'')) none q] b q' :: rest)) :=
  rt_exc (x_ift ht (x_exs (xs_exc (x_rais h))))
theorem x_callP {u : Addr} {f : Fn} {args : List D} {kws bs : Vs} {v : R D} (hf : g.fn u = some f) (hb : f.bind args kws = some bs) (hs : bs.foldl (fun s p => setS p.1 (.val p.2) s) [] = σ) (h : Rt v ((fns g n).exs f.scope σ f.body)) : (fns g (n + 1)).call (.obj u) args kws = v := by
  rw [call_obj hf hb, hs]; exact h
theorem x_body (hb : bindS sc t d σ = .ok σ1) (h : (fns g n).exs sc σ1 a = r) : BK (bindS sc t d σ) (fun σ' => (fns g n).exs sc σ' a) ⟨⟩ = r := by rw [hb, bk_ok, h]
end

section
set_option linter.defProp false
theorem bi_e {α : Type} [BEq α] [LawfulBEq α] {a b : α} : (a == b) = true ↔ a = b := beq_iff_eq
theorem bn_e {α : Type} [BEq α] [LawfulBEq α] {a b : α} : (a != b) = true ↔ a ≠ b := bne_iff_ne
theorem bf_e {α : Type} [BEq α] [LawfulBEq α] {a b : α} : (a == b) = false ↔ a ≠ b := beq_eq_false_iff_ne
theorem nf_e {α : Type} [BEq α] [LawfulBEq α] {a b : α} : (a != b) = false ↔ a = b := bne_eq_false_iff_eq
theorem ne_e {α : Type} (a b : α) : (a ≠ b) = ¬ a = b := (rfl)
theorem an_e {α : Type} (l : List α) : l ++ [] = l := List.append_nil l
theorem na_e {α : Type} (l : List α) : [] ++ l = l := (rfl)
theorem ca_e {α : Type} (a : α) (l m : List α) : (a :: l) ++ m = a :: (l ++ m) := (rfl)
theorem lm_e {α β : Type} {l : List α} (f : α → β) : (l.map f).length = l.length := List.length_map f
theorem fc_e {α β : Type} (f : β → α → β) (b : β) (a : α) (l : List α) : (a :: l).foldl f b = l.foldl f (f b a) := (rfl)
theorem fn_e {α β : Type} (f : β → α → β) (b : β) : ([] : List α).foldl f b = b := (rfl)
theorem la_e {α : Type} (l m : List α) : (l ++ m).length = l.length + m.length := List.length_append
theorem lc_e {α : Type} (a : α) (l : List α) : (a :: l).length = l.length + 1 := (rfl)
theorem ln_e {α : Type} : ([] : List α).length = 0 := (rfl)
theorem al_e {α : Type} (a : Array α) : a.toList.length = a.size := (rfl)
theorem nz_e (n : Nat) : (0 ≤ n) = True := by simp
noncomputable def rK := And.intro (And.intro (And.intro (And.intro (And.intro (@decide_eq_true_eq) (@Bool.not_eq_true)) (And.intro (@Bool.and_eq_true) (@Bool.or_eq_true))) (And.intro (And.intro (@bi_e) (@bn_e)) (And.intro (@Bool.not_eq_true') (@bf_e)))) (And.intro (And.intro (And.intro (@nf_e) (@decide_eq_false_iff_not)) (And.intro (@ne_e) (@not_true_eq_false))) (And.intro (And.intro (@not_false_eq_true) (@true_and)) (And.intro (@and_true) (@false_and))))) (And.intro (And.intro (And.intro (And.intro (@and_false) (@true_or)) (And.intro (@or_true) (@false_or))) (And.intro (And.intro (@or_false) (@decide_true)) (And.intro (@decide_false) (@Bool.true_and)))) (And.intro (And.intro (And.intro (@Bool.and_true) (@Bool.false_or)) (And.intro (@Bool.or_false) (@nab_neg))) (And.intro (And.intro (@an_e) (@true_implies)) (And.intro (@false_implies) (@Bool.false_eq_true)))))
noncomputable def rN := And.intro (And.intro (And.intro (And.intro (@nat_add) (@nat_mul)) (And.intro (@fdiv_nat') (And.intro (@fmod_nat') (@fmod_lit)))) (And.intro (And.intro (@fdiv_lit) (@mul_lit)) (And.intro (@lit_mul) (And.intro (@add_lit) (@lit_add))))) (And.intro (And.intro (And.intro (@nat_nab) (@nat_toNat)) (And.intro (@nat_le) (And.intro (@nat_lt) (@nat_beq)))) (And.intro (And.intro (@nat_le_lit) (And.intro (@lit_le_nat) (@nabL))) (And.intro (@nz_e) (And.intro (@lm_e) (@List.length_range)))))
noncomputable def rC := And.intro (And.intro (And.intro (@fc_e) (@fn_e)) (And.intro (@Bool.false_or) (And.intro (@Bool.true_or) (@Bool.true_and)))) (And.intro (And.intro (@Bool.false_and) (@Bool.not_true)) (And.intro (@Bool.not_false) (And.intro (@na_e) (@ca_e))))
noncomputable def rL := And.intro (And.intro (@la_e) (And.intro (@lc_e) (@ln_e))) (And.intro (@lm_e) (And.intro (@List.length_range) (@al_e)))
end

end Mine
end
namespace Mine
open Nat renaming reduceBEq → Za, reduceAdd → Zb, reducePow → Zc, reduceLT → Zd, reduceLeDiff → Ze
open Int renaming reduceNeg → Zf, reduceSub → Zg, reduceAdd → Zh, reduceMul → Zi, reduceFDiv → Zj, reduceFMod → Zk, reducePow → Zl, reduceToNat → Zm, reduceLT → Zn, reduceLE → Zo, reduceEq → Zp
open String renaming reduceBEq → Zq, reduceBNe → Zr
abbrev Kst {α : Type} (a b c : α) : Prop := a = b → a = c
theorem nc {p : Prop} [Decidable p] (h : decide p = false) : ¬ p := of_decide_eq_false h
theorem od {p : Prop} [Decidable p] (h : decide p = true) : p := of_decide_eq_true h
def rV := And.intro (@rP) (And.intro (@ite_t) (@ite_f))
def rU := And.intro (@rQ) (And.intro (@rB) (@rC))
def rW := And.intro (@upTo_map) (@chr_u8)
local macro_rules | `(tactic| walk_at "kr") => `(tactic| ((with_reducible show _ = _); refine (?_ : Kst _ _ _) (by (simp -dsimp (disch := (first | kernel_rfl! | (refine od ?_; kernel_rfl!) | (refine nc ?_; kernel_rfl!))) only [↓rV, rU, Zq, Zr, Za, Zb, Zf, Zg, Zh, Zi, Zj, Zk, Zl, Zm, Zc]; exact rfl)); intro h; have k : type_of% h := (by kernel_rfl!); apply Eq.trans k; clear k h))
set_option maxHeartbeats 4000000
section
noncomputable def hexV (c : Int) : Int := if 48 ≤ c ∧ c ≤ 57 then c - 48 else if 65 ≤ c ∧ c ≤ 70 then c - 55 else if 97 ≤ c ∧ c ≤ 102 then c - 87 else 16
noncomputable def b64V (c : Int) : Int := if 65 ≤ c ∧ c ≤ 90 then c - 65 else if 97 ≤ c ∧ c ≤ 122 then c - 71 else if 48 ≤ c ∧ c ≤ 57 then c + 4 else if c = 43 then 62 else if c = 47 then 63 else 64
theorem c_hexv (n : Nat) (c : Int) : (fns g1 (n + 9)).call (.obj 131) [.int c] [] = .ok (.int (hexV c)) := by
  obtain ⟨f, hf⟩ : ∃ f, g1.fn 131 = some f := ⟨_, rfl⟩
  unfold hexV
  repeat' split
  all_goals (apply x_call (bs := [("c", .int c)]) hf (by cases hf; rfl); ((walk_at "kr"; with_reducible exact rfl)); cases hf; (repeat (first | (with_reducible first | exact xs_nil | apply x_exs | apply cd_t | apply sk_n | exact sk_r) | (with_reducible apply xs_ret; with_reducible apply x_ret) | (with_reducible apply xs_step; with_reducible apply x_if) | (with_reducible apply cd_fh; (focus (simp -dsimp only [rK, *]; done))) | ((try (walk_at "kr")); (repeat (refine .trans (by (simp -dsimp only [cb_int, ↓ite_and, ↓ite_or, ↓reduceIte, if_true, if_false, rK, Zd, Ze, Zn, Zo, Zp, *]; exact rfl)) ?_)); with_reducible exact rfl))))
theorem c_b64v (n : Nat) (c : Int) : (fns g1 (n + 9)).call (.obj 99) [.int c] [] = .ok (.int (b64V c)) := by
  obtain ⟨f, hf⟩ : ∃ f, g1.fn 99 = some f := ⟨_, rfl⟩
  unfold b64V
  repeat' split
  all_goals (apply x_call (bs := [("c", .int c)]) hf (by cases hf; rfl); ((walk_at "kr"; with_reducible exact rfl)); cases hf; (repeat (first | (with_reducible first | exact xs_nil | apply x_exs | apply cd_t | apply cd_f | apply sk_n | exact sk_r) | (with_reducible apply xs_ret; with_reducible apply x_ret) | (with_reducible apply xs_step; with_reducible apply x_if) | (with_reducible apply cd_th; kernel_rfl!) | (with_reducible apply cd_fh; refine Bool.eq_false_iff.mp ?_; kernel_rfl!) | (with_reducible apply cd_fh; (focus (simp -dsimp only [rK, *]; done))) | ((try (walk_at "kr")); (repeat (refine .trans (by (simp -dsimp only [cb_int, ↓ite_and, ↓ite_or, ↓reduceIte, if_true, if_false, rK, Zd, Ze, Zn, Zo, Zp, *]; exact rfl)) ?_)); with_reducible exact rfl))))
theorem c_truth (n : Nat) (b : Bool) : (fns g1 (n + 19)).call (.obj 92) [.bool b] [] = .ok (.bool b) := by
  obtain ⟨f, hf⟩ : ∃ f, g1.fn 92 = some f := ⟨_, rfl⟩
  cases b <;> (apply x_call (bs := [("x", .bool _)]) hf (by cases hf; rfl); ((walk_at "kr"; with_reducible exact rfl)); cases hf; (repeat (first | (with_reducible first | apply x_exs | apply cd_t | exact sk_r) | (with_reducible apply xs_next; with_reducible apply x_set; (focus decide +kernel)) | (with_reducible apply xs_ret; with_reducible apply x_ret) | (with_reducible apply xs_step; with_reducible apply x_if) | (walk_at "kr"; with_reducible exact rfl))))
theorem c_ascii (n : Nat) (b : Array UInt8) : (fns g1 (n + 9)).call (.obj 78) [.bytes b] [] = .ok (.bytes b) := by
  obtain ⟨f, hf⟩ : ∃ f, g1.fn 78 = some f := ⟨_, rfl⟩
  apply x_call (bs := [("data", .bytes b)]) hf (by cases hf; rfl)
  (walk_at "kr"; with_reducible exact rfl)
  cases hf
  (repeat (first | (with_reducible first | exact xs_nil | apply x_exs | apply cd_t | apply cd_f | apply sk_n | exact sk_r) | (with_reducible apply xs_next; with_reducible apply x_set; (focus decide +kernel)) | (with_reducible apply xs_ret; with_reducible apply x_ret) | (with_reducible apply xs_step; with_reducible apply x_if) | (walk_at "kr"; with_reducible exact rfl)))
theorem c_buffer (n : Nat) (b : Array UInt8) : (fns g1 (n + 9)).call (.obj 85) [.bytes b] [] = .ok (.bytes b) := by
  obtain ⟨f, hf⟩ : ∃ f, g1.fn 85 = some f := ⟨_, rfl⟩
  apply x_call (bs := [("data", .bytes b)]) hf (by cases hf; rfl)
  (walk_at "kr"; with_reducible exact rfl)
  cases hf
  (repeat (first | (with_reducible first | apply x_exs | apply cd_t | exact sk_r) | (with_reducible apply xs_next; with_reducible apply x_set; (focus decide +kernel)) | (with_reducible apply xs_ret; with_reducible apply x_ret) | (with_reducible apply xs_step; with_reducible apply x_if) | (walk_at "kr"; with_reducible exact rfl)))
theorem c_dec_bytes (n : Nat) (b : Array UInt8) : (fns g1 (n + 9)).call (.obj 58) [.bytes b] [] = .ok (.bytes b) := by
  obtain ⟨f, hf⟩ : ∃ f, g1.fn 58 = some f := ⟨_, rfl⟩
  apply x_call (bs := [("s", .bytes b)]) hf (by cases hf; rfl)
  (walk_at "kr"; with_reducible exact rfl)
  cases hf
  (repeat (first | (with_reducible first | exact xs_nil | apply x_exs | apply cd_t | apply cd_f | apply sk_n | exact sk_r) | (with_reducible apply xs_ret; with_reducible apply x_ret) | (with_reducible apply xs_step; with_reducible apply x_if) | (walk_at "kr"; with_reducible exact rfl)))
theorem c_dec_str (n : Nat) (s : Str) (h : (s.cps.all fun x => decide (x < 128)) = true) (h' : s.length ≤ 1048576) : (fns g1 (n + 9)).call (.obj 58) [.str s] [] = .ok (.bytes (s.cps.map (·.toUInt8))) := by
  obtain ⟨f, hf⟩ : ∃ f, g1.fn 58 = some f := ⟨_, rfl⟩
  apply x_call (bs := [("s", .str s)]) hf (by cases hf; rfl)
  (walk_at "kr"; with_reducible exact rfl)
  cases hf
  (repeat (first | (with_reducible first | apply x_exs | apply cd_t | exact sk_r) | (with_reducible apply xs_step; with_reducible apply x_if) | ((try (walk_at "kr")); (repeat (refine .trans (by (simp -dsimp only [cb_int, ↓ite_and, ↓ite_or, ↓reduceIte, if_true, if_false, rK, Zd, Ze, Zn, Zo, Zp, *]; exact rfl)) ?_; (try (walk_at "kr")))); with_reducible exact rfl)))
theorem hexN_lt (k : Nat) (h : k < 16) : hexN k < 128 := by unfold hexN; split <;> omega
theorem hexNs_lt (l : List UInt8) : ∀ x ∈ hexNs l, x < 128 := by
  intro x hx
  simp only [hexNs, List.mem_flatMap] at hx
  obtain ⟨b, _, hb⟩ := hx
  have := b.toNat_lt
  simp only [List.mem_cons, List.not_mem_nil, or_false] at hb
  rcases hb with rfl | rfl <;> exact hexN_lt _ (by omega)
theorem hexNs_len (l : List UInt8) : (hexNs l).length = 2 * l.length := by
  induction l with
  | nil => rfl
  | cons a r ih => simp only [hexNs, List.flatMap_cons, List.length_append, List.length_cons, List.length_nil] at ih ⊢; omega
theorem c_hex (n : Nat) (b : Array UInt8) (h : b.size ≤ 1000) : (fns g1 (n + 16)).call (.obj 124) [.bytes b] [] = .ok (.bytes ((hexNs b.toList).toArray.map (·.toUInt8))) := by
  obtain ⟨f, hf⟩ : ∃ f, g1.fn 124 = some f := ⟨_, rfl⟩
  apply x_call (bs := [("data", .bytes b), ("sep", .obj 116), ("bytes_per_sep", .int 1)]) hf (by cases hf; rfl)
  (walk_at "kr"; with_reducible exact rfl)
  cases hf
  have hc := @c_buffer
  have h1 : b.size ≤ 1048576 := Nat.le_trans h (by decide)
  have h2 : ((hexNs b.toList).toArray.all fun x => decide (x < 128)) = true := by
    simp only [List.all_toArray, List.all_eq_true, decide_eq_true_eq]
    exact hexNs_lt _
  have h3 : Str.length ⟨(hexNs b.toList).toArray⟩ ≤ 1048576 := by
    show (hexNs b.toList).toArray.size ≤ 1048576
    have := hexNs_len b.toList
    simp only [List.size_toArray, this, Array.length_toList]
    exact Nat.le_trans (Nat.mul_le_mul_left 2 h) (by decide)
  (repeat (first | (with_reducible first | exact xs_nil | apply x_exs | apply cd_t | apply cd_f | apply sk_n | exact sk_r) | (with_reducible apply xs_next; with_reducible apply x_set; (focus decide +kernel)) | (with_reducible apply xs_ret; with_reducible apply x_ret) | (with_reducible apply xs_step; with_reducible apply x_if) | ((try (walk_at "kr")); (repeat (refine .trans (by (simp -dsimp only [cb_int, ↓ite_and, ↓ite_or, ↓reduceIte, if_true, if_false, rK, Zd, Ze, Zn, Zo, Zp, *]; exact rfl)) ?_; (try (walk_at "kr")))); with_reducible exact rfl)))
theorem c_b16e (n : Nat) (b : Array UInt8) (h : b.size ≤ 1000) : (fns g1 (n + 25)).call (.obj 161) [.bytes b] [] = .ok (.bytes (((hexNs b.toList).toArray.map (·.toUInt8)).map upByte)) := by
  obtain ⟨f, hf⟩ : ∃ f, g1.fn 161 = some f := ⟨_, rfl⟩
  apply x_call (bs := [("s", .bytes b)]) hf (by cases hf; rfl)
  (walk_at "kr"; with_reducible exact rfl)
  cases hf
  have hc := fun n => c_hex n b h
  have h1 : ((hexNs b.toList).toArray.map (·.toUInt8)).size ≤ 1048576 := by
    have := hexNs_len b.toList
    simp only [Array.size_map, List.size_toArray, this, Array.length_toList]
    exact Nat.le_trans (Nat.mul_le_mul_left 2 h) (by decide)
  (repeat (first | with_reducible apply x_exs | (with_reducible apply xs_ret; with_reducible apply x_ret) | ((try (walk_at "kr")); (repeat (refine .trans (by (simp -dsimp only [cb_int, ↓ite_and, ↓ite_or, ↓reduceIte, if_true, if_false, rK, Zd, Ze, Zn, Zo, Zp, *]; exact rfl)) ?_; (try (walk_at "kr")))); with_reducible exact rfl)))

end
section
noncomputable def hexD (k : Nat) : Nat := if k < 10 then 48 + k else 55 + k
theorem hexV_hexD : ∀ k, k < 16 → hexV ((hexD k).toUInt8.toNat : Int) = k := by decide +kernel
theorem isHex_hexD : ∀ k, k < 16 → isHexB (hexD k).toUInt8 = true := by decide +kernel
theorem hexD_lt (k : Nat) (h : k < 16) : hexD k < 128 := by unfold hexD; split <;> omega
theorem c_unhex4 (n : Nat) (a b c d : UInt8) (x y z w : Nat) (ha : hexV (a.toNat : Int) = x) (hb : hexV (b.toNat : Int) = y) (hc : hexV (c.toNat : Int) = z) (hd : hexV (d.toNat : Int) = w) (hx : x < 16) (hy : y < 16) (hz : z < 16) (hw : w < 16) :
    (fns g1 (n + 16)).call (.obj 138) [.bytes #[a, b, c, d]] [] = .ok (.bytes #[(x * 16 + y).toUInt8, (z * 16 + w).toUInt8]) := by
  obtain ⟨f, hf⟩ : ∃ f, g1.fn 138 = some f := ⟨_, rfl⟩
  have e1 := @c_ascii
  have e2 := @c_hexv
  have e3 : biD "len" [.bytes #[a, b, c, d]] = some (.int 4) := rfl
  have g0 : getD (.bytes #[a, b, c, d]) (.int 0) = .ok (.int a.toNat) := rfl
  have g1 : getD (.bytes #[a, b, c, d]) (.int 1) = .ok (.int b.toNat) := rfl
  have g2 : getD (.bytes #[a, b, c, d]) (.int 2) = .ok (.int c.toNat) := rfl
  have g3 : getD (.bytes #[a, b, c, d]) (.int 3) = .ok (.int d.toNat) := rfl
  have k1 : ¬ (16 : Int) ≤ (x : Int) := by omega
  have k2 : ¬ (16 : Int) ≤ (y : Int) := by omega
  have k3 : ¬ (16 : Int) ≤ (z : Int) := by omega
  have k4 : ¬ (16 : Int) ≤ (w : Int) := by omega
  have k5 : (x : Int).natAbs < 18446744073709551616 := by omega
  have k6 : (z : Int).natAbs < 18446744073709551616 := by omega
  have r : tyD "bytes" [.list [.int ((x : Int) * 16 + y), .int ((z : Int) * 16 + w)]] = some (.bytes #[(x * 16 + y).toUInt8, (z * 16 + w).toUInt8]) := by
    simp only [tyD_bytes, intL, D.int?, Option.map_some, Option.bind_some, toBytes?]
    rw [if_pos (by omega), if_pos (by omega)]
    simp only [Option.map_some, Option.bind_some, List.length_cons, List.length_nil]
    rw [if_pos (by decide)]
    have u : ∀ p q : Nat, ((p : Int) * 16 + q).toNat = p * 16 + q := fun p q => by omega
    rw [u, u]
  clear hx hy hz hw
  apply x_call (bs := [("hexstr", .bytes #[a, b, c, d])]) hf (by cases hf; rfl)
  (walk_at "kr"; with_reducible exact rfl)
  cases hf
  (repeat (first | (with_reducible first | exact xs_nil | apply x_exs | apply cd_f | apply sk_n | apply w_n | apply w_step) | (with_reducible apply xs_next; with_reducible apply x_newl; (focus decide +kernel)) | (with_reducible apply xs_next; with_reducible apply x_set; (focus decide +kernel)) | (with_reducible apply xs_next; with_reducible apply x_app; (focus decide +kernel)) | (with_reducible apply xs_ret; with_reducible apply x_ret) | (with_reducible apply xs_step; with_reducible apply x_if) | (with_reducible apply xs_step; with_reducible apply x_while) | (with_reducible apply cd_th; kernel_rfl!) | (with_reducible apply cd_fh; refine Bool.eq_false_iff.mp ?_; kernel_rfl!) | (with_reducible show (_ : Nat) ≤ _; refine of_decide_eq_true ?_; kernel_rfl!) | ((try (walk_at "kr")); (repeat (refine .trans (by (simp -dsimp only [cb_int, ↓ite_and, ↓ite_or, ↓reduceIte, if_true, if_false, rK, Zd, Ze, Zn, Zo, Zp, *]; exact rfl)) ?_; (try (walk_at "kr")))); with_reducible exact rfl)))
theorem c_b16d (n : Nat) (k3 k2 k1 k0 : Nat) (h3 : k3 < 16) (h2 : k2 < 16) (h1 : k1 < 16) (h0 : k0 < 16) :
    (fns g1 (n + 25)).call (.obj 169) [.str ⟨#[hexD k3, hexD k2, hexD k1, hexD k0]⟩] [] = .ok (.bytes #[(k3 * 16 + k2).toUInt8, (k1 * 16 + k0).toUInt8]) := by
  obtain ⟨f, hf⟩ : ∃ f, g1.fn 169 = some f := ⟨_, rfl⟩
  have e1 : ∀ n, (fns g1 (n + 9)).call (.obj 58) [.str ⟨#[hexD k3, hexD k2, hexD k1, hexD k0]⟩] [] = .ok (.bytes #[(hexD k3).toUInt8, (hexD k2).toUInt8, (hexD k1).toUInt8, (hexD k0).toUInt8]) := fun n => by
    rw [c_dec_str n ⟨#[hexD k3, hexD k2, hexD k1, hexD k0]⟩ (by simp [hexD_lt _ h3, hexD_lt _ h2, hexD_lt _ h1, hexD_lt _ h0]) (show 4 ≤ 1048576 by decide)]
    simp
  have e2 := fun n => c_unhex4 n _ _ _ _ _ _ _ _ (hexV_hexD k3 h3) (hexV_hexD k2 h2) (hexV_hexD k1 h1) (hexV_hexD k0 h0) h3 h2 h1 h0
  have e3 : methD .search (.obj 50) [.bytes #[(hexD k3).toUInt8, (hexD k2).toUInt8, (hexD k1).toUInt8, (hexD k0).toUInt8]] = some .none := by
    rw [md_search]
    simp [big_eq, isHex_hexD _ h3, isHex_hexD _ h2, isHex_hexD _ h1, isHex_hexD _ h0]
  clear h3 h2 h1 h0
  apply x_call (bs := [("s", .str ⟨#[hexD k3, hexD k2, hexD k1, hexD k0]⟩), ("casefold", .bool false)]) hf (by cases hf; rfl)
  (walk_at "kr"; with_reducible exact rfl)
  cases hf
  (repeat (first | (with_reducible first | exact xs_nil | apply x_exs | apply cd_f | apply sk_n) | (with_reducible apply xs_next; with_reducible apply x_set; (focus decide +kernel)) | (with_reducible apply xs_ret; with_reducible apply x_ret) | (with_reducible apply xs_step; with_reducible apply x_if) | ((try (walk_at "kr")); (repeat (refine .trans (by (simp -dsimp only [cb_int, ↓ite_and, ↓ite_or, ↓reduceIte, if_true, if_false, rK, Zd, Ze, Zn, Zo, Zp, *]; exact rfl)) ?_; (try (walk_at "kr")))); with_reducible exact rfl)))

end
section
theorem bitAnd_nat (a b : Nat) : Builtin.bitAnd (a : Int) (b : Int) = ((a &&& b : Nat) : Int) := by
  unfold Builtin.bitAnd
  rw [decide_eq_true (by omega), decide_eq_true (by omega)]
  simp only [Int.toNat_natCast]
theorem bitOr_nat (a b : Nat) : Builtin.bitOr (a : Int) (b : Int) = ((a ||| b : Nat) : Int) := by
  unfold Builtin.bitOr Builtin.bitAnd
  have h : ∀ a : Nat, decide (0 ≤ Builtin.bitNot (a : Int)) = false := fun a => decide_eq_false (by unfold Builtin.bitNot; omega)
  have h2 : ∀ x : Int, Builtin.bitNot (Builtin.bitNot x) = x := fun x => by unfold Builtin.bitNot; omega
  rw [h, h]
  simp only [h2, Int.toNat_natCast]
theorem mask_nat (a k : Nat) : a &&& (2 ^ k - 1) = a % 2 ^ k := Nat.and_two_pow_sub_one_eq_mod a k
theorem or_add (a b k : Nat) (h : b < 2 ^ k) : (a * 2 ^ k) ||| b = a * 2 ^ k + b := by
  rw [← Nat.shiftLeft_eq, Nat.shiftLeft_add_eq_or_of_lt h]
theorem fdiv_nat (a b : Nat) : Int.fdiv (a : Int) (b : Int) = ((a / b : Nat) : Int) := by
  rw [Int.fdiv_eq_ediv_of_nonneg _ (by omega)]; rfl
noncomputable def encC (k : Nat) : Nat := (B64.toList.getD k 0).toNat
theorem get_B64 (k : Nat) (h : k < 64) : getD (.bytes B64) (.int (k : Int)) = .ok (.int (encC k : Nat)) := by
  show (if 0 ≤ (k : Int) ∧ (k : Int) < (B64.size : Int) ∧ B64.size ≤ big then _ else _) = _
  rw [if_pos ⟨by omega, by show (k : Int) < 64; omega, by decide⟩]
  rfl
structure En where
  L : Nat
  bits : Int
  out : List D
  last : Option Nat
noncomputable def En.step (a : En) (b : UInt8) : En :=
  let L := a.L % 256 * 256 + b.toNat
  if a.bits = 0 then ⟨L, 2, a.out ++ [.int (encC (L / 4 % 64) : Nat)], some b.toNat⟩
  else if a.bits = 2 then ⟨L, 4, a.out ++ [.int (encC (L / 16 % 64) : Nat)], some b.toNat⟩
  else ⟨L, 0, a.out ++ [.int (encC (L / 64 % 64) : Nat)] ++ [.int (encC (L % 64) : Nat)], some b.toNat⟩
noncomputable def En.fin (a : En) : List D :=
  if a.bits = 2 then a.out ++ [.int (encC (a.L % 4 * 16) : Nat)] ++ [.int 61] ++ [.int 61]
  else if a.bits = 4 then a.out ++ [.int (encC (a.L % 16 * 4) : Nat)] ++ [.int 61]
  else a.out
noncomputable def En.st (x : Array UInt8) (a : En) : Sg := ([("data", .val (.bytes x)), ("newline", .val (.bool false)), ("bin_data", .val (.bytes x)), ("out", .ml a.out), ("leftbits", .val (.int a.bits)), ("leftchar", .val (.int a.L))] : Sg) ++ (match a.last with
  | none => []
  | some b => ([("b", .val (.int b))] : Sg))
theorem fold_inv {α β : Type} {step : α → β → α} {I : List β → α → Prop} : ∀ (l : List β) (a : α), I l a → (∀ a b r, I (b :: r) a → I r (step a b)) → I [] (l.foldl step a)
  | [], _, i, _ => i
  | b :: r, a, i, h => fold_inv r (step a b) (h a b r i) h
noncomputable def En.I (r : List UInt8) (a : En) : Prop := a.out.length + 2 * r.length ≤ 1000000 ∧ a.L < 65536 ∧ (a.bits = 0 ∨ a.bits = 2 ∨ a.bits = 4)
theorem En.I_step (a : En) (b : UInt8) (r : List UInt8) (h : En.I (b :: r) a) : En.I r (a.step b) := by
  obtain ⟨L, bits, out, last⟩ := a
  obtain ⟨i1, i2, i3⟩ := h
  have hb := b.toNat_lt
  dsimp only at i1 i2 i3
  simp only [List.length_cons] at i1
  have h0 : L % 256 * 256 + b.toNat < 65536 := by omega
  rcases i3 with rfl | rfl | rfl
  · exact ⟨by simp [En.step]; omega, by simpa [En.step] using h0, by simp [En.step]⟩
  · exact ⟨by simp [En.step]; omega, by simpa [En.step] using h0, by simp [En.step]⟩
  · exact ⟨by simp [En.step]; omega, by simpa [En.step] using h0, by simp [En.step]⟩
theorem c_b2a (n : Nat) (x : Array UInt8) (hx : x.size ≤ 1000) {res : Array UInt8} (hres : tyD "bytes" [.list (x.toList.foldl En.step ⟨0, 0, [], none⟩).fin] = some (.bytes res)) : (fns g1 (n + 30)).call (.obj 115) [.bytes x] [("newline", .bool false)] = .ok (.bytes res) := by
  obtain ⟨f, hf⟩ : ∃ f, g1.fn 115 = some f := ⟨_, rfl⟩
  have e1 := @c_buffer
  have e2 := @c_truth
  have e3 : x.size ≤ 1048576 := by omega
  have e4 : (x.toList.map fun y : UInt8 => D.int (y.toNat : Int)).length ≤ 1048576 := by simpa using e3
  have i0 : En.I x.toList ⟨0, 0, [], none⟩ := ⟨by simp; omega, by simp, .inl rfl⟩
  have iN := fold_inv x.toList _ i0 En.I_step
  have j6 : ∀ k : Nat, getD (.bytes B64) (.int ((k % 64 : Nat) : Int)) = .ok (.int (encC (k % 64) : Nat)) := fun k => get_B64 _ (Nat.mod_lt _ (by decide))
  apply x_callP (bs := [("data", .bytes x), ("newline", .bool false)]) hf (by cases hf; rfl)
  (walk_at "kr"; with_reducible exact rfl)
  cases hf
  (repeat (first | with_reducible apply xp_exs | (with_reducible apply xp_next; with_reducible apply x_newl; (focus decide +kernel)) | (with_reducible apply xp_next; with_reducible apply x_set; (focus decide +kernel)) | (with_reducible apply xp_step; with_reducible apply x_for; (focus decide +kernel)) | (with_reducible show (_ : Nat) ≤ _; with_reducible assumption) | ((try (walk_at "kr")); (repeat ((with_reducible show _ = _); refine .trans (by (simp -dsimp only [cb_int, ↓ite_and, ↓ite_or, ↓reduceIte, if_true, if_false, rK, Zd, Ze, Zn, Zo, Zp, *]; exact rfl)) ?_)); with_reducible exact rfl)))
  apply forL_run (En.st x) (fun y : UInt8 => D.int (y.toNat : Int)) En.step En.I x.toList ⟨0, 0, [], none⟩
  · rfl
  · exact i0
  · rintro ⟨L, bits, out, last⟩ b r hI
    refine ⟨En.I_step _ _ _ hI, .inl ?_⟩
    obtain ⟨i1, i2, i3⟩ := hI
    have hb := b.toNat_lt
    dsimp only at i1 i2 i3
    have i4 : out.length ≤ 1048576 := by omega
    have i5 : ∀ d : D, (out ++ [d]).length ≤ 1048576 := fun d => by rw [List.length_append, List.length_singleton]; omega
    have j1 : Builtin.bitAnd (Builtin.bitOr ((L : Int) * 256) (b.toNat : Int)) 65535 = ((L % 256 * 256 + b.toNat : Nat) : Int) := by
      rw [show (L : Int) * 256 = ((L * 2 ^ 8 : Nat) : Int) by push_cast; rfl, bitOr_nat, or_add _ _ _ hb, show (65535 : Int) = ((2 ^ 16 - 1 : Nat) : Int) from rfl, bitAnd_nat, mask_nat]
      congr 1
      omega
    have j0 : (L : Int).natAbs < 18446744073709551616 := by omega
    generalize hL : L % 256 * 256 + b.toNat = L' at j1
    have jm : ∀ k : Nat, Builtin.bitAnd (k : Int) 63 = ((k % 64 : Nat) : Int) := fun k => by
      rw [show (63 : Int) = ((2 ^ 6 - 1 : Nat) : Int) from rfl, bitAnd_nat, mask_nat]
    have j2 : Builtin.bitAnd (Int.fdiv (L' : Int) 4) 63 = ((L' / 4 % 64 : Nat) : Int) := by rw [show (4 : Int) = ((4 : Nat) : Int) from rfl, fdiv_nat, jm]
    have j3 : Builtin.bitAnd (Int.fdiv (L' : Int) 16) 63 = ((L' / 16 % 64 : Nat) : Int) := by rw [show (16 : Int) = ((16 : Nat) : Int) from rfl, fdiv_nat, jm]
    have j4 : Builtin.bitAnd (Int.fdiv (L' : Int) 64) 63 = ((L' / 64 % 64 : Nat) : Int) := by rw [show (64 : Int) = ((64 : Nat) : Int) from rfl, fdiv_nat, jm]
    have j5 : Builtin.bitAnd (Int.fdiv (L' : Int) 1) 63 = ((L' % 64 : Nat) : Int) := by rw [show (1 : Int) = ((1 : Nat) : Int) from rfl, fdiv_nat, jm, Nat.div_one]
    clear e1 e2 e3 e4 hx hb i0 iN i1 i2 hres
    rcases i3 with rfl | rfl | rfl
    · rw [show En.step ⟨L, 0, out, last⟩ b = ⟨L', 2, out ++ [.int (encC (L' / 4 % 64) : Nat)], some b.toNat⟩ by simp [En.step, hL]]
      clear hL
      apply x_body (σ1 := ([("data", .val (.bytes x)), ("newline", .val (.bool false)), ("bin_data", .val (.bytes x)), ("out", .ml out), ("leftbits", .val (.int 0)), ("leftchar", .val (.int L)), ("b", .val (.int b.toNat))] : Sg)) (by cases last <;> kernel_rfl!)
      (repeat (first | (with_reducible first | exact xs_nil | apply x_exs | apply cd_t | exact w_f | apply sk_n | apply w_n | apply w_step) | (with_reducible apply xs_nil'; kernel_rfl!) | (with_reducible apply xs_next; with_reducible apply x_set; (focus decide +kernel)) | (with_reducible apply xs_next; with_reducible apply x_app; (focus decide +kernel)) | (with_reducible apply xs_step; with_reducible apply x_while) | (with_reducible show (_ : Nat) ≤ _; (focus (simp -dsimp only [big_eq, *]; done))) | ((try (walk_at "kr")); (repeat (refine .trans (by (simp -dsimp only [cb_int, ↓ite_and, ↓ite_or, ↓reduceIte, if_true, if_false, rK, Zd, Ze, Zn, Zo, Zp, *]; exact rfl)) ?_; (try (walk_at "kr")))); with_reducible exact rfl)))
    · rw [show En.step ⟨L, 2, out, last⟩ b = ⟨L', 4, out ++ [.int (encC (L' / 16 % 64) : Nat)], some b.toNat⟩ by simp [En.step, hL]]
      clear hL
      apply x_body (σ1 := ([("data", .val (.bytes x)), ("newline", .val (.bool false)), ("bin_data", .val (.bytes x)), ("out", .ml out), ("leftbits", .val (.int 2)), ("leftchar", .val (.int L)), ("b", .val (.int b.toNat))] : Sg)) (by cases last <;> kernel_rfl!)
      (repeat (first | (with_reducible first | exact xs_nil | apply x_exs | apply cd_t | exact w_f | apply sk_n | apply w_n | apply w_step) | (with_reducible apply xs_nil'; kernel_rfl!) | (with_reducible apply xs_next; with_reducible apply x_set; (focus decide +kernel)) | (with_reducible apply xs_next; with_reducible apply x_app; (focus decide +kernel)) | (with_reducible apply xs_step; with_reducible apply x_while) | (with_reducible show (_ : Nat) ≤ _; (focus (simp -dsimp only [big_eq, *]; done))) | ((try (walk_at "kr")); (repeat (refine .trans (by (simp -dsimp only [cb_int, ↓ite_and, ↓ite_or, ↓reduceIte, if_true, if_false, rK, Zd, Ze, Zn, Zo, Zp, *]; exact rfl)) ?_; (try (walk_at "kr")))); with_reducible exact rfl)))
    · rw [show En.step ⟨L, 4, out, last⟩ b = ⟨L', 0, out ++ [.int (encC (L' / 64 % 64) : Nat)] ++ [.int (encC (L' % 64) : Nat)], some b.toNat⟩ by simp [En.step, hL]]
      clear hL
      apply x_body (σ1 := ([("data", .val (.bytes x)), ("newline", .val (.bool false)), ("bin_data", .val (.bytes x)), ("out", .ml out), ("leftbits", .val (.int 4)), ("leftchar", .val (.int L)), ("b", .val (.int b.toNat))] : Sg)) (by cases last <;> kernel_rfl!)
      (repeat (first | (with_reducible first | exact xs_nil | apply x_exs | apply cd_t | exact w_f | apply sk_n | apply w_n | apply w_step) | (with_reducible apply xs_nil'; kernel_rfl!) | (with_reducible apply xs_next; with_reducible apply x_set; (focus decide +kernel)) | (with_reducible apply xs_next; with_reducible apply x_app; (focus decide +kernel)) | (with_reducible apply xs_step; with_reducible apply x_while) | (with_reducible show (_ : Nat) ≤ _; (focus (simp -dsimp only [big_eq, *]; done))) | ((try (walk_at "kr")); (repeat (refine .trans (by (simp -dsimp only [cb_int, ↓ite_and, ↓ite_or, ↓reduceIte, if_true, if_false, rK, Zd, Ze, Zn, Zo, Zp, *]; exact rfl)) ?_; (try (walk_at "kr")))); with_reducible exact rfl)))
  · generalize x.toList.foldl En.step ⟨0, 0, [], none⟩ = a at iN hres
    obtain ⟨L, bits, out, last⟩ := a
    obtain ⟨i1, i2, i3⟩ := iN
    dsimp only at i1 i2 i3
    simp only [List.length_nil] at i1
    have i4 : out.length ≤ 1048576 := by omega
    have i5 : ∀ d : D, (out ++ [d]).length ≤ 1048576 := fun d => by rw [List.length_append, List.length_singleton]; omega
    have i6 : ∀ d e : D, (out ++ [d] ++ [e]).length ≤ 1048576 := fun d e => by rw [List.length_append, List.length_append, List.length_singleton]; simp only [List.length_singleton]; omega
    have j3 : Builtin.bitAnd (L : Int) 3 = ((L % 4 : Nat) : Int) := by rw [show (3 : Int) = ((2 ^ 2 - 1 : Nat) : Int) from rfl, bitAnd_nat, mask_nat]
    have j15 : Builtin.bitAnd (L : Int) 15 = ((L % 16 : Nat) : Int) := by rw [show (15 : Int) = ((2 ^ 4 - 1 : Nat) : Int) from rfl, bitAnd_nat, mask_nat]
    have k3 : ((L % 4 : Nat) : Int).natAbs < 18446744073709551616 := by omega
    have k15 : ((L % 16 : Nat) : Int).natAbs < 18446744073709551616 := by omega
    have m3 : getD (.bytes B64) (.int (((L % 4 : Nat) : Int) * 16)) = .ok (.int (encC (L % 4 * 16) : Nat)) := by
      rw [show ((L % 4 : Nat) : Int) * 16 = ((L % 4 * 16 : Nat) : Int) by push_cast; rfl]; exact get_B64 _ (by omega)
    have m15 : getD (.bytes B64) (.int (((L % 16 : Nat) : Int) * 4)) = .ok (.int (encC (L % 16 * 4) : Nat)) := by
      rw [show ((L % 16 : Nat) : Int) * 4 = ((L % 16 * 4 : Nat) : Int) by push_cast; rfl]; exact get_B64 _ (by omega)
    clear e1 e2 e3 e4 hx i0 i1 i2
    rcases i3 with rfl | rfl | rfl
    · have hr : tyD "bytes" [.list out] = some (.bytes res) := hres
      clear hres
      cases last <;> (simp only [En.st]; (repeat (first | (with_reducible first | exact xs_nil | apply x_exs | apply rt_ret | apply cd_f | apply sk_n | apply xp_skn) | (with_reducible apply xs_step; with_reducible apply x_if) | (with_reducible apply xp_step; with_reducible apply x_if) | (with_reducible apply cd_fh; refine Bool.eq_false_iff.mp ?_; kernel_rfl!) | ((try (walk_at "kr")); (repeat ((with_reducible show _ = _); refine .trans (by (simp -dsimp only [cb_int, ↓ite_and, ↓ite_or, ↓reduceIte, if_true, if_false, rK, Zd, Ze, Zn, Zo, Zp, *]; exact rfl)) ?_; (try (walk_at "kr")))); with_reducible exact rfl))))
    · have hr : tyD "bytes" [.list (out ++ [.int (encC (L % 4 * 16) : Nat)] ++ [.int 61] ++ [.int 61])] = some (.bytes res) := hres
      clear hres
      cases last <;> (simp only [En.st]; (repeat (first | (with_reducible first | exact xs_nil | apply x_exs | apply rt_ret | apply cd_f | apply xp_skn) | (with_reducible apply xs_next; with_reducible apply x_app; (focus decide +kernel)) | (with_reducible apply xp_step; with_reducible apply x_if) | (with_reducible apply cd_th; kernel_rfl!) | (with_reducible show (_ : Nat) ≤ _; (focus (simp -dsimp only [big_eq, *]; done))) | ((try (walk_at "kr")); (repeat ((with_reducible show _ = _); refine .trans (by (simp -dsimp only [cb_int, ↓ite_and, ↓ite_or, ↓reduceIte, if_true, if_false, rK, Zd, Ze, Zn, Zo, Zp, *]; exact rfl)) ?_; (try (walk_at "kr")))); with_reducible exact rfl))))
    · have hr : tyD "bytes" [.list (out ++ [.int (encC (L % 16 * 4) : Nat)] ++ [.int 61])] = some (.bytes res) := hres
      clear hres
      cases last <;> (simp only [En.st]; (repeat (first | (with_reducible first | exact xs_nil | apply x_exs | apply rt_ret | apply cd_f | apply sk_n | apply xp_skn) | (with_reducible apply xs_next; with_reducible apply x_app; (focus decide +kernel)) | (with_reducible apply xs_step; with_reducible apply x_if) | (with_reducible apply xp_step; with_reducible apply x_if) | (with_reducible apply cd_th; kernel_rfl!) | (with_reducible apply cd_fh; refine Bool.eq_false_iff.mp ?_; kernel_rfl!) | (with_reducible show (_ : Nat) ≤ _; (focus (simp -dsimp only [big_eq, *]; done))) | ((try (walk_at "kr")); (repeat ((with_reducible show _ = _); refine .trans (by (simp -dsimp only [cb_int, ↓ite_and, ↓ite_or, ↓reduceIte, if_true, if_false, rK, Zd, Ze, Zn, Zo, Zp, *]; exact rfl)) ?_; (try (walk_at "kr")))); with_reducible exact rfl))))

end
section
noncomputable def mkTab (a b : Array UInt8) : Array UInt8 := (a.toList.zip b.toList).foldl (fun t p => t.setIfInBounds p.1.toNat p.2) ((Array.range 256).map (·.toUInt8))
theorem mkTab_size (a b : Array UInt8) : (mkTab a b).size = 256 := by
  have : ∀ (l : List (UInt8 × UInt8)) (t : Array UInt8), (l.foldl (fun t p => t.setIfInBounds p.1.toNat p.2) t).size = t.size := by
    intro l
    induction l with
    | nil => intro t; rfl
    | cons p r ih => intro t; rw [List.foldl_cons, ih, Array.size_setIfInBounds]
  unfold mkTab
  rw [this]
  simp
noncomputable def enc64 (x : Array UInt8) : D := .list (x.toList.foldl En.step ⟨0, 0, [], none⟩).fin
theorem c_b64ea (n : Nat) (x : Array UInt8) (a b : UInt8) (hx : x.size ≤ 1000) {res : Array UInt8} (hres : tyD "bytes" [enc64 x] = some (.bytes res)) (hs : res.size ≤ 1048576) : (fns g1 (n + 40)).call (.obj 146) [.bytes x, .bytes #[a, b]] [] = .ok (.bytes (res.map fun y => (mkTab #[43, 47] #[a, b]).getD y.toNat y)) := by
  obtain ⟨f, hf⟩ : ∃ f, g1.fn 146 = some f := ⟨_, rfl⟩
  have e1 := fun n => c_b2a n x hx hres
  have e2 : biD "len" [.bytes #[a, b]] = some (.int 2) := rfl
  have e3 : methD .maketrans (.type "bytes") [.bytes #[43, 47], .bytes #[a, b]] = some (.bytes (mkTab #[43, 47] #[a, b])) := rfl
  have e4 := mkTab_size #[43, 47] #[a, b]
  apply x_call (bs := [("s", .bytes x), ("altchars", .bytes #[a, b])]) hf (by cases hf; rfl)
  (walk_at "kr"; with_reducible exact rfl)
  cases hf
  (repeat (first | (with_reducible first | apply x_exs | apply cd_t | exact sk_r) | (with_reducible apply xs_next; with_reducible apply x_set; (focus decide +kernel)) | (with_reducible apply xs_next; with_reducible apply x_asr) | (with_reducible apply xs_ret; with_reducible apply x_ret) | (with_reducible apply xs_step; with_reducible apply x_if) | ((try (walk_at "kr")); (repeat (refine .trans (by (simp -dsimp only [cb_int, ↓ite_and, ↓ite_or, ↓reduceIte, if_true, if_false, rK, Zd, Ze, Zn, Zo, Zp, *]; exact rfl)) ?_; (try (walk_at "kr")))); (first | with_reducible exact rfl | kernel_rfl!))))

end
section
structure De where
  q : Int
  L : Nat
  i : Int
  out : List D
  last : Option Nat
noncomputable def vOf (c : UInt8) : Nat := (b64V (c.toNat : Int)).toNat
noncomputable def De.step (a : De) (c : UInt8) : De :=
  let v := vOf c
  if a.q = 0 then ⟨1, v, a.i + 1, a.out, some v⟩
  else if a.q = 1 then ⟨2, v % 16, a.i + 1, a.out ++ [.int (a.L * 4 + v / 16 : Nat)], some v⟩
  else if a.q = 2 then ⟨3, v % 4, a.i + 1, a.out ++ [.int (a.L * 16 + v / 4 : Nat)], some v⟩
  else ⟨0, 0, a.i + 1, a.out ++ [.int (a.L * 64 + v : Nat)], some v⟩
noncomputable def De.st (x : Array UInt8) (sm : Bool) (a : De) : Sg := ([("data", .val (.bytes x)), ("strict_mode", .val (.bool sm)), ("ascii_data", .val (.bytes x)), ("out", .ml a.out), ("quad_pos", .val (.int a.q)), ("leftchar", .val (.int a.L)), ("pads", .val (.int 0)), ("i", .val (.int a.i))] : Sg) ++ (match a.last with
  | none => []
  | some b => ([("this_ch", .val (.int b))] : Sg))
noncomputable def De.I (r : List UInt8) (a : De) : Prop := a.out.length + r.length ≤ 1000000 ∧ a.L < 64 ∧ (a.q = 0 ∨ a.q = 1 ∨ a.q = 2 ∨ a.q = 3) ∧ ∀ c ∈ r, c ≠ 61 ∧ b64V (c.toNat : Int) < 64
theorem b64V_nn (c : UInt8) : 0 ≤ b64V (c.toNat : Int) := by
  unfold b64V; repeat' split
  all_goals omega
theorem De.I_step (a : De) (b : UInt8) (r : List UInt8) (h : De.I (b :: r) a) : De.I r (a.step b) := by
  obtain ⟨q, L, i, out, last⟩ := a
  obtain ⟨i1, i2, i3, i4⟩ := h
  have hb := (i4 b (List.mem_cons_self ..)).2
  have hn := b64V_nn b
  have hv : vOf b < 64 := by unfold vOf; omega
  have i5 : ∀ c ∈ r, c ≠ 61 ∧ b64V (c.toNat : Int) < 64 := fun c m => i4 c (List.mem_cons_of_mem _ m)
  dsimp only at i1 i2 i3
  simp only [List.length_cons] at i1
  rcases i3 with rfl | rfl | rfl | rfl
  · exact ⟨by simp [De.step]; omega, by simpa [De.step] using hv, by simp [De.step], i5⟩
  · exact ⟨by simp [De.step]; omega, by simp [De.step]; omega, by simp [De.step], i5⟩
  · exact ⟨by simp [De.step]; omega, by simp [De.step]; omega, by simp [De.step], i5⟩
  · exact ⟨by simp [De.step]; omega, by simp [De.step], by simp [De.step], i5⟩
theorem bor0 (L v : Nat) (h : v < 64) : Builtin.bitOr ((L : Int) * 64) (v : Int) = ((L * 64 + v : Nat) : Int) := by
  rw [show (L : Int) * 64 = ((L * 2 ^ 6 : Nat) : Int) by push_cast; rfl, bitOr_nat, or_add _ _ 6 h]
theorem bor_ (L v j k : Nat) (hjk : j + k = 6) (h : v < 64) : Builtin.bitOr ((L : Int) * ((2 ^ j : Nat) : Int)) (Int.fdiv (v : Int) ((2 ^ k : Nat) : Int)) = ((L * 2 ^ j + v / 2 ^ k : Nat) : Int) := by
  rw [show (L : Int) * ((2 ^ j : Nat) : Int) = ((L * 2 ^ j : Nat) : Int) from (Int.natCast_mul ..).symm, fdiv_nat, bitOr_nat, or_add _ _ j ?_]
  exact Nat.div_lt_of_lt_mul (by rw [← Nat.pow_add, Nat.add_comm, hjk]; exact h)
theorem band_ (v k : Nat) : Builtin.bitAnd (v : Int) ((2 ^ k - 1 : Nat) : Int) = ((v % 2 ^ k : Nat) : Int) := by rw [bitAnd_nat, mask_nat]
theorem c_a2b (n : Nat) (x : Array UInt8) (sm : Bool) (hx : x.size ≤ 1000) (hc : ∀ c ∈ x.toList, c ≠ 61 ∧ b64V (c.toNat : Int) < 64) {r : R D}
    (h0 : (x.toList.foldl De.step ⟨0, 0, 0, [], none⟩).q = 0 → R.of (tyD "bytes" [.list (x.toList.foldl De.step ⟨0, 0, 0, [], none⟩).out]) = r)
    (h1 : (x.toList.foldl De.step ⟨0, 0, 0, [], none⟩).q ≠ 1)
    (h2 : (x.toList.foldl De.step ⟨0, 0, 0, [], none⟩).q ≠ 0 → r = .exc (.ref 68) "Incorrect padding") : (fns g1 (n + 30)).call (.obj 107) [.bytes x] [("strict_mode", .bool sm)] = r := by
  obtain ⟨f, hf⟩ : ∃ f, g1.fn 107 = some f := ⟨_, rfl⟩
  have e1 := @c_ascii
  have e2 := @c_truth
  have e3 : (x.toList.map fun y : UInt8 => D.int (y.toNat : Int)).length ≤ 1048576 := by simp; omega
  have i0 : De.I x.toList ⟨0, 0, 0, [], none⟩ := ⟨by simp; omega, by simp, .inl rfl, hc⟩
  have iN := fold_inv x.toList _ i0 De.I_step
  generalize hN : x.toList.foldl De.step ⟨0, 0, 0, [], none⟩ = aN at h0 h1 h2 iN
  have i0' := i0
  clear i0 hx
  apply x_callP (bs := [("data", .bytes x), ("strict_mode", .bool sm)]) hf (by cases hf; rfl)
  (walk_at "kr"; with_reducible exact rfl)
  cases hf
  (repeat (first | with_reducible apply xp_exs | (with_reducible apply xp_next; with_reducible apply x_newl; (focus decide +kernel)) | (with_reducible apply xp_next; with_reducible apply x_set; (focus decide +kernel)) | (with_reducible apply xp_step; with_reducible apply x_for; (focus decide +kernel)) | (with_reducible show (_ : Nat) ≤ _; with_reducible assumption) | ((try (walk_at "kr")); (repeat ((with_reducible show _ = _); refine .trans (by (simp -dsimp only [cb_int, ↓ite_and, ↓ite_or, ↓reduceIte, if_true, if_false, rK, Zd, Ze, Zn, Zo, Zp, *]; exact rfl)) ?_)); with_reducible exact rfl)))
  apply forL_run (De.st x sm) (fun y : UInt8 => D.int (y.toNat : Int)) De.step De.I x.toList ⟨0, 0, 0, [], none⟩
  · rfl
  · exact i0'
  · rintro ⟨q, L, i, out, last⟩ b r hI
    refine ⟨De.I_step _ _ _ hI, .inl ?_⟩
    obtain ⟨i1, i2, i3, i4⟩ := hI
    have hb := i4 b (List.mem_cons_self ..)
    have hn := b64V_nn b
    dsimp only at i1 i2 i3
    have i5 : out.length ≤ 1048576 := by omega
    have hv : b64V (b.toNat : Int) = (vOf b : Nat) := by unfold vOf; omega
    have v64 : vOf b < 64 := by omega
    have h61 : ¬ (b.toNat : Int) = 61 := fun e => hb.1 (UInt8.toNat_inj.mp (by simpa using (by omega : b.toNat = 61)))
    have e4 := @c_b64v
    generalize hV : vOf b = v at hv v64
    have k64 : ¬ (64 : Int) ≤ (v : Int) := by omega
    have j0 : (L : Int).natAbs < 18446744073709551616 := by omega
    have j1 : Builtin.bitOr ((L : Int) * 4) (Int.fdiv (v : Int) 16) = ((L * 4 + v / 16 : Nat) : Int) := bor_ L v 2 4 (by decide) (by omega)
    have j2 : Builtin.bitOr ((L : Int) * 16) (Int.fdiv (v : Int) 4) = ((L * 16 + v / 4 : Nat) : Int) := bor_ L v 4 2 (by decide) (by omega)
    have j4 : Builtin.bitOr ((L : Int) * 64) (v : Int) = ((L * 64 + v : Nat) : Int) := bor0 L v (by omega)
    have j15 : Builtin.bitAnd (v : Int) 15 = ((v % 16 : Nat) : Int) := band_ v 4
    have j3 : Builtin.bitAnd (v : Int) 3 = ((v % 4 : Nat) : Int) := band_ v 2
    clear e1 e2 e3 hc h0 h1 h2 hN iN i0' i1 i2 i4 hb hn v64
    rcases i3 with rfl | rfl | rfl | rfl
    · rw [show De.step ⟨0, L, i, out, last⟩ b = ⟨1, v, i + 1, out, some v⟩ by simp [De.step, hV]]
      clear hV
      apply x_body (σ1 := ([("data", .val (.bytes x)), ("strict_mode", .val (.bool sm)), ("ascii_data", .val (.bytes x)), ("out", .ml out), ("quad_pos", .val (.int 0)), ("leftchar", .val (.int L)), ("pads", .val (.int 0)), ("i", .val (.int i)), ("this_ch", .val (.int b.toNat))] : Sg)) (by cases last <;> kernel_rfl!)
      (repeat (first | (with_reducible first | exact xs_nil | apply x_exs | apply cd_f | apply sk_n) | (with_reducible apply xs_nil'; kernel_rfl!) | (with_reducible apply xs_next; with_reducible apply x_set; (focus decide +kernel)) | (with_reducible apply xs_step; with_reducible apply x_if) | (with_reducible apply cd_th; kernel_rfl!) | (with_reducible apply cd_fh; (focus (simp -dsimp only [rK, *]; done))) | ((try (walk_at "kr")); (repeat (refine .trans (by (simp -dsimp only [cb_int, ↓ite_and, ↓ite_or, ↓reduceIte, if_true, if_false, rK, Zd, Ze, Zn, Zo, Zp, *]; exact rfl)) ?_)); with_reducible exact rfl)))
    · rw [show De.step ⟨1, L, i, out, last⟩ b = ⟨2, v % 16, i + 1, out ++ [.int (L * 4 + v / 16 : Nat)], some v⟩ by simp [De.step, hV]]
      clear hV
      apply x_body (σ1 := ([("data", .val (.bytes x)), ("strict_mode", .val (.bool sm)), ("ascii_data", .val (.bytes x)), ("out", .ml out), ("quad_pos", .val (.int 1)), ("leftchar", .val (.int L)), ("pads", .val (.int 0)), ("i", .val (.int i)), ("this_ch", .val (.int b.toNat))] : Sg)) (by cases last <;> kernel_rfl!)
      (repeat (first | (with_reducible first | exact xs_nil | apply x_exs | apply cd_f | apply sk_n) | (with_reducible apply xs_nil'; kernel_rfl!) | (with_reducible apply xs_next; with_reducible apply x_set; (focus decide +kernel)) | (with_reducible apply xs_next; with_reducible apply x_app; (focus decide +kernel)) | (with_reducible apply xs_step; with_reducible apply x_if) | (with_reducible apply cd_th; kernel_rfl!) | (with_reducible apply cd_fh; refine Bool.eq_false_iff.mp ?_; kernel_rfl!) | (with_reducible apply cd_fh; (focus (simp -dsimp only [rK, *]; done))) | (with_reducible show (_ : Nat) ≤ _; (focus (simp -dsimp only [big_eq, *]; done))) | ((try (walk_at "kr")); (repeat (refine .trans (by (simp -dsimp only [cb_int, ↓ite_and, ↓ite_or, ↓reduceIte, if_true, if_false, rK, Zd, Ze, Zn, Zo, Zp, *]; exact rfl)) ?_; (try (walk_at "kr")))); with_reducible exact rfl)))
    · rw [show De.step ⟨2, L, i, out, last⟩ b = ⟨3, v % 4, i + 1, out ++ [.int (L * 16 + v / 4 : Nat)], some v⟩ by simp [De.step, hV]]
      clear hV
      apply x_body (σ1 := ([("data", .val (.bytes x)), ("strict_mode", .val (.bool sm)), ("ascii_data", .val (.bytes x)), ("out", .ml out), ("quad_pos", .val (.int 2)), ("leftchar", .val (.int L)), ("pads", .val (.int 0)), ("i", .val (.int i)), ("this_ch", .val (.int b.toNat))] : Sg)) (by cases last <;> kernel_rfl!)
      (repeat (first | (with_reducible first | exact xs_nil | apply x_exs | apply cd_f | apply sk_n) | (with_reducible apply xs_nil'; kernel_rfl!) | (with_reducible apply xs_next; with_reducible apply x_set; (focus decide +kernel)) | (with_reducible apply xs_next; with_reducible apply x_app; (focus decide +kernel)) | (with_reducible apply xs_step; with_reducible apply x_if) | (with_reducible apply cd_th; kernel_rfl!) | (with_reducible apply cd_fh; refine Bool.eq_false_iff.mp ?_; kernel_rfl!) | (with_reducible apply cd_fh; (focus (simp -dsimp only [rK, *]; done))) | (with_reducible show (_ : Nat) ≤ _; (focus (simp -dsimp only [big_eq, *]; done))) | ((try (walk_at "kr")); (repeat (refine .trans (by (simp -dsimp only [cb_int, ↓ite_and, ↓ite_or, ↓reduceIte, if_true, if_false, rK, Zd, Ze, Zn, Zo, Zp, *]; exact rfl)) ?_; (try (walk_at "kr")))); with_reducible exact rfl)))
    · rw [show De.step ⟨3, L, i, out, last⟩ b = ⟨0, 0, i + 1, out ++ [.int (L * 64 + v : Nat)], some v⟩ by simp [De.step, hV]]
      clear hV
      apply x_body (σ1 := ([("data", .val (.bytes x)), ("strict_mode", .val (.bool sm)), ("ascii_data", .val (.bytes x)), ("out", .ml out), ("quad_pos", .val (.int 3)), ("leftchar", .val (.int L)), ("pads", .val (.int 0)), ("i", .val (.int i)), ("this_ch", .val (.int b.toNat))] : Sg)) (by cases last <;> kernel_rfl!)
      (repeat (first | (with_reducible first | exact xs_nil | apply x_exs | apply cd_f | apply sk_n) | (with_reducible apply xs_nil'; kernel_rfl!) | (with_reducible apply xs_next; with_reducible apply x_set; (focus decide +kernel)) | (with_reducible apply xs_next; with_reducible apply x_app; (focus decide +kernel)) | (with_reducible apply xs_step; with_reducible apply x_if) | (with_reducible apply cd_fh; refine Bool.eq_false_iff.mp ?_; kernel_rfl!) | (with_reducible apply cd_fh; (focus (simp -dsimp only [rK, *]; done))) | (with_reducible show (_ : Nat) ≤ _; (focus (simp -dsimp only [big_eq, *]; done))) | ((try (walk_at "kr")); (repeat (refine .trans (by (simp -dsimp only [cb_int, ↓ite_and, ↓ite_or, ↓reduceIte, if_true, if_false, rK, Zd, Ze, Zn, Zo, Zp, *]; exact rfl)) ?_; (try (walk_at "kr")))); with_reducible exact rfl)))
  · rw [hN]
    obtain ⟨q, L, i, out, last⟩ := aN
    obtain ⟨i1, i2, i3, i4⟩ := iN
    dsimp only at i1 i2 i3 h0 h1 h2
    clear e1 e2 e3 hc hN i0' i1 i2 i4
    rcases i3 with rfl | rfl | rfl | rfl
    · have h0 := h0 rfl
      subst h0
      clear h1 h2
      cases last <;> (simp only [De.st]; (repeat (first | (with_reducible first | exact xs_nil | apply x_exs | apply rt_ret | apply cd_f | apply xp_skn) | (with_reducible apply xp_step; with_reducible apply x_if) | (with_reducible apply cd_fh; refine Bool.eq_false_iff.mp ?_; kernel_rfl!) | (walk_at "kr"; with_reducible exact rfl))))
    · exact absurd rfl h1
    · have h2 := h2 (by decide)
      subst h2
      clear h0 h1
      cases last <;> (simp only [De.st]; (repeat (first | (with_reducible first | exact xs_nil | apply x_exs | apply xp_skn) | (with_reducible apply rt_ifr; (focus (walk_at "kr"; with_reducible exact rfl)); kernel_rfl!) | (with_reducible apply xp_step; with_reducible apply x_if) | (with_reducible apply cd_fh; refine Bool.eq_false_iff.mp ?_; kernel_rfl!) | (walk_at "kr"; with_reducible exact rfl))))
    · have h2 := h2 (by decide)
      subst h2
      clear h0 h1
      cases last <;> (simp only [De.st]; (repeat (first | (with_reducible first | exact xs_nil | apply x_exs | apply xp_skn) | (with_reducible apply rt_ifr; (focus (walk_at "kr"; with_reducible exact rfl)); kernel_rfl!) | (with_reducible apply xp_step; with_reducible apply x_if) | (with_reducible apply cd_fh; refine Bool.eq_false_iff.mp ?_; kernel_rfl!) | (walk_at "kr"; with_reducible exact rfl))))

end
section
theorem c_b64da (n : Nat) (s : Str) (a b : UInt8) (h : (s.cps.all fun x => decide (x < 128)) = true) (h' : s.length ≤ 1000) {r : R D}
    (hr : ∀ n, (fns g1 (n + 30)).call (.obj 107) [.bytes ((s.cps.map (·.toUInt8)).map fun y => (mkTab #[a, b] #[43, 47]).getD y.toNat y)] [("strict_mode", .bool false)] = r) (hne : r ≠ .bad) :
    (fns g1 (n + 40)).call (.obj 154) [.str s, .bytes #[a, b]] [] = r := by
  obtain ⟨f, hf⟩ : ∃ f, g1.fn 154 = some f := ⟨_, rfl⟩
  have h2 : s.length ≤ 1048576 := by omega
  have e0 : ∀ n, (fns g1 (n + 9)).call (.obj 58) [.str s] [] = .ok (.bytes (s.cps.map (·.toUInt8))) := fun n => c_dec_str n s h h2
  have e1 := @c_dec_bytes
  have e2 : biD "len" [.bytes #[a, b]] = some (.int 2) := rfl
  have e3 : methD .maketrans (.type "bytes") [.bytes #[a, b], .bytes #[43, 47]] = some (.bytes (mkTab #[a, b] #[43, 47])) := rfl
  have e4 := mkTab_size #[a, b] #[43, 47]
  have e5 : (s.cps.map (·.toUInt8)).size ≤ 1048576 := by simpa [Str.length] using h2
  generalize s.cps.map (·.toUInt8) = y at *
  clear h h' h2
  apply x_callP (bs := [("s", .str s), ("altchars", .bytes #[a, b]), ("validate", .bool false)]) hf (by cases hf; rfl)
  (walk_at "kr"; with_reducible exact rfl)
  cases hf
  (repeat (first | (with_reducible first | exact xs_nil | apply x_exs | apply xp_exs | apply rt_ret | apply cd_t | apply xp_skn) | (with_reducible apply xs_next; with_reducible apply x_set; (focus decide +kernel)) | (with_reducible apply xs_next; with_reducible apply x_asr) | (with_reducible apply xp_next; with_reducible apply x_set; (focus decide +kernel)) | (with_reducible apply xp_step; with_reducible apply x_if) | ((try (walk_at "kr")); (repeat ((with_reducible show _ = _); refine .trans (by (simp -dsimp only [cb_int, ↓ite_and, ↓ite_or, ↓reduceIte, if_true, if_false, rK, Zd, Ze, Zn, Zo, Zp, *]; exact rfl)) ?_; (try (walk_at "kr")))); (first | with_reducible exact rfl | kernel_rfl!))))

end
section
theorem c_told_ok (n : Nat) (s : Str) (ab y : Array UInt8) (h : ∀ n, (fns g1 (n + 40)).call (.obj 154) [.str s, .bytes ab] [] = .ok (.bytes y)) : (fns g1 (n + 60)).call (.obj 208) [.str s, .bytes ab] [] = .ok (.bytes y) := by
  obtain ⟨f, hf⟩ : ∃ f, g1.fn 208 = some f := ⟨_, rfl⟩
  apply x_callP (bs := [("text", .str s), ("altchars", .bytes ab)]) hf (by cases hf; rfl)
  (walk_at "kr"; with_reducible exact rfl)
  cases hf
  (repeat (with_reducible apply xp_exs))
  with_reducible apply xp_next
  with_reducible apply x_tryn
  (repeat (first | (with_reducible first | exact xs_nil | apply x_exs | apply rt_ret) | (with_reducible apply xs_next; with_reducible apply x_set; (focus decide +kernel)) | ((try (walk_at "kr")); (repeat ((with_reducible show _ = _); refine .trans (by (simp -dsimp only [cb_int, ↓ite_and, ↓ite_or, ↓reduceIte, if_true, if_false, rK, Zd, Ze, Zn, Zo, Zp, *]; exact rfl)) ?_)); with_reducible exact rfl)))
theorem c_told_exc (n : Nat) (s m : Str) (ab : Array UInt8) (h : ∀ n, (fns g1 (n + 40)).call (.obj 154) [.str s, .bytes ab] [] = .exc (.ref 68) m) : (fns g1 (n + 60)).call (.obj 208) [.str s, .bytes ab] [] = .ok (.str m) := by
  obtain ⟨f, hf⟩ : ∃ f, g1.fn 208 = some f := ⟨_, rfl⟩
  apply x_callP (bs := [("text", .str s), ("altchars", .bytes ab)]) hf (by cases hf; rfl)
  (walk_at "kr"; with_reducible exact rfl)
  cases hf
  (repeat (with_reducible apply xp_exs))
  with_reducible apply xp_step
  apply x_tryx (c := .ref 68) (m := m) (f := .ret (.str m))
  · with_reducible apply x_exs
    with_reducible apply xs_exc
    with_reducible apply x_setx
    · decide +kernel
    (repeat (((try (walk_at "kr")); (repeat (refine .trans (by (simp -dsimp only [cb_int, ↓ite_and, ↓ite_or, ↓reduceIte, if_true, if_false, rK, Zd, Ze, Zn, Zo, Zp, *]; exact rfl)) ?_)); with_reducible exact rfl)))
  · kernel_rfl!
  (repeat (with_reducible exact rt_sk))

end
section
theorem c_list_ok (n : Nat) (items : List D) (l : List (Str × D)) (hl : l.length ≤ 1048576) (h : ∀ n, (fns g1 (n + 30)).call (.obj 45) [.list items] [] = .ok (.dict l)) : (fns g1 (n + 50)).call (.obj 215) [.list items] [] = .ok (.list (l.map fun p => .tuple [.str p.1, p.2])) := by
  obtain ⟨f, hf⟩ : ∃ f, g1.fn 215 = some f := ⟨_, rfl⟩
  apply x_callP (bs := [("items", .list items)]) hf (by cases hf; rfl)
  (walk_at "kr"; with_reducible exact rfl)
  cases hf
  (repeat (with_reducible apply xp_exs))
  with_reducible apply xp_step
  with_reducible apply x_tryr
  (repeat (first | (with_reducible first | apply x_exs | exact rt_sk) | (with_reducible apply xs_ret; with_reducible apply x_ret) | ((try (walk_at "kr")); (repeat ((with_reducible show _ = _); refine .trans (by (simp -dsimp only [cb_int, ↓ite_and, ↓ite_or, ↓reduceIte, if_true, if_false, rK, Zd, Ze, Zn, Zo, Zp, *]; exact rfl)) ?_; (try (walk_at "kr")))); with_reducible exact rfl)))
theorem c_list_ix (n : Nat) (items : List D) (m : Str) (h : ∀ n, (fns g1 (n + 30)).call (.obj 45) [.list items] [] = .exc (.type "IndexError") m) : (fns g1 (n + 50)).call (.obj 215) [.list items] [] = .ok (.str "IndexError") := by
  obtain ⟨f, hf⟩ : ∃ f, g1.fn 215 = some f := ⟨_, rfl⟩
  apply x_callP (bs := [("items", .list items)]) hf (by cases hf; rfl)
  (walk_at "kr"; with_reducible exact rfl)
  cases hf
  (repeat (with_reducible apply xp_exs))
  with_reducible apply xp_step
  apply x_tryx (c := .type "IndexError") (m := m) (f := .ret (.str "IndexError"))
  · (repeat (first | with_reducible apply x_exs | (with_reducible apply xs_exc; with_reducible apply x_retx) | ((try (walk_at "kr")); (repeat (refine .trans (by (simp -dsimp only [cb_int, ↓ite_and, ↓ite_or, ↓reduceIte, if_true, if_false, rK, Zd, Ze, Zn, Zo, Zp, *]; exact rfl)) ?_; (try (walk_at "kr")))); with_reducible exact rfl)))
  · kernel_rfl!
  (repeat (with_reducible exact rt_sk))

end
section
theorem strL_map : ∀ l : List Str, strL (l.map .str) = some l
  | [] => rfl
  | s :: r => by rw [List.map_cons, strL, strL_map r]; rfl
theorem c_read_no (n : Nat) (l : List D) (h : l.length ≤ 1000) (h2 : ¬ Int.fmod (l.length : Int) 4 = 0) : (fns g1 (n + 40)).call (.obj 201) [.list l] [] = .ok (.str "Incorrect padding") := by
  obtain ⟨f, hf⟩ : ∃ f, g1.fn 201 = some f := ⟨_, rfl⟩
  have h3 : l.length ≤ 1048576 := by omega
  apply x_call (bs := [("figures", .list l)]) hf (by cases hf; rfl)
  (walk_at "kr"; with_reducible exact rfl)
  cases hf
  (repeat (first | with_reducible apply x_exs | (with_reducible apply xs_ret; with_reducible apply x_ret) | ((try (walk_at "kr")); (repeat (refine .trans (by (simp -dsimp only [cb_int, ↓ite_and, ↓ite_or, ↓reduceIte, if_true, if_false, rK, Zd, Ze, Zn, Zo, Zp, *]; exact rfl)) ?_; (try (walk_at "kr")))); with_reducible exact rfl)))
theorem c_read_ok (n : Nat) (l : List D) (d : D) (h : l.length ≤ 1000) (h2 : Int.fmod (l.length : Int) 4 = 0) (h4 : ∀ n, (fns g1 (n + 30)).call (.obj 179) [.list l] [] = .ok d) : (fns g1 (n + 40)).call (.obj 201) [.list l] [] = .ok d := by
  obtain ⟨f, hf⟩ : ∃ f, g1.fn 201 = some f := ⟨_, rfl⟩
  have h3 : l.length ≤ 1048576 := by omega
  apply x_call (bs := [("figures", .list l)]) hf (by cases hf; rfl)
  (walk_at "kr"; with_reducible exact rfl)
  cases hf
  (repeat (first | with_reducible apply x_exs | (with_reducible apply xs_ret; with_reducible apply x_ret) | ((try (walk_at "kr")); (repeat (refine .trans (by (simp -dsimp only [cb_int, ↓ite_and, ↓ite_or, ↓reduceIte, if_true, if_false, rK, Zd, Ze, Zn, Zo, Zp, *]; exact rfl)) ?_; (try (walk_at "kr")))); with_reducible exact rfl)))

end
section
noncomputable def cnt (n : Nat) : Nat := 4 + n % 2 * 4
noncomputable def behind (n : Nat) : Nat := cnt n - n / 10 % 5
noncomputable def figs (n q : Nat) : List Nat := (List.range (cnt n)).map fun p => if n / 2 % 5 ≤ p ∧ p < behind n then (n / 50 + 5 * p) % 64 else q
noncomputable def nD (l : List Nat) : D := .list (l.map fun k : Nat => .int k)
theorem c_figs (m n q : Nat) : (fns g1 (m + 30)).call (.obj 174) [.int n, .int q] [] = .ok (nD (figs n q)) := by
  obtain ⟨f, hf⟩ : ∃ f, g1.fn 174 = some f := ⟨_, rfl⟩
  have h1 : 4 + n % 2 * 4 ≤ 4096 := by omega
  have h2 : 4 + n % 2 * 4 ≤ 1048576 := by omega
  have h3 : ((4 + n % 2 * 4 : Nat) : Int) - ((n / 10 % 5 : Nat) : Int) = ((behind n : Nat) : Int) := (Int.ofNat_sub (show n / 10 % 5 ≤ 4 + n % 2 * 4 from Nat.le_trans (Nat.le_of_lt_succ (Nat.mod_lt _ (by decide))) (Nat.le_add_right ..))).symm
  have h4 : n % 2 < 18446744073709551616 := by omega
  apply x_call (bs := [("n", .int n), ("quote", .int q)]) hf (by cases hf; rfl)
  (walk_at "kr"; with_reducible exact rfl)
  cases hf
  (repeat (first | with_reducible apply x_exs | (with_reducible apply xs_next; with_reducible apply x_set; (focus decide +kernel)) | (with_reducible apply xs_ret; with_reducible apply x_ret) | ((try (walk_at "kr")); (repeat (refine .trans (by (simp -dsimp only [rW, rN, ↓ite_and, ↓ite_or, ↓reduceIte, if_true, if_false, rK, Zd, Ze, Zn, Zo, Zp, *]; exact rfl)) ?_; (try (walk_at "kr")))); with_reducible exact rfl)))
  ((try (walk_at "kr")); (repeat (refine .trans (by (simp -dsimp only [rW, rN, ↓ite_and, ↓ite_or, ↓reduceIte, if_true, if_false, rK, Zd, Ze, Zn, Zo, Zp, *]; exact rfl)) ?_; (try (walk_at "kr")))))
  rw [compL_map (fun p : Nat => D.int p) (fun p : Nat => D.int ((if n / 2 % 5 ≤ p ∧ p < behind n then (n / 50 + 5 * p) % 64 else q : Nat) : Int)) (List.range (4 + n % 2 * 4)) ?_]
  · ((try (walk_at "kr")))
    simp [nD, figs, cnt]
  · intro p hp
    have h5 : p < 18446744073709551616 := by have := List.mem_range.mp hp; omega
    clear hp h1 h2 h3 h4
    ((try (walk_at "kr")); (repeat (refine .trans (by (simp -dsimp only [rW, rN, ↓ite_and, ↓ite_or, ↓reduceIte, if_true, if_false, rK, Zd, Ze, Zn, Zo, Zp, *]; exact rfl)) ?_; (try (walk_at "kr")))))
    by_cases a : n / 2 % 5 ≤ p <;> by_cases b : p < behind n <;> simp [a, b]

end
section
theorem seqIx {k n : Nat} (h : k < n) : seqIndex? (k : Int) n = some k := by
  have h1 : ¬ ((k : Int) < 0) := by omega
  simp [seqIndex?, h1, h]
theorem get_list {l : List D} {k : Nat} {d : D} (h : l[k]? = some d) (hb : k < 1048576) : getD (.list l) (.int (k : Int)) = .ok d := by
  have hk : k < l.length := by
    rcases Nat.lt_or_ge k l.length with h' | h'
    · exact h'
    · rw [List.getElem?_eq_none h'] at h; cases h
  show (if (k : Int).natAbs < 2 ^ 62 then R.of ((seqIndex? (k : Int) l.length).bind (l[·]?)) else R.bad) = _
  rw [if_pos (by simp; omega)]
  rw [seqIx hk]
  show R.of (l[k]?) = _
  rw [h]; rfl
theorem get_str {s : Str} {k : Nat} (hk : k < s.length) (hb : s.length ≤ 1048576) : getD (.str s) (.int (k : Int)) = .ok (.str ⟨#[s.cps.getD k 0]⟩) := by
  show (if s.length ≤ big ∧ (k : Int).natAbs < 2 ^ 62 then (match (seqIndex? (k : Int) s.length).bind (s.cps[·]?) with
      | some c => R.ok (D.str ⟨#[c]⟩)
      | Option.none => R.exc (.type "IndexError") "string index out of range") else R.bad) = _
  rw [if_pos ⟨hb, by simp; omega⟩]
  rw [seqIx hk]
  have hk' : k < s.cps.size := hk
  simp [hk', Array.getD]
theorem intL_nats : ∀ l : List Nat, intL (l.map fun k : Nat => .int (k : Int)) = some (l.map fun k : Nat => (k : Int))
  | [] => rfl
  | k :: r => by rw [List.map_cons, intL, intL_nats r]; rfl
theorem toBytes_nats : ∀ l : List Nat, (∀ k ∈ l, k < 256) → toBytes? (l.map fun k : Nat => (k : Int)) = some (l.map (·.toUInt8))
  | [], _ => rfl
  | k :: r, h => by
    rw [List.map_cons, toBytes?, if_pos ⟨by omega, by have := h k (List.mem_cons_self ..); omega⟩, toBytes_nats r fun x m => h x (List.mem_cons_of_mem _ m)]
    rfl
theorem tyD_nats {l : List Nat} (h : ∀ k ∈ l, k < 256) (h' : l.length ≤ 1048576) : tyD "bytes" [.list (l.map fun k : Nat => .int (k : Int))] = some (.bytes (l.map (·.toUInt8)).toArray) := by
  rw [tyD_bytes, intL_nats, Option.bind_some, toBytes_nats l h, Option.bind_some, if_pos (by rw [List.length_map]; exact h')]
theorem strL_one (c : Nat → Nat) : ∀ l : List Nat, strL (l.map fun k : Nat => .str ⟨#[c k]⟩) = some (l.map fun k => ⟨#[c k]⟩)
  | [] => rfl
  | k :: r => by rw [List.map_cons, strL, strL_one c r]; rfl
theorem catS_one (c : Nat → Nat) (l : List Nat) : catS (l.map fun k => ⟨#[c k]⟩) = l.map c := by
  induction l with
  | nil => rfl
  | cons k r ih => rw [List.map_cons, catS, List.flatMap_cons, ← catS, ih]; rfl
theorem join_one (c : Nat → Nat) (l : List Nat) (h : l.length ≤ 1048576) {s : Str} (hs : s.length = 0) : methD .join (.str s) [.list (l.map fun k : Nat => .str ⟨#[c k]⟩)] = some (.str ⟨(l.map c).toArray⟩) := by
  rw [md_join, strL_one, Option.bind_some, catS_one, if_pos hs, if_pos (show _ ≤ _ by rw [List.length_map]; exact h)]
theorem len_append (a b : Str) : (a ++ b).length = a.length + b.length := by
  show (a.cps ++ b.cps).size = _
  rw [Array.size_append]; rfl
theorem seqIxm {n : Nat} (hk : 0 < n) : seqIndex? (-1 : Int) n = some (n - 1) := by
  have h2 : 0 ≤ -1 + (n : Int) := by omega
  have h3 : (-1 + (n : Int)).toNat = n - 1 := by omega
  simp [seqIndex?, h2, h3]; omega
theorem get_listm {l : List D} {d : D} (h : l[l.length - 1]? = some d) (h0 : 0 < l.length) : getD (.list l) (.int (-1)) = .ok d := by
  show (if (-1 : Int).natAbs < 2 ^ 62 then R.of ((seqIndex? (-1 : Int) l.length).bind (l[·]?)) else R.bad) = _
  rw [if_pos (by decide), seqIxm h0]
  show R.of (l[l.length - 1]?) = _
  rw [h]; rfl

end
section
noncomputable def numOf (l : List Nat) : Nat := l.foldl (fun a b => a * 64 + b) 0
noncomputable def octN (l : List Nat) : List Nat := (List.range (l.length / 4 * 3)).map fun p => numOf l / 256 ^ (l.length / 4 * 3 - 1 - p) % 256
noncomputable def octs (l : List Nat) : Array UInt8 := ((octN l).map (·.toUInt8)).toArray
noncomputable def Oc.st (l : List Nat) (a : Nat × Option Nat) : Sg := ([("figures", .val (nD l)), ("number", .val (.int a.1))] : Sg) ++ (match a.2 with | none => [] | some b => ([("figure", .val (.int b))] : Sg))
theorem numOf_step (l : List Nat) (a : Nat × Option Nat) : (l.foldl (fun (a : Nat × Option Nat) b => (a.1 * 64 + b, some b)) a).1 = l.foldl (fun a b => a * 64 + b) a.1 := by
  induction l generalizing a with
  | nil => rfl
  | cons b r ih => rw [List.foldl_cons, List.foldl_cons, ih]
theorem len_nD (l : List Nat) : biD "len" [nD l] = if l.length ≤ 1048576 then some (.int (l.length : Nat)) else none := by
  rw [nD, lb_list, List.length_map]; rfl
theorem it_nD (l : List Nat) : itemsD (nD l) = some (l.map fun k : Nat => .int k) := (rfl)
theorem pow256 (k : Nat) : (256 : Int) ^ k = ((256 ^ k : Nat) : Int) := by push_cast; rfl
theorem c_octets (n : Nat) (l : List Nat) (h : l.length ≤ 8) (hl : ∀ b ∈ l, b < 64) : (fns g1 (n + 30)).call (.obj 179) [nD l] [] = .ok (.bytes (octs l)) := by
  obtain ⟨f, hf⟩ : ∃ f, g1.fn 179 = some f := ⟨_, rfl⟩
  have h0 : l.length ≤ 1048576 := by omega
  have h1 := it_nD
  have h2 := len_nD
  apply x_callP (bs := [("figures", nD l)]) hf (by cases hf; rfl)
  (walk_at "kr"; with_reducible exact rfl)
  cases hf
  (repeat (first | with_reducible apply xp_exs | (with_reducible apply xp_next; with_reducible apply x_set; (focus decide +kernel)) | (with_reducible apply xp_step; with_reducible apply x_for; (focus decide +kernel)) | (with_reducible show (_ : Nat) ≤ _; (focus (simp only [big_eq, rL] at *; omega))) | ((try (walk_at "kr")); (repeat ((with_reducible show _ = _); refine .trans (by (simp -dsimp only [rW, rN, ↓ite_and, ↓ite_or, ↓reduceIte, if_true, if_false, rK, Zd, Ze, Zn, Zo, Zp, *]; exact rfl)) ?_; (try (walk_at "kr")))); with_reducible exact rfl)))
  apply forL_run (Oc.st l) (fun k : Nat => D.int k) (fun (a : Nat × Option Nat) b => (a.1 * 64 + b, some b)) (fun r a => (a.1 + 1) * 64 ^ r.length ≤ 64 ^ 8 ∧ ∀ b ∈ r, b < 64) l (0, none)
  · rfl
  · exact ⟨by simpa using Nat.pow_le_pow_right (by decide : 0 < 64) h, hl⟩
  · rintro ⟨N, last⟩ b r hI
    obtain ⟨i1, i2⟩ := hI
    have i3 := i2 b (List.mem_cons_self ..)
    dsimp only at i1
    have i0 : 0 < 64 ^ r.length := Nat.pow_pos (by decide)
    rw [List.length_cons, Nat.pow_succ] at i1
    refine ⟨⟨?_, fun x m => i2 x (List.mem_cons_of_mem _ m)⟩, .inl ?_⟩
    · dsimp only
      refine Nat.le_trans ?_ i1
      rw [Nat.mul_comm (64 ^ r.length) 64, ← Nat.mul_assoc]
      exact Nat.mul_le_mul_right _ (by omega)
    · have i4 : N < 18446744073709551616 := by
        have : (N + 1) * 1 ≤ (N + 1) * (64 ^ r.length * 64) := Nat.mul_le_mul_left _ (by omega)
        omega
      clear i0 i1 i2 i3 h1 h2 h0 h hl
      apply x_body (σ1 := ([("figures", .val (nD l)), ("number", .val (.int N)), ("figure", .val (.int b))] : Sg)) (by cases last <;> kernel_rfl!)
      (repeat (first | with_reducible apply x_exs | (with_reducible apply xs_nil'; kernel_rfl!) | (with_reducible apply xs_next; with_reducible apply x_set; (focus decide +kernel)) | ((try (walk_at "kr")); (repeat (refine .trans (by (simp -dsimp only [rW, rN, ↓ite_and, ↓ite_or, ↓reduceIte, if_true, if_false, rK, Zd, Ze, Zn, Zo, Zp, *]; exact rfl)) ?_; (try (walk_at "kr")))); with_reducible exact rfl)))
  · have hN := numOf_step l (0, none)
    generalize l.foldl (fun (a : Nat × Option Nat) b => (a.1 * 64 + b, some b)) (0, none) = a at hN ⊢
    obtain ⟨N, last⟩ := a
    have hN : N = numOf l := hN
    subst hN
    have h3 : l.length / 4 * 3 ≤ 4096 := by omega
    have h4 : l.length / 4 * 3 ≤ 1048576 := by omega
    have h5 : l.length / 4 < 18446744073709551616 := by omega
    have key : tyD "bytes" [.list ((List.range (l.length / 4 * 3)).map (fun p : Nat => D.int ((numOf l / 256 ^ (l.length / 4 * 3 - 1 - p) % 256 : Nat) : Int)))] = some (.bytes (octs l)) := by
      have := tyD_nats (l := octN l) (by intro k hk; simp only [octN, List.mem_map] at hk; obtain ⟨p, _, rfl⟩ := hk; exact Nat.mod_lt _ (by decide)) (by rw [octN, List.length_map, List.length_range]; omega)
      rw [octN, List.map_map] at this
      exact this
    clear h1 hl hN
    cases last <;> (
      simp only [Oc.st]
      (repeat (first | (with_reducible first | apply rt_ret | apply xp_skn) | (with_reducible apply xp_next; with_reducible apply x_set; (focus decide +kernel)) | ((try (walk_at "kr")); (repeat ((with_reducible show _ = _); refine .trans (by (simp -dsimp only [rW, rN, ↓ite_and, ↓ite_or, ↓reduceIte, if_true, if_false, rK, Zd, Ze, Zn, Zo, Zp, *]; exact rfl)) ?_; (try (walk_at "kr")))); with_reducible exact rfl)))
      ((try (walk_at "kr")); (repeat (refine .trans (by (simp -dsimp only [rW, rN, ↓ite_and, ↓ite_or, ↓reduceIte, if_true, if_false, rK, Zd, Ze, Zn, Zo, Zp, *]; exact rfl)) ?_; (try (walk_at "kr")))))
      rw [compL_map (fun p : Nat => D.int p) (fun p : Nat => D.int ((numOf l / 256 ^ (l.length / 4 * 3 - 1 - p) % 256 : Nat) : Int)) (List.range (l.length / 4 * 3)) ?_]
      · ((try (walk_at "kr")); (repeat (refine .trans (by (simp -dsimp only [rW, rN, ↓ite_and, ↓ite_or, ↓reduceIte, if_true, if_false, rK, Zd, Ze, Zn, Zo, Zp, *]; exact rfl)) ?_; (try (walk_at "kr")))); with_reducible exact rfl)
      · intro p hp
        have hp := List.mem_range.mp hp
        have a1 : ((l.length / 4 * 3 : Nat) : Int) - 1 - (p : Int) = ((l.length / 4 * 3 - 1 - p : Nat) : Int) := by omega
        have a2 : l.length / 4 * 3 - 1 - p ≤ 5 := by omega
        clear key h0 h2 h3 h4 h5 h hp
        generalize l.length / 4 * 3 - 1 - p = x at *
        have a3 := pow256
        have a4 : 0 < 256 ^ x := Nat.pow_pos (by decide)
        have a5 : 256 ^ x < 18446744073709551616 := Nat.lt_of_le_of_lt (Nat.pow_le_pow_right (by decide) a2) (by decide)
        have a6 : x ≤ 4096 := by omega
        have a7 : ¬ ((256 ^ x : Nat) : Int) = 0 := by omega
        ((try (walk_at "kr")); (repeat (refine .trans (by (simp -dsimp only [rW, rN, ↓ite_and, ↓ite_or, ↓reduceIte, if_true, if_false, rK, Zd, Ze, Zn, Zo, Zp, *]; exact rfl)) ?_; (try (walk_at "kr")))); with_reducible exact rfl))

end
section
noncomputable def sg62 : Str := "ABCDEFGHIJKLMNOPQRSTUVWXYZabcdefghijklmnopqrstuvwxyz0123456789"
noncomputable def sgn (two : Str) (k : Nat) : Nat := (sg62 ++ two).cps.getD k 0
noncomputable def textS (l : List Nat) (two : Str) : Str := ⟨(l.map (sgn two)).toArray⟩
theorem sg62_len : Str.length (Str.ofString "ABCDEFGHIJKLMNOPQRSTUVWXYZabcdefghijklmnopqrstuvwxyz0123456789") = 62 := by decide +kernel
theorem len_emp : Str.length (Str.ofString "") = 0 := by decide +kernel
theorem c_text (n : Nat) (l : List Nat) (two : Str) (h : l.length ≤ 8) (hl : ∀ b ∈ l, b < 64) (ht : two.length = 2) : (fns g1 (n + 30)).call (.obj 184) [nD l, .str two] [] = .ok (.str (textS l two)) := by
  obtain ⟨f, hf⟩ : ∃ f, g1.fn 184 = some f := ⟨_, rfl⟩
  have h0 : l.length ≤ 1048576 := by omega
  have h1 := it_nD
  have h2 := sg62_len
  have h3 := sg62
  apply x_call (bs := [("figures", nD l), ("two", .str two)]) hf (by cases hf; rfl)
  (walk_at "kr"; with_reducible exact rfl)
  cases hf
  (repeat (first | with_reducible apply x_exs | (with_reducible apply xs_next; with_reducible apply x_set; (focus decide +kernel)) | (with_reducible apply xs_ret; with_reducible apply x_ret) | ((try (walk_at "kr")); (repeat (refine .trans (by (simp -dsimp only [rW, rN, ↓ite_and, ↓ite_or, ↓reduceIte, if_true, if_false, rK, Zd, Ze, Zn, Zo, Zp, *]; exact rfl)) ?_; (try (walk_at "kr")))); with_reducible exact rfl)))
  ((try (walk_at "kr")); (repeat (refine .trans (by (simp -dsimp only [rW, rN, ↓ite_and, ↓ite_or, ↓reduceIte, if_true, if_false, rK, Zd, Ze, Zn, Zo, Zp, *]; exact rfl)) ?_; (try (walk_at "kr")))))
  rw [compL_map (fun k : Nat => D.int k) (fun k : Nat => .str ⟨#[sgn two k]⟩) l ?_]
  · have h4 := join_one (sgn two) l h0 len_emp
    ((try (walk_at "kr")); (repeat (refine .trans (by (simp -dsimp only [rW, rN, ↓ite_and, ↓ite_or, ↓reduceIte, if_true, if_false, rK, Zd, Ze, Zn, Zo, Zp, *]; exact rfl)) ?_; (try (walk_at "kr")))); kernel_rfl!)
  · intro k hk
    have h5 : ∀ k : Nat, k < 64 → getD (.str (Str.ofString "ABCDEFGHIJKLMNOPQRSTUVWXYZabcdefghijklmnopqrstuvwxyz0123456789" ++ two)) (.int (k : Int)) = .ok (.str ⟨#[sgn two k]⟩) := fun k hk =>
      get_str (by rw [len_append, ht, sg62_len]; omega) (by rw [len_append, ht, sg62_len]; decide)
    have h6 := h5 k (hl k hk)
    clear h5 h1 h2 h3 hl h h0 ht hk
    ((try (walk_at "kr")); (repeat (refine .trans (by (simp -dsimp only [rW, rN, ↓ite_and, ↓ite_or, ↓reduceIte, if_true, if_false, rK, Zd, Ze, Zn, Zo, Zp, *]; exact rfl)) ?_)); with_reducible exact rfl)

end
section
noncomputable def firstN (a b c : Nat) : Nat := (a * 64 + b) * 16 + c / 4
noncomputable def name4 (F : Nat) : Str := ⟨#[hexD (F / 4096 % 16), hexD (F / 256 % 16), hexD (F / 16 % 16), hexD (F % 16)]⟩
noncomputable def nameS (l : List Nat) : Str := name4 (firstN (l.getD 0 0) (l.getD 1 0) (l.getD 2 0))
theorem hexs_len : Str.length (Str.ofString "0123456789ABCDEF") = 16 := by decide +kernel
theorem hexs_at : ∀ k, k < 16 → (Str.ofString "0123456789ABCDEF").cps.getD k 0 = hexD k := by decide +kernel
theorem pow16 (k : Nat) : (16 : Int) ^ k = ((16 ^ k : Nat) : Int) := by push_cast; rfl
theorem c_name (n : Nat) (l : List Nat) (h : 4 ≤ l.length) (h' : l.length ≤ 8) (hl : ∀ b ∈ l, b < 64) : (fns g1 (n + 30)).call (.obj 189) [nD l] [] = .ok (.str (nameS l)) := by
  obtain ⟨f, hf⟩ : ∃ f, g1.fn 189 = some f := ⟨_, rfl⟩
  obtain ⟨a, b, c, d, r, rfl⟩ : ∃ a b c d r, l = a :: b :: c :: d :: r := by
    rcases l with _ | ⟨a, _ | ⟨b, _ | ⟨c, _ | ⟨d, r⟩⟩⟩⟩
    · simp at h
    · simp at h
    · simp at h
    · simp at h
    · exact ⟨a, b, c, d, r, rfl⟩
  have ha : a < 64 := hl a (by simp)
  have hb : b < 64 := hl b (by simp)
  have hc : c < 64 := hl c (by simp)
  have e0 : getD (nD (a :: b :: c :: d :: r)) (.int 0) = .ok (.int a) := get_list (k := 0) (by rfl) (by decide)
  have e1 : getD (nD (a :: b :: c :: d :: r)) (.int 1) = .ok (.int b) := get_list (k := 1) (by rfl) (by decide)
  have e2 : getD (nD (a :: b :: c :: d :: r)) (.int 2) = .ok (.int c) := get_list (k := 2) (by rfl) (by decide)
  have a1 : a < 18446744073709551616 := by omega
  have a2 : a * 64 + b < 18446744073709551616 := by omega
  rw [show nameS (a :: b :: c :: d :: r) = name4 ((a * 64 + b) * 16 + c / 4) from rfl]
  have hF : (a * 64 + b) * 16 + c / 4 < 65536 := by omega
  clear hl h h'
  generalize nD (a :: b :: c :: d :: r) = L at *
  apply x_call (bs := [("figures", L)]) hf (by cases hf; rfl)
  (walk_at "kr"; with_reducible exact rfl)
  cases hf
  (repeat (first | with_reducible apply x_exs | (with_reducible apply xs_next; with_reducible apply x_set; (focus decide +kernel)) | (with_reducible apply xs_ret; with_reducible apply x_ret) | ((try (walk_at "kr")); (repeat (refine .trans (by (simp -dsimp only [rW, rN, ↓ite_and, ↓ite_or, ↓reduceIte, if_true, if_false, rK, Zd, Ze, Zn, Zo, Zp, *]; exact rfl)) ?_; (try (walk_at "kr")))); with_reducible exact rfl)))
  ((try (walk_at "kr")))
  rw [show ([.int 3, .int 2, .int 1, .int 0] : List D) = ([3, 2, 1, 0] : List Nat).map fun k : Nat => D.int k from rfl]
  rw [compL_map (fun k : Nat => D.int k) (fun k : Nat => .str ⟨#[hexD (((a * 64 + b) * 16 + c / 4) / 16 ^ k % 16)]⟩) [3, 2, 1, 0] ?_]
  · have h4 := join_one (fun k => hexD (((a * 64 + b) * 16 + c / 4) / 16 ^ k % 16)) [3, 2, 1, 0] (by decide) len_emp
    ((try (walk_at "kr")); (repeat (refine .trans (by (simp -dsimp only [rW, rN, ↓ite_and, ↓ite_or, ↓reduceIte, if_true, if_false, rK, Zd, Ze, Zn, Zo, Zp, *]; exact rfl)) ?_; (try (walk_at "kr")))))
    simp [name4]
  · intro k hk
    have hk : k < 4 := by simp at hk; omega
    have h5 := get_str (s := "0123456789ABCDEF") (k := ((a * 64 + b) * 16 + c / 4) / 16 ^ k % 16) (by rw [hexs_len]; exact Nat.mod_lt _ (by decide)) (by decide +kernel)
    rw [hexs_at _ (Nat.mod_lt _ (by decide))] at h5
    have a3 := pow16
    have a5 : 16 ^ k < 18446744073709551616 := Nat.lt_of_le_of_lt (Nat.pow_le_pow_right (by decide) (by omega : k ≤ 4)) (by decide)
    have a4 : 0 < 16 ^ k := Nat.pow_pos (by decide)
    have a6 : k ≤ 4096 := by omega
    have a7 : ¬ ((16 ^ k : Nat) : Int) = 0 := by omega
    clear hk a4 e0 e1 e2 a1 a2 ha hb hc hF
    ((try (walk_at "kr")); (repeat (refine .trans (by (simp -dsimp only [rW, rN, ↓ite_and, ↓ite_or, ↓reduceIte, if_true, if_false, rK, Zd, Ze, Zn, Zo, Zp, *]; exact rfl)) ?_; (try (walk_at "kr")))); with_reducible exact rfl)

end
section
theorem c_letters (n : Nat) (b : Array UInt8) (h : b.size ≤ 1000) : (fns g1 (n + 30)).call (.obj 225) [.bytes b] [] = .ok (.str ⟨(b.toList.map (·.toNat)).toArray⟩) := by
  obtain ⟨f, hf⟩ : ∃ f, g1.fn 225 = some f := ⟨_, rfl⟩
  have h0 : b.toList.length ≤ 1048576 := by rw [Array.length_toList]; omega
  have h1 : (b.toList.map (·.toNat)).length ≤ 1048576 := by rw [List.length_map]; exact h0
  apply x_call (bs := [("octets", .bytes b)]) hf (by cases hf; rfl)
  (walk_at "kr"; with_reducible exact rfl)
  cases hf
  (repeat (first | with_reducible apply x_exs | (with_reducible apply xs_ret; with_reducible apply x_ret) | ((try (walk_at "kr")); (repeat (refine .trans (by (simp -dsimp only [rW, rN, ↓ite_and, ↓ite_or, ↓reduceIte, if_true, if_false, rK, Zd, Ze, Zn, Zo, Zp, *]; exact rfl)) ?_)); with_reducible exact rfl)))
  ((try (walk_at "kr")); (repeat (refine .trans (by (simp -dsimp only [rW, rN, ↓ite_and, ↓ite_or, ↓reduceIte, if_true, if_false, rK, Zd, Ze, Zn, Zo, Zp, *]; exact rfl)) ?_)))
  rw [compL_map (fun x : UInt8 => D.int (x.toNat : Int)) (fun x : UInt8 => .str ⟨#[x.toNat]⟩) b.toList ?_]
  · have h4 := join_one (fun k => k) (b.toList.map (·.toNat)) h1 len_emp
    rw [List.map_map, List.map_id'] at h4
    have h4' : methD .join (.str (Str.ofString "")) [.list (b.toList.map fun x : UInt8 => .str ⟨#[x.toNat]⟩)] = some (.str ⟨(b.toList.map (·.toNat)).toArray⟩) := h4
    clear h4
    ((try (walk_at "kr")); (repeat (refine .trans (by (simp -dsimp only [rW, rN, ↓ite_and, ↓ite_or, ↓reduceIte, if_true, if_false, rK, Zd, Ze, Zn, Zo, Zp, *]; exact rfl)) ?_; (try (walk_at "kr")))); with_reducible exact rfl)
  · intro x hx
    have e := chr_u8 x
    clear h0 h1 h hx
    generalize x.toNat = k at *
    simp -dsimp (disch := (first | kernel_rfl! | (refine of_decide_eq_true ?_; kernel_rfl!) | (refine not_closed ?_; kernel_rfl!))) only [↓rV, rU, e]

end
section
noncomputable def strip (v : Str) : Str := if v.cps.getD 0 0 = 34 ∧ v.cps.getD (v.length - 1) 0 = 34 then ⟨(cutL v.cps.toList (some 1) (some (-1))).toArray⟩ else v
structure Kv where
  s : Str
  k : Str
  v : Str
noncomputable def Kv.ok (x : Kv) : Prop := methD .split (.str x.s) [.str "=", .int 1] = some (.list [.str x.k, .str x.v]) ∧ 0 < x.v.length ∧ x.v.length ≤ 1000
noncomputable def Kv.put (l : List (Str × D)) (x : Kv) : List (Str × D) := putIn x.k (.str (strip x.v)) l
theorem get_last {s : Str} (hk : 0 < s.length) (hb : s.length ≤ 1048576) : getD (.str s) (.int (-1)) = .ok (.str ⟨#[s.cps.getD (s.length - 1) 0]⟩) := by
  show (if s.length ≤ big ∧ (-1 : Int).natAbs < 2 ^ 62 then (match (seqIndex? (-1 : Int) s.length).bind (s.cps[·]?) with
      | some c => R.ok (D.str ⟨#[c]⟩)
      | Option.none => R.exc (.type "IndexError") "string index out of range") else R.bad) = _
  rw [if_pos ⟨hb, by decide⟩]
  have e : seqIndex? (-1 : Int) s.length = some (s.length - 1) := by
    have h1 : (-1 : Int) < 0 := by decide
    have h2 : 0 ≤ -1 + (s.length : Int) := by omega
    have h3 : (-1 + (s.length : Int)).toNat = s.length - 1 := by omega
    simp [seqIndex?, h2, h3]; omega
  rw [e]
  have hk' : s.length - 1 < s.cps.size := by show s.length - 1 < s.length; omega
  simp [hk', Array.getD]
theorem get_none {s : Str} (hk : s.length = 0) : getD (.str s) (.int 0) = .exc (.type "IndexError") "string index out of range" := by
  show (if s.length ≤ big ∧ (0 : Int).natAbs < 2 ^ 62 then (match (seqIndex? (0 : Int) s.length).bind (s.cps[·]?) with
      | some c => R.ok (D.str ⟨#[c]⟩)
      | Option.none => R.exc (.type "IndexError") "string index out of range") else R.bad) = _
  rw [if_pos ⟨by rw [hk]; decide, by decide⟩, hk]
  rfl
theorem slice_str (s : Str) (h : s.length ≤ 1048576) : sliceD (.str s) (some (.int 1)) (some (.int (-1))) none = some (.str ⟨(cutL s.cps.toList (some 1) (some (-1))).toArray⟩) := by
  show (if s.length ≤ big then some (D.str ⟨(cutL s.cps.toList (some 1) (some (-1))).toArray⟩) else none) = _
  exact if_pos h
noncomputable def Pq.st (items : List D) (a : List (Str × D) × Option Kv) : Sg := ([("l", .val (.list items)), ("parsed", .md a.1)] : Sg) ++ (match a.2 with
  | none => []
  | some x => ([("elt", .val (.str x.s)), ("k", .val (.str x.k)), ("v", .val (.str x.v))] : Sg))
noncomputable def Pq.step (a : List (Str × D) × Option Kv) (x : Kv) : List (Str × D) × Option Kv := (Kv.put a.1 x, some ⟨x.s, x.k, strip x.v⟩)
theorem putIn_len (k : Str) (v : D) : ∀ l, (putIn k v l).length ≤ l.length + 1
  | [] => by simp [putIn, lastVal]
  | (x, d) :: r => by
    have := putIn_len k v r
    unfold putIn at this ⊢
    rw [lastVal]
    split <;> simp only [List.length_cons] <;> omega
theorem Pq.fold (l : List Kv) (a : List (Str × D) × Option Kv) : (l.foldl Pq.step a).1 = l.foldl Kv.put a.1 := by
  induction l generalizing a with
  | nil => rfl
  | cons b r ih => rw [List.foldl_cons, List.foldl_cons, ih]; rfl
noncomputable def Pq.I (r : List Kv) (a : List (Str × D) × Option Kv) : Prop := a.1.length + r.length ≤ 1000 ∧ ∀ x ∈ r, x.ok
theorem q34 (a : Nat) : (({ cps := #[a] } : Str) == Str.ofString "\"") = decide (a = 34) := by
  rw [Bool.eq_iff_iff, beq_iff_eq, decide_eq_true_iff, show Str.ofString "\"" = ⟨#[34]⟩ by decide +kernel]
  simp

theorem c_parse (n : Nat) (l : List Kv) (h : l.length ≤ 1000) (hl : ∀ x ∈ l, x.ok) : (fns g1 (n + 30)).call (.obj 45) [.list (l.map fun x => .str x.s)] [] = .ok (.dict (l.foldl Kv.put [])) := by
  obtain ⟨f, hf⟩ : ∃ f, g1.fn 45 = some f := ⟨_, rfl⟩
  have h0 : l.length ≤ 1048576 := by omega
  apply x_callP (bs := [("l", .list (l.map fun x => .str x.s))]) hf (by cases hf; rfl)
  (walk_at "kr"; with_reducible exact rfl)
  cases hf
  (repeat (first | with_reducible apply xp_exs | (with_reducible apply xp_next; with_reducible apply x_newd; (focus decide +kernel)) | (with_reducible apply xp_step; with_reducible apply x_for; (focus decide +kernel)) | (with_reducible show (_ : Nat) ≤ _; (focus (simp only [big_eq, rL] at *; omega))) | ((try (walk_at "kr")); with_reducible exact rfl)))
  apply forL_run (Pq.st (l.map fun x => .str x.s)) (fun x : Kv => D.str x.s) Pq.step Pq.I l ([], none)
  · rfl
  · exact ⟨by simpa using h, hl⟩
  · rintro ⟨l2, last⟩ x r hI
    obtain ⟨i1, i2⟩ := hI
    obtain ⟨s1, s2, s3⟩ := i2 x (List.mem_cons_self ..)
    dsimp only at i1
    rw [List.length_cons] at i1
    have i3 := putIn_len x.k (.str (strip x.v)) l2
    refine ⟨⟨by show (putIn x.k (.str (strip x.v)) l2).length + _ ≤ _; omega, fun y m => i2 y (List.mem_cons_of_mem _ m)⟩, .inl ?_⟩
    have i4 : l2.length ≤ 1000 := by omega
    have g0 := get_str (k := 0) s2 (by omega : x.v.length ≤ 1048576)
    have g0 : getD (.str x.v) (.int 0) = .ok (.str ⟨#[x.v.cps.getD 0 0]⟩) := g0
    have g1' := get_last s2 (by omega : x.v.length ≤ 1048576)
    have g2' := slice_str x.v (by omega)
    have q3 := q34
    obtain ⟨xs, xk, xv⟩ := x
    simp only [Pq.step, Kv.put] at *
    generalize (l.map fun x => D.str x.s) = L
    clear i1 i2 i3 s2 s3 h h0 hl
    generalize hS : strip xv = S
    unfold strip at hS
    try dsimp only at g0 g1' g2' hS s1
    by_cases c0 : xv.cps.getD 0 0 = 34
    · by_cases c1 : xv.cps.getD (xv.length - 1) 0 = 34
      · rw [if_pos ⟨c0, c1⟩] at hS
        rw [c0] at g0
        rw [c1] at g1'
        have hS' := hS.symm
        subst hS'
        clear hS c0 c1
        cases last with
        | none => (apply x_body (σ1 := ([("l", .val (.list L)), ("parsed", .md l2), ("elt", .val (.str xs))] : Sg)) (by kernel_rfl!); (repeat (first | (with_reducible first | exact xs_nil | apply x_exs | apply cd_t | apply sk_n) | (with_reducible apply xs_nil'; kernel_rfl!) | (with_reducible apply xs_next; with_reducible apply x_set; (focus decide +kernel)) | (with_reducible apply xs_next; with_reducible apply x_unp; (focus decide +kernel)) | (with_reducible apply xs_next; with_reducible apply x_dst; (focus decide +kernel)) | (with_reducible apply xs_step; with_reducible apply x_if) | (with_reducible show (_ : Nat) ≤ _; with_reducible assumption) | ((try (walk_at "kr")); (repeat (refine .trans (by (simp -dsimp only [rW, rN, ↓ite_and, ↓ite_or, ↓reduceIte, if_true, if_false, rK, Zd, Ze, Zn, Zo, Zp, *]; exact rfl)) ?_; (try (walk_at "kr")))); with_reducible exact rfl))))
        | some y => (apply x_body (σ1 := ([("l", .val (.list L)), ("parsed", .md l2), ("elt", .val (.str xs)), ("k", .val (.str y.k)), ("v", .val (.str y.v))] : Sg)) (by kernel_rfl!); (repeat (first | (with_reducible first | exact xs_nil | apply x_exs | apply cd_t | apply sk_n) | (with_reducible apply xs_nil'; kernel_rfl!) | (with_reducible apply xs_next; with_reducible apply x_set; (focus decide +kernel)) | (with_reducible apply xs_next; with_reducible apply x_unp; (focus decide +kernel)) | (with_reducible apply xs_next; with_reducible apply x_dst; (focus decide +kernel)) | (with_reducible apply xs_step; with_reducible apply x_if) | (with_reducible show (_ : Nat) ≤ _; with_reducible assumption) | ((try (walk_at "kr")); (repeat (refine .trans (by (simp -dsimp only [rW, rN, ↓ite_and, ↓ite_or, ↓reduceIte, if_true, if_false, rK, Zd, Ze, Zn, Zo, Zp, *]; exact rfl)) ?_; (try (walk_at "kr")))); with_reducible exact rfl))))
      · rw [if_neg fun q => c1 q.2] at hS
        subst hS
        rw [c0] at g0
        generalize xv.cps.getD (xv.length - 1) 0 = c at *
        clear g2' c0
        cases last with
        | none => (apply x_body (σ1 := ([("l", .val (.list L)), ("parsed", .md l2), ("elt", .val (.str xs))] : Sg)) (by kernel_rfl!); (repeat (first | (with_reducible first | exact xs_nil | apply x_exs | apply cd_f | apply sk_n) | (with_reducible apply xs_nil'; kernel_rfl!) | (with_reducible apply xs_next; with_reducible apply x_unp; (focus decide +kernel)) | (with_reducible apply xs_next; with_reducible apply x_dst; (focus decide +kernel)) | (with_reducible apply xs_step; with_reducible apply x_if) | (with_reducible show (_ : Nat) ≤ _; with_reducible assumption) | ((try (walk_at "kr")); (repeat (refine .trans (by (simp -dsimp only [rW, rN, ↓ite_and, ↓ite_or, ↓reduceIte, if_true, if_false, rK, Zd, Ze, Zn, Zo, Zp, *]; exact rfl)) ?_; (try (walk_at "kr")))); with_reducible exact rfl))))
        | some y => (apply x_body (σ1 := ([("l", .val (.list L)), ("parsed", .md l2), ("elt", .val (.str xs)), ("k", .val (.str y.k)), ("v", .val (.str y.v))] : Sg)) (by kernel_rfl!); (repeat (first | (with_reducible first | exact xs_nil | apply x_exs | apply cd_f | apply sk_n) | (with_reducible apply xs_nil'; kernel_rfl!) | (with_reducible apply xs_next; with_reducible apply x_unp; (focus decide +kernel)) | (with_reducible apply xs_next; with_reducible apply x_dst; (focus decide +kernel)) | (with_reducible apply xs_step; with_reducible apply x_if) | (with_reducible show (_ : Nat) ≤ _; with_reducible assumption) | ((try (walk_at "kr")); (repeat (refine .trans (by (simp -dsimp only [rW, rN, ↓ite_and, ↓ite_or, ↓reduceIte, if_true, if_false, rK, Zd, Ze, Zn, Zo, Zp, *]; exact rfl)) ?_; (try (walk_at "kr")))); with_reducible exact rfl))))
    · rw [if_neg fun q => c0 q.1] at hS
      subst hS
      generalize xv.cps.getD 0 0 = c at *
      clear g1' g2'
      cases last with
      | none => (apply x_body (σ1 := ([("l", .val (.list L)), ("parsed", .md l2), ("elt", .val (.str xs))] : Sg)) (by kernel_rfl!); (repeat (first | (with_reducible first | exact xs_nil | apply x_exs | apply cd_f | apply sk_n) | (with_reducible apply xs_nil'; kernel_rfl!) | (with_reducible apply xs_next; with_reducible apply x_unp; (focus decide +kernel)) | (with_reducible apply xs_next; with_reducible apply x_dst; (focus decide +kernel)) | (with_reducible apply xs_step; with_reducible apply x_if) | (with_reducible show (_ : Nat) ≤ _; with_reducible assumption) | ((try (walk_at "kr")); (repeat (refine .trans (by (simp -dsimp only [rW, rN, ↓ite_and, ↓ite_or, ↓reduceIte, if_true, if_false, rK, Zd, Ze, Zn, Zo, Zp, *]; exact rfl)) ?_; (try (walk_at "kr")))); with_reducible exact rfl))))
      | some y => (apply x_body (σ1 := ([("l", .val (.list L)), ("parsed", .md l2), ("elt", .val (.str xs)), ("k", .val (.str y.k)), ("v", .val (.str y.v))] : Sg)) (by kernel_rfl!); (repeat (first | (with_reducible first | exact xs_nil | apply x_exs | apply cd_f | apply sk_n) | (with_reducible apply xs_nil'; kernel_rfl!) | (with_reducible apply xs_next; with_reducible apply x_unp; (focus decide +kernel)) | (with_reducible apply xs_next; with_reducible apply x_dst; (focus decide +kernel)) | (with_reducible apply xs_step; with_reducible apply x_if) | (with_reducible show (_ : Nat) ≤ _; with_reducible assumption) | ((try (walk_at "kr")); (repeat (refine .trans (by (simp -dsimp only [rW, rN, ↓ite_and, ↓ite_or, ↓reduceIte, if_true, if_false, rK, Zd, Ze, Zn, Zo, Zp, *]; exact rfl)) ?_; (try (walk_at "kr")))); with_reducible exact rfl))))
  · have hN := Pq.fold l ([], none)
    rw [← hN]
    generalize l.foldl Pq.step ([], none) = a
    obtain ⟨d, last⟩ := a
    clear hN hl h h0
    generalize (l.map fun x => D.str x.s) = L
    cases last <;> (simp only [Pq.st]; (repeat (first | (with_reducible first | apply rt_ret | apply xp_skn) | (walk_at "kr"; with_reducible exact rfl))))

end
section

noncomputable def Pq.J (z : Kv) (r : List Kv) (a : List (Str × D) × Option Kv) : Prop := a.1.length + r.length ≤ 1000 ∧ ∃ r', r = r' ++ [z] ∧ ∀ x ∈ r', x.ok
theorem c_parse_ix (n : Nat) (l : List Kv) (z : Kv) (tail : List D) (h : l.length + tail.length ≤ 900) (hl : ∀ x ∈ l, x.ok) (hz : methD .split (.str z.s) [.str "=", .int 1] = some (.list [.str z.k, .str z.v])) (hzl : z.v.length = 0) :
    (fns g1 (n + 30)).call (.obj 45) [.list (l.map (fun x => .str x.s) ++ .str z.s :: tail)] [] = .exc (.type "IndexError") "string index out of range" := by
  obtain ⟨f, hf⟩ : ∃ f, g1.fn 45 = some f := ⟨_, rfl⟩
  have h0 : (l.map (fun x => D.str x.s) ++ .str z.s :: tail).length ≤ 1048576 := by simp; omega
  have iz : Pq.J z (l ++ [z]) ([], none) := ⟨by simp; omega, l, rfl, hl⟩
  generalize hL : l.map (fun x => D.str x.s) ++ .str z.s :: tail = L at h0 ⊢
  apply x_callP (bs := [("l", .list L)]) hf (by cases hf; rfl)
  (walk_at "kr"; with_reducible exact rfl)
  cases hf
  with_reducible apply xp_exs
  with_reducible apply xp_next
  with_reducible apply x_newd
  · decide +kernel
  · (repeat ((walk_at "kr"; with_reducible exact rfl)))
  with_reducible apply rt_exc
  with_reducible apply x_for
  · decide +kernel
  (repeat (first | (with_reducible show (_ : Nat) ≤ _; with_reducible assumption) | ((try (walk_at "kr")); with_reducible exact rfl)))
  rw [← hL, forL_stop (Pq.st L) (fun x : Kv => D.str x.s) Pq.step (Pq.J z) z tail (c := .type "IndexError") (m := "string index out of range") l ([], none) ?_ iz ?_ ?_]
  · rw [hL]; rfl
  · clear hL
    rintro ⟨l2, last⟩ x r hI hne
    obtain ⟨i1, r', e, i2⟩ := hI
    rcases r' with _ | ⟨y, r'⟩
    · cases e; exact absurd rfl hne
    cases e
    obtain ⟨s1, s2, s3⟩ := i2 x (List.mem_cons_self ..)
    dsimp only at i1
    rw [List.length_cons] at i1
    have i3 := putIn_len x.k (.str (strip x.v)) l2
    refine ⟨⟨by show (putIn x.k (.str (strip x.v)) l2).length + _ ≤ _; omega, r', rfl, fun y m => i2 y (List.mem_cons_of_mem _ m)⟩, ?_⟩
    have i4 : l2.length ≤ 1000 := by omega
    have g0 := get_str (k := 0) s2 (by omega : x.v.length ≤ 1048576)
    have g0 : getD (.str x.v) (.int 0) = .ok (.str ⟨#[x.v.cps.getD 0 0]⟩) := g0
    have g1' := get_last s2 (by omega : x.v.length ≤ 1048576)
    have g2' := slice_str x.v (by omega)
    have q3 := q34
    obtain ⟨xs, xk, xv⟩ := x
    simp only [Pq.step, Kv.put] at *
    clear i1 i2 i3 s2 s3 h h0 hl hz hzl iz hne
    generalize hS : strip xv = S
    unfold strip at hS
    try dsimp only at g0 g1' g2' hS s1
    by_cases c0 : xv.cps.getD 0 0 = 34
    · by_cases c1 : xv.cps.getD (xv.length - 1) 0 = 34
      · rw [if_pos ⟨c0, c1⟩] at hS
        rw [c0] at g0
        rw [c1] at g1'
        have hS' := hS.symm
        subst hS'
        clear hS c0 c1
        cases last with
        | none => (apply x_body (σ1 := ([("l", .val (.list L)), ("parsed", .md l2), ("elt", .val (.str xs))] : Sg)) (by kernel_rfl!); (repeat (first | (with_reducible first | exact xs_nil | apply x_exs | apply cd_t | apply sk_n) | (with_reducible apply xs_nil'; kernel_rfl!) | (with_reducible apply xs_next; with_reducible apply x_set; (focus decide +kernel)) | (with_reducible apply xs_next; with_reducible apply x_unp; (focus decide +kernel)) | (with_reducible apply xs_next; with_reducible apply x_dst; (focus decide +kernel)) | (with_reducible apply xs_step; with_reducible apply x_if) | (with_reducible show (_ : Nat) ≤ _; with_reducible assumption) | ((try (walk_at "kr")); (repeat (refine .trans (by (simp -dsimp only [rW, rN, ↓ite_and, ↓ite_or, ↓reduceIte, if_true, if_false, rK, Zd, Ze, Zn, Zo, Zp, *]; exact rfl)) ?_; (try (walk_at "kr")))); with_reducible exact rfl))))
        | some y => (apply x_body (σ1 := ([("l", .val (.list L)), ("parsed", .md l2), ("elt", .val (.str xs)), ("k", .val (.str y.k)), ("v", .val (.str y.v))] : Sg)) (by kernel_rfl!); (repeat (first | (with_reducible first | exact xs_nil | apply x_exs | apply cd_t | apply sk_n) | (with_reducible apply xs_nil'; kernel_rfl!) | (with_reducible apply xs_next; with_reducible apply x_set; (focus decide +kernel)) | (with_reducible apply xs_next; with_reducible apply x_unp; (focus decide +kernel)) | (with_reducible apply xs_next; with_reducible apply x_dst; (focus decide +kernel)) | (with_reducible apply xs_step; with_reducible apply x_if) | (with_reducible show (_ : Nat) ≤ _; with_reducible assumption) | ((try (walk_at "kr")); (repeat (refine .trans (by (simp -dsimp only [rW, rN, ↓ite_and, ↓ite_or, ↓reduceIte, if_true, if_false, rK, Zd, Ze, Zn, Zo, Zp, *]; exact rfl)) ?_; (try (walk_at "kr")))); with_reducible exact rfl))))
      · rw [if_neg fun q => c1 q.2] at hS
        subst hS
        rw [c0] at g0
        generalize xv.cps.getD (xv.length - 1) 0 = c at *
        clear g2' c0
        cases last with
        | none => (apply x_body (σ1 := ([("l", .val (.list L)), ("parsed", .md l2), ("elt", .val (.str xs))] : Sg)) (by kernel_rfl!); (repeat (first | (with_reducible first | exact xs_nil | apply x_exs | apply cd_f | apply sk_n) | (with_reducible apply xs_nil'; kernel_rfl!) | (with_reducible apply xs_next; with_reducible apply x_unp; (focus decide +kernel)) | (with_reducible apply xs_next; with_reducible apply x_dst; (focus decide +kernel)) | (with_reducible apply xs_step; with_reducible apply x_if) | (with_reducible show (_ : Nat) ≤ _; with_reducible assumption) | ((try (walk_at "kr")); (repeat (refine .trans (by (simp -dsimp only [rW, rN, ↓ite_and, ↓ite_or, ↓reduceIte, if_true, if_false, rK, Zd, Ze, Zn, Zo, Zp, *]; exact rfl)) ?_; (try (walk_at "kr")))); with_reducible exact rfl))))
        | some y => (apply x_body (σ1 := ([("l", .val (.list L)), ("parsed", .md l2), ("elt", .val (.str xs)), ("k", .val (.str y.k)), ("v", .val (.str y.v))] : Sg)) (by kernel_rfl!); (repeat (first | (with_reducible first | exact xs_nil | apply x_exs | apply cd_f | apply sk_n) | (with_reducible apply xs_nil'; kernel_rfl!) | (with_reducible apply xs_next; with_reducible apply x_unp; (focus decide +kernel)) | (with_reducible apply xs_next; with_reducible apply x_dst; (focus decide +kernel)) | (with_reducible apply xs_step; with_reducible apply x_if) | (with_reducible show (_ : Nat) ≤ _; with_reducible assumption) | ((try (walk_at "kr")); (repeat (refine .trans (by (simp -dsimp only [rW, rN, ↓ite_and, ↓ite_or, ↓reduceIte, if_true, if_false, rK, Zd, Ze, Zn, Zo, Zp, *]; exact rfl)) ?_; (try (walk_at "kr")))); with_reducible exact rfl))))
    · rw [if_neg fun q => c0 q.1] at hS
      subst hS
      generalize xv.cps.getD 0 0 = c at *
      clear g1' g2'
      cases last with
      | none => (apply x_body (σ1 := ([("l", .val (.list L)), ("parsed", .md l2), ("elt", .val (.str xs))] : Sg)) (by kernel_rfl!); (repeat (first | (with_reducible first | exact xs_nil | apply x_exs | apply cd_f | apply sk_n) | (with_reducible apply xs_nil'; kernel_rfl!) | (with_reducible apply xs_next; with_reducible apply x_unp; (focus decide +kernel)) | (with_reducible apply xs_next; with_reducible apply x_dst; (focus decide +kernel)) | (with_reducible apply xs_step; with_reducible apply x_if) | (with_reducible show (_ : Nat) ≤ _; with_reducible assumption) | ((try (walk_at "kr")); (repeat (refine .trans (by (simp -dsimp only [rW, rN, ↓ite_and, ↓ite_or, ↓reduceIte, if_true, if_false, rK, Zd, Ze, Zn, Zo, Zp, *]; exact rfl)) ?_; (try (walk_at "kr")))); with_reducible exact rfl))))
      | some y => (apply x_body (σ1 := ([("l", .val (.list L)), ("parsed", .md l2), ("elt", .val (.str xs)), ("k", .val (.str y.k)), ("v", .val (.str y.v))] : Sg)) (by kernel_rfl!); (repeat (first | (with_reducible first | exact xs_nil | apply x_exs | apply cd_f | apply sk_n) | (with_reducible apply xs_nil'; kernel_rfl!) | (with_reducible apply xs_next; with_reducible apply x_unp; (focus decide +kernel)) | (with_reducible apply xs_next; with_reducible apply x_dst; (focus decide +kernel)) | (with_reducible apply xs_step; with_reducible apply x_if) | (with_reducible show (_ : Nat) ≤ _; with_reducible assumption) | ((try (walk_at "kr")); (repeat (refine .trans (by (simp -dsimp only [rW, rN, ↓ite_and, ↓ite_or, ↓reduceIte, if_true, if_false, rK, Zd, Ze, Zn, Zo, Zp, *]; exact rfl)) ?_; (try (walk_at "kr")))); with_reducible exact rfl))))
  · rintro ⟨l2, last⟩ hI
    have g0 := get_none hzl
    obtain ⟨xs, xk, xv⟩ := z
    clear hI h h0 hl iz hL hzl
    dsimp only at hz g0
    cases last with
    | none =>
      apply x_body (σ1 := ([("l", .val (.list L)), ("parsed", .md l2), ("elt", .val (.str xs))] : Sg)) (by kernel_rfl!)
      refine x_exs (xs_next (σ1 := ([("l", .val (.list L)), ("parsed", .md l2), ("elt", .val (.str xs)), ("k", .val (.str xk)), ("v", .val (.str xv))] : Sg)) ?_ (xs_exc (x_ifx ?_)))
      · with_reducible apply x_unp
        · decide +kernel
        (repeat (((try (walk_at "kr")); (repeat (refine .trans (by (simp -dsimp only [rW, rN, ↓ite_and, ↓ite_or, ↓reduceIte, if_true, if_false, rK, Zd, Ze, Zn, Zo, Zp, *]; exact rfl)) ?_; (try (walk_at "kr")))); with_reducible exact rfl)))
      · ((try (walk_at "kr")); (repeat (refine .trans (by (simp -dsimp only [rW, rN, ↓ite_and, ↓ite_or, ↓reduceIte, if_true, if_false, rK, Zd, Ze, Zn, Zo, Zp, *]; exact rfl)) ?_; (try (walk_at "kr")))); with_reducible exact rfl)
    | some y =>
      apply x_body (σ1 := ([("l", .val (.list L)), ("parsed", .md l2), ("elt", .val (.str xs)), ("k", .val (.str y.k)), ("v", .val (.str y.v))] : Sg)) (by kernel_rfl!)
      refine x_exs (xs_next (σ1 := ([("l", .val (.list L)), ("parsed", .md l2), ("elt", .val (.str xs)), ("k", .val (.str xk)), ("v", .val (.str xv))] : Sg)) ?_ (xs_exc (x_ifx ?_)))
      · with_reducible apply x_unp
        · decide +kernel
        (repeat (((try (walk_at "kr")); (repeat (refine .trans (by (simp -dsimp only [rW, rN, ↓ite_and, ↓ite_or, ↓reduceIte, if_true, if_false, rK, Zd, Ze, Zn, Zo, Zp, *]; exact rfl)) ?_; (try (walk_at "kr")))); with_reducible exact rfl)))
      · ((try (walk_at "kr")); (repeat (refine .trans (by (simp -dsimp only [rW, rN, ↓ite_and, ↓ite_or, ↓reduceIte, if_true, if_false, rK, Zd, Ze, Zn, Zo, Zp, *]; exact rfl)) ?_; (try (walk_at "kr")))); with_reducible exact rfl)

end
section
noncomputable def mid {α : Type} (l : List α) : List α := (l.drop 1).take (l.length - 2)
noncomputable def peel1 (q : Nat) (l : List Nat) : List Nat := if l ≠ [] ∧ l.getD 0 0 = q ∧ l.getD (l.length - 1) 0 = q then mid l else l
noncomputable def peelN (q : Nat) (l : List Nat) : Nat → List Nat
  | 0 => l
  | n + 1 => peel1 q (peelN q l n)
theorem clip1 (n : Nat) (h : 1 ≤ n) : clipAt n 1 = 1 := by unfold clipAt; rw [if_neg (by decide), Int.min_eq_left (by omega), Int.max_eq_right (by decide)]; rfl
theorem clipm (n : Nat) (h : 1 ≤ n) : clipAt n (-1) = n - 1 := by
  unfold clipAt
  rw [if_pos (by decide), show (-1 + (n : Int)) = ((n - 1 : Nat) : Int) by omega, Int.min_eq_left (by omega), Int.max_eq_right (by omega)]; rfl
theorem cut_mid {α : Type} (l : List α) : cutL l (some 1) (some (-1)) = mid l := by
  unfold cutL mid
  simp only [Option.elim_some]
  rcases l with _ | ⟨a, r⟩
  · rfl
  · have h : 1 ≤ (a :: r).length := by simp
    rw [clip1 _ h, clipm _ h]; congr 1
theorem slice_nD (l : List Nat) (h : l.length ≤ 1048576) : sliceD (nD l) (some (.int 1)) (some (.int (-1))) none = some (nD (mid l)) := by
  show (if (l.map fun k : Nat => D.int k).length ≤ big then some (D.list (cutL (l.map fun k : Nat => D.int k) (some 1) (some (-1)))) else none) = _
  rw [if_pos (by rw [List.length_map]; exact h), cut_mid]
  simp [mid, nD]
theorem eq_nil (l : List D) : cmpD .Eq (.list l) (.list []) = some l.isEmpty := by cases l <;> rfl
theorem eq_nilN (l : List Nat) : cmpD .Eq (nD l) (.list []) = some l.isEmpty := by cases l <;> rfl
theorem get_nD {l : List Nat} {k : Nat} (h : k < l.length) (hb : l.length ≤ 1048576) : getD (nD l) (.int (k : Int)) = .ok (.int (l.getD k 0 : Nat)) := by
  refine get_list ?_ (by omega)
  simp [h, List.getD]
theorem get_nDm {l : List Nat} (h : 0 < l.length) : getD (nD l) (.int (-1)) = .ok (.int (l.getD (l.length - 1) 0 : Nat)) := by
  refine get_listm ?_ (by rw [List.length_map]; exact h)
  have h' : l.length - 1 < l.length := by omega
  rw [List.length_map]
  simp [h', List.getD]
theorem nat_eq (a b : Nat) : ((a : Int) = (b : Int)) = (a = b) := propext Int.ofNat_inj
theorem mid_len {α : Type} (l : List α) : (mid l).length ≤ l.length := by rw [mid, List.length_take]; exact Nat.le_trans (Nat.min_le_left ..) (Nat.sub_le ..)
theorem peel1_len (q : Nat) (l : List Nat) : (peel1 q l).length ≤ l.length := by
  unfold peel1; split
  · exact mid_len l
  · exact Nat.le_refl _
noncomputable def Pe.st (l : List Nat) (q t : Nat) (a : List Nat × Option Nat) : Sg := ([("figures", .val (nD l)), ("quote", .val (.int q)), ("turns", .val (.int t)), ("left", .val (nD a.1))] : Sg) ++ (match a.2 with | none => [] | some b => ([("turn", .val (.int b))] : Sg))
theorem peel_fold (q : Nat) (l : List Nat) : ∀ t, ((List.range t).foldl (fun (a : List Nat × Option Nat) b => (peel1 q a.1, some b)) (l, none)).1 = peelN q l t
  | 0 => rfl
  | t + 1 => by rw [List.range_succ, List.foldl_append]; show peel1 q _ = peel1 q _; rw [peel_fold q l t]
theorem c_peeled (n : Nat) (l : List Nat) (q t : Nat) (h : l.length ≤ 8) (ht : t ≤ 100) : (fns g1 (n + 40)).call (.obj 194) [nD l, .int q, .int t] [] = .ok (nD (peelN q l t)) := by
  obtain ⟨f, hf⟩ : ∃ f, g1.fn 194 = some f := ⟨_, rfl⟩
  have h0 : t ≤ 4096 := by omega
  have h1 : t ≤ 1048576 := by omega
  apply x_callP (bs := [("figures", nD l), ("quote", .int q), ("turns", .int t)]) hf (by cases hf; rfl)
  (walk_at "kr"; with_reducible exact rfl)
  cases hf
  (repeat (first | with_reducible apply xp_exs | (with_reducible apply xp_next; with_reducible apply x_set; (focus decide +kernel)) | (with_reducible apply xp_step; with_reducible apply x_for; (focus decide +kernel)) | (with_reducible show (_ : Nat) ≤ _; (focus (simp only [big_eq, rL] at *; omega))) | ((try (walk_at "kr")); (repeat ((with_reducible show _ = _); refine .trans (by (simp -dsimp only [rW, rN, ↓ite_and, ↓ite_or, ↓reduceIte, if_true, if_false, rK, Zd, Ze, Zn, Zo, Zp, *]; exact rfl)) ?_; (try (walk_at "kr")))); with_reducible exact rfl)))
  apply forL_run (Pe.st l q t) (fun k : Nat => D.int k) (fun (a : List Nat × Option Nat) b => (peel1 q a.1, some b)) (fun r a => a.1.length ≤ 8) (List.range t) (l, none)
  · rfl
  · exact h
  · rintro ⟨x, last⟩ b r hI
    have hI : x.length ≤ 8 := hI
    refine ⟨Nat.le_trans (peel1_len q x) hI, .inl ?_⟩
    have e0 := eq_nilN x
    have e1 := eq_nil
    have e2 := slice_nD x (by omega)
    have e3 := nat_eq
    apply x_body (σ1 := ([("figures", .val (nD l)), ("quote", .val (.int q)), ("turns", .val (.int t)), ("left", .val (nD x)), ("turn", .val (.int b))] : Sg)) (by cases last <;> kernel_rfl!)
    show _ = R.ok (([("figures", .val (nD l)), ("quote", .val (.int q)), ("turns", .val (.int t)), ("left", .val (nD (peel1 q x))), ("turn", .val (.int b))] : Sg), Fl.next)
    rcases x with _ | ⟨a, r⟩
    · rw [show peel1 q [] = [] from rfl]
      have e4 : cmpD .Eq (nD []) (.list []) = some true := rfl
      have e5 : cmpD .Eq (.list [.int 0, .int (-1)]) (.list []) = some false := rfl
      clear h0 h1 h ht hI e2 e1 e0
      with_reducible apply x_exs
      with_reducible apply xs_step
      with_reducible apply x_iff
      · ((try (walk_at "kr")))
        rw [show ([.int 0, .int (-1)] : List D) = ([0, -1] : List Int).map D.int from rfl, compL_fil D.int (fun _ => true) D.int [0, -1] ?_ ?_]
        · rw [show (([0, -1] : List Int).filter (fun _ => true)).map D.int = ([.int 0, .int (-1)] : List D) from rfl]
          ((try (walk_at "kr")); (repeat (refine .trans (by (simp -dsimp only [rW, rN, ↓ite_and, ↓ite_or, ↓reduceIte, if_true, if_false, rK, Zd, Ze, Zn, Zo, Zp, *]; exact rfl)) ?_; (try (walk_at "kr")))); with_reducible exact rfl)
        · intro p hp
          clear hp
          ((try (walk_at "kr")); (repeat (refine .trans (by (simp -dsimp only [rW, rN, ↓ite_and, ↓ite_or, ↓reduceIte, if_true, if_false, rK, Zd, Ze, Zn, Zo, Zp, *]; exact rfl)) ?_; (try (walk_at "kr")))); with_reducible exact rfl)
        · intro p hp _
          clear hp
          (walk_at "kr"; with_reducible exact rfl)
      · (repeat ((with_reducible first | exact xs_nil | apply x_exs)))
      · (repeat ((with_reducible first | exact xs_nil | apply sk_n)))
    · have g0 := get_nD (l := a :: r) (k := 0) (by simp) (by omega)
      have g0 : getD (nD (a :: r)) (.int 0) = .ok (.int ((a :: r).getD 0 0 : Nat)) := g0
      have g1' := get_nDm (l := a :: r) (by simp)
      have e4 : cmpD .Eq (nD (a :: r)) (.list []) = some false := rfl
      have hp : peel1 q (a :: r) = if (a :: r).getD 0 0 = q ∧ (a :: r).getD ((a :: r).length - 1) 0 = q then mid (a :: r) else a :: r := by
        unfold peel1; simp only [ne_eq, reduceCtorEq, not_false_eq_true, true_and]
      clear h0 h1 h ht hI e0
      rw [hp]
      clear hp
      generalize (a :: r).getD 0 0 = u at *
      generalize (a :: r).getD ((a :: r).length - 1) 0 = v at *
      generalize a :: r = x at *
      have hE : ((([0, -1] : List Int).filter (fun p => if p = 0 then decide (¬ u = q) else decide (¬ v = q))).map D.int).isEmpty = decide (u = q ∧ v = q) := by
        by_cases c0 : u = q <;> by_cases c1 : v = q <;> simp [c0, c1]
      have hE' := e1 ((([0, -1] : List Int).filter (fun p => if p = 0 then decide (¬ u = q) else decide (¬ v = q))).map D.int)
      rw [hE] at hE'
      clear hE e1
      by_cases c : u = q ∧ v = q
      · rw [if_pos c]
        rw [decide_eq_true c] at hE'
        with_reducible apply x_exs
        with_reducible apply xs_step
        with_reducible apply x_ift
        · ((try (walk_at "kr")))
          rw [show ([.int 0, .int (-1)] : List D) = ([0, -1] : List Int).map D.int from rfl, compL_fil D.int (fun p => if p = 0 then decide (¬ u = q) else decide (¬ v = q)) D.int [0, -1] ?_ ?_]
          · clear g0 g1' e2 e3 e4 c
            ((try (walk_at "kr")); (repeat (refine .trans (by (simp -dsimp only [rW, rN, ↓ite_and, ↓ite_or, ↓reduceIte, if_true, if_false, rK, Zd, Ze, Zn, Zo, Zp, *]; exact rfl)) ?_; (try (walk_at "kr")))); with_reducible exact rfl)
          · clear hE' c
            intro p hp
            rcases (by simpa using hp : p = 0 ∨ p = -1) with rfl | rfl
            · clear hp
              ((try (walk_at "kr")); (repeat (refine .trans (by (simp -dsimp only [rW, rN, ↓ite_and, ↓ite_or, ↓reduceIte, if_true, if_false, rK, Zd, Ze, Zn, Zo, Zp, *]; exact rfl)) ?_; (try (walk_at "kr")))))
              by_cases c : u = q <;> simp [c]
            · clear hp
              ((try (walk_at "kr")); (repeat (refine .trans (by (simp -dsimp only [rW, rN, ↓ite_and, ↓ite_or, ↓reduceIte, if_true, if_false, rK, Zd, Ze, Zn, Zo, Zp, *]; exact rfl)) ?_; (try (walk_at "kr")))))
              by_cases c : v = q <;> simp [c]
          · clear hE' c
            intro p hp _
            clear hp
            (walk_at "kr"; with_reducible exact rfl)
        · (repeat (first | (with_reducible first | exact xs_nil | apply x_exs) | (with_reducible apply xs_next; with_reducible apply x_set; (focus decide +kernel)) | ((try (walk_at "kr")); (repeat (refine .trans (by (simp -dsimp only [rW, rN, ↓ite_and, ↓ite_or, ↓reduceIte, if_true, if_false, rK, Zd, Ze, Zn, Zo, Zp, *]; exact rfl)) ?_; (try (walk_at "kr")))); with_reducible exact rfl)))
        · (repeat ((with_reducible first | exact xs_nil | apply sk_n)))
      · rw [if_neg c]
        rw [decide_eq_false c] at hE'
        with_reducible apply x_exs
        with_reducible apply xs_step
        with_reducible apply x_iff
        · ((try (walk_at "kr")))
          rw [show ([.int 0, .int (-1)] : List D) = ([0, -1] : List Int).map D.int from rfl, compL_fil D.int (fun p => if p = 0 then decide (¬ u = q) else decide (¬ v = q)) D.int [0, -1] ?_ ?_]
          · clear g0 g1' e2 e3 e4 c
            ((try (walk_at "kr")); (repeat (refine .trans (by (simp -dsimp only [rW, rN, ↓ite_and, ↓ite_or, ↓reduceIte, if_true, if_false, rK, Zd, Ze, Zn, Zo, Zp, *]; exact rfl)) ?_; (try (walk_at "kr")))); with_reducible exact rfl)
          · clear hE' c
            intro p hp
            rcases (by simpa using hp : p = 0 ∨ p = -1) with rfl | rfl
            · clear hp
              ((try (walk_at "kr")); (repeat (refine .trans (by (simp -dsimp only [rW, rN, ↓ite_and, ↓ite_or, ↓reduceIte, if_true, if_false, rK, Zd, Ze, Zn, Zo, Zp, *]; exact rfl)) ?_; (try (walk_at "kr")))))
              by_cases c : u = q <;> simp [c]
            · clear hp
              ((try (walk_at "kr")); (repeat (refine .trans (by (simp -dsimp only [rW, rN, ↓ite_and, ↓ite_or, ↓reduceIte, if_true, if_false, rK, Zd, Ze, Zn, Zo, Zp, *]; exact rfl)) ?_; (try (walk_at "kr")))))
              by_cases c : v = q <;> simp [c]
          · clear hE' c
            intro p hp _
            clear hp
            (walk_at "kr"; with_reducible exact rfl)
        · (repeat ((with_reducible first | exact xs_nil | apply x_exs)))
        · (repeat ((with_reducible first | exact xs_nil | apply sk_n)))
  · have hN := peel_fold q l t
    generalize (List.range t).foldl (fun (a : List Nat × Option Nat) b => (peel1 q a.1, some b)) (l, none) = a at hN ⊢
    obtain ⟨N, last⟩ := a
    have hN : N = peelN q l t := hN
    subst hN
    clear h0 h1 h ht
    generalize peelN q l t = N
    cases last <;> (simp only [Pe.st]; (repeat (first | (with_reducible first | apply rt_ret | apply xp_skn) | (walk_at "kr"; with_reducible exact rfl))))

end
section
section
variable {β κ : Type} [DecidableEq κ] (K : β → κ)
noncomputable def lastOf (rows : List β) (d : β) (k : κ) : β := ((rows.filter fun r => decide (K r = k)).getLast?).getD d
noncomputable def addKey (ks : List κ) (r : β) : List κ := if K r ∈ ks then ks else ks ++ [K r]
noncomputable def firsts (rows : List β) : List κ := rows.foldl (addKey K) []
noncomputable def lastL (rows : List β) (d : β) : List β := (firsts K rows).map (lastOf K rows d)
end
theorem anyD_str (x : Str) : ∀ ks : List Str, anyD (.str x) (ks.map .str) = some (decide (x ∈ ks))
  | [] => rfl
  | y :: r => by
    rw [List.map_cons, anyD, anyD_str x r]
    show some ((y == x) || decide (x ∈ r)) = _
    by_cases h : x = y
    · subst h; simp
    · have h' : ¬ y = x := fun e => h e.symm
      simp [h, h']
theorem notin_str (x : Str) (ks : List Str) : cmpD .NotIn (.str x) (.list (ks.map .str)) = some (!decide (x ∈ ks)) := by
  show (anyD (.str x) (ks.map .str)).map (!·) = _
  rw [anyD_str]; rfl
noncomputable def RowOK (l : List Nat) : Prop := 4 ≤ l.length ∧ l.length ≤ 8 ∧ ∀ b ∈ l, b < 64
structure La where
  ks : List Str
  ls : List (List Nat)
  last : Option (List Nat)
noncomputable def La.st (rows : List (List Nat)) (a : La) : Sg := ([("rows", .val (.list (rows.map nD))), ("names", .ml (a.ks.map .str)), ("last", .ml (a.ls.map nD))] : Sg) ++ (match a.last with | none => [] | some r => ([("row", .val (nD r)), ("name", .val (.str (nameS r)))] : Sg))
noncomputable def La.step (rows : List (List Nat)) (a : La) (r : List Nat) : La := if nameS r ∈ a.ks then ⟨a.ks, a.ls, some r⟩ else ⟨a.ks ++ [nameS r], a.ls ++ [lastOf nameS rows [] (nameS r)], some r⟩
noncomputable def La.I (rows : List (List Nat)) (r : List (List Nat)) (a : La) : Prop := a.ks.length + r.length ≤ 1000 ∧ a.ls.length = a.ks.length ∧ ∀ x ∈ r, x ∈ rows
theorem La.fold (rows : List (List Nat)) : ∀ (l : List (List Nat)) (a : La), a.ls = a.ks.map (lastOf nameS rows []) → (l.foldl (La.step rows) a).ls = (l.foldl (addKey nameS) a.ks).map (lastOf nameS rows [])
  | [], a, h => h
  | r :: l, a, h => by
    rw [List.foldl_cons, List.foldl_cons]
    have : (La.step rows a r).ks = addKey nameS a.ks r := by unfold La.step addKey; split <;> rfl
    rw [← this]
    refine La.fold rows l _ ?_
    unfold La.step
    split
    · exact h
    · simp [h]
theorem lastOf_get (rows : List (List Nat)) (r : List Nat) (h : r ∈ rows) : ((rows.filter fun x => decide (nameS x = nameS r)).map nD)[((rows.filter fun x => decide (nameS x = nameS r)).map nD).length - 1]? = some (nD (lastOf nameS rows [] (nameS r))) ∧ 0 < ((rows.filter fun x => decide (nameS x = nameS r)).map nD).length := by
  have hm : r ∈ rows.filter fun x => decide (nameS x = nameS r) := List.mem_filter.mpr ⟨h, by simp⟩
  unfold lastOf
  generalize (rows.filter fun x => decide (nameS x = nameS r)) = L at hm
  have hl : 0 < L.length := List.length_pos_of_mem hm
  refine ⟨?_, by rw [List.length_map]; exact hl⟩
  rw [List.length_map, List.getElem?_map, List.getLast?_eq_getElem?]
  have : L.length - 1 < L.length := by omega
  simp [this]
theorem c_last (n : Nat) (rows : List (List Nat)) (h : rows.length ≤ 900) (hr : ∀ r ∈ rows, RowOK r) : (fns g1 (n + 50)).call (.obj 220) [.list (rows.map nD)] [] = .ok (.list ((lastL nameS rows []).map nD)) := by
  obtain ⟨f, hf⟩ : ∃ f, g1.fn 220 = some f := ⟨_, rfl⟩
  have h0 : rows.length ≤ 1048576 := by omega
  apply x_callP (bs := [("rows", .list (rows.map nD))]) hf (by cases hf; rfl)
  (walk_at "kr"; with_reducible exact rfl)
  cases hf
  (repeat (first | with_reducible apply xp_exs | (with_reducible apply xp_next; with_reducible apply x_newl; (focus decide +kernel)) | (with_reducible apply xp_step; with_reducible apply x_for; (focus decide +kernel)) | (with_reducible show (_ : Nat) ≤ _; (focus (simp only [big_eq, rL] at *; omega))) | ((try (walk_at "kr")); with_reducible exact rfl)))
  apply forL_run (La.st rows) nD (La.step rows) (La.I rows) rows ⟨[], [], none⟩
  · rfl
  · exact ⟨by simpa using (by omega : rows.length ≤ 1000), rfl, fun _ m => m⟩
  · rintro ⟨ks, ls, last⟩ r rest hI
    obtain ⟨i1, i2, i3⟩ := hI
    have hm := i3 r (List.mem_cons_self ..)
    obtain ⟨o1, o2, o3⟩ := hr r hm
    have nm : ∀ n, (fns g1 (n + 30)).call (.obj 189) [nD r] [] = .ok (.str (nameS r)) := fun n => c_name n r o1 o2 o3
    have ni := notin_str (nameS r) ks
    dsimp only at i1 i2
    rw [List.length_cons] at i1
    have b1 : ks.length ≤ 1048576 := by omega
    have b2 : ls.length ≤ 1048576 := by omega
    have nms : ∀ x ∈ rows, ∀ n, (fns g1 (n + 30)).call (.obj 189) [nD x] [] = .ok (.str (nameS x)) := fun x hx n => c_name n x (hr x hx).1 (hr x hx).2.1 (hr x hx).2.2
    by_cases c : nameS r ∈ ks
    · rw [show La.step rows ⟨ks, ls, last⟩ r = ⟨ks, ls, some r⟩ from if_pos c]
      refine ⟨⟨by dsimp only; omega, i2, fun x m => i3 x (List.mem_cons_of_mem _ m)⟩, .inl ?_⟩
      rw [decide_eq_true c] at ni
      clear i1 i2 i3 hm o1 o2 o3 h h0 hr nms
      cases last with
      | none => (apply x_body (σ1 := ([("rows", .val (.list (rows.map nD))), ("names", .ml (ks.map .str)), ("last", .ml (ls.map nD)), ("row", .val (nD r))] : Sg)) (by kernel_rfl!); (repeat (first | (with_reducible first | exact xs_nil | apply x_exs | apply cd_f | apply sk_n) | (with_reducible apply xs_nil'; kernel_rfl!) | (with_reducible apply xs_next; with_reducible apply x_set; (focus decide +kernel)) | (with_reducible apply xs_step; with_reducible apply x_if) | ((try (walk_at "kr")); (repeat (refine .trans (by (simp -dsimp only [rW, rN, ↓ite_and, ↓ite_or, ↓reduceIte, if_true, if_false, rK, Zd, Ze, Zn, Zo, Zp, *]; exact rfl)) ?_; (try (walk_at "kr")))); with_reducible exact rfl))))
      | some y => (apply x_body (σ1 := ([("rows", .val (.list (rows.map nD))), ("names", .ml (ks.map .str)), ("last", .ml (ls.map nD)), ("row", .val (nD r)), ("name", .val (.str (nameS y)))] : Sg)) (by kernel_rfl!); (repeat (first | (with_reducible first | exact xs_nil | apply x_exs | apply cd_f | apply sk_n) | (with_reducible apply xs_nil'; kernel_rfl!) | (with_reducible apply xs_next; with_reducible apply x_set; (focus decide +kernel)) | (with_reducible apply xs_step; with_reducible apply x_if) | ((try (walk_at "kr")); (repeat (refine .trans (by (simp -dsimp only [rW, rN, ↓ite_and, ↓ite_or, ↓reduceIte, if_true, if_false, rK, Zd, Ze, Zn, Zo, Zp, *]; exact rfl)) ?_; (try (walk_at "kr")))); with_reducible exact rfl))))
    · rw [show La.step rows ⟨ks, ls, last⟩ r = ⟨ks ++ [nameS r], ls ++ [lastOf nameS rows [] (nameS r)], some r⟩ from if_neg c]
      refine ⟨⟨by simp; omega, by simp [i2], fun x m => i3 x (List.mem_cons_of_mem _ m)⟩, .inl ?_⟩
      rw [decide_eq_false c] at ni
      obtain ⟨l1, l2⟩ := lastOf_get rows r hm
      have gl := get_listm l1 l2
      have bk : ∀ d : D, (ks.map D.str).length ≤ 1048576 ∧ (ls.map nD).length ≤ 1048576 := fun d => by rw [List.length_map, List.length_map]; exact ⟨b1, b2⟩
      clear l1 l2 i1 i2 i3 hm o1 o2 o3 h hr
      simp only [La.st, List.map_append, List.map_cons, List.map_nil]
      cases last with
      | none =>
        apply x_body (σ1 := ([("rows", .val (.list (rows.map nD))), ("names", .ml (ks.map .str)), ("last", .ml (ls.map nD)), ("row", .val (nD r))] : Sg)) (by kernel_rfl!)
        (repeat (first | (with_reducible first | apply x_exs | apply cd_t) | (with_reducible apply xs_next; with_reducible apply x_set; (focus decide +kernel)) | (with_reducible apply xs_next; with_reducible apply x_app; (focus decide +kernel)) | (with_reducible apply xs_step; with_reducible apply x_if) | (with_reducible show (_ : Nat) ≤ _; (focus (simp only [big_eq, rL] at *; omega))) | ((try (walk_at "kr")); (repeat (refine .trans (by (simp -dsimp only [rW, rN, ↓ite_and, ↓ite_or, ↓reduceIte, if_true, if_false, rK, Zd, Ze, Zn, Zo, Zp, *]; exact rfl)) ?_; (try (walk_at "kr")))); with_reducible exact rfl)))
        ((try (walk_at "kr")); (repeat (refine .trans (by (simp -dsimp only [rW, rN, ↓ite_and, ↓ite_or, ↓reduceIte, if_true, if_false, rK, Zd, Ze, Zn, Zo, Zp, *]; exact rfl)) ?_)))
        rw [compL_fil nD (fun x => decide (nameS x = nameS r)) nD rows ?_ ?_]
        · ((try (walk_at "kr")); (repeat (refine .trans (by (simp -dsimp only [rW, rN, ↓ite_and, ↓ite_or, ↓reduceIte, if_true, if_false, rK, Zd, Ze, Zn, Zo, Zp, *]; exact rfl)) ?_)); with_reducible exact rfl)
        · clear gl nm
          intro x hx
          have nx := nms x hx
          clear nms hx
          ((try (walk_at "kr")); (repeat (refine .trans (by (simp -dsimp only [rW, rN, ↓ite_and, ↓ite_or, ↓reduceIte, if_true, if_false, rK, Zd, Ze, Zn, Zo, Zp, *]; exact rfl)) ?_; (try (walk_at "kr")))))
          try rfl
        · clear gl nm
          intro x hx hq
          clear nms hx hq
          (walk_at "kr"; with_reducible exact rfl)
        (repeat (first | (with_reducible first | exact xs_nil | apply sk_n) | (with_reducible apply xs_nil'; kernel_rfl!) | (walk_at "kr"; with_reducible exact rfl)))
      | some y =>
        apply x_body (σ1 := ([("rows", .val (.list (rows.map nD))), ("names", .ml (ks.map .str)), ("last", .ml (ls.map nD)), ("row", .val (nD r)), ("name", .val (.str (nameS y)))] : Sg)) (by kernel_rfl!)
        (repeat (first | (with_reducible first | apply x_exs | apply cd_t) | (with_reducible apply xs_next; with_reducible apply x_set; (focus decide +kernel)) | (with_reducible apply xs_next; with_reducible apply x_app; (focus decide +kernel)) | (with_reducible apply xs_step; with_reducible apply x_if) | (with_reducible show (_ : Nat) ≤ _; (focus (simp only [big_eq, rL] at *; omega))) | ((try (walk_at "kr")); (repeat (refine .trans (by (simp -dsimp only [rW, rN, ↓ite_and, ↓ite_or, ↓reduceIte, if_true, if_false, rK, Zd, Ze, Zn, Zo, Zp, *]; exact rfl)) ?_; (try (walk_at "kr")))); with_reducible exact rfl)))
        ((try (walk_at "kr")); (repeat (refine .trans (by (simp -dsimp only [rW, rN, ↓ite_and, ↓ite_or, ↓reduceIte, if_true, if_false, rK, Zd, Ze, Zn, Zo, Zp, *]; exact rfl)) ?_)))
        rw [compL_fil nD (fun x => decide (nameS x = nameS r)) nD rows ?_ ?_]
        · ((try (walk_at "kr")); (repeat (refine .trans (by (simp -dsimp only [rW, rN, ↓ite_and, ↓ite_or, ↓reduceIte, if_true, if_false, rK, Zd, Ze, Zn, Zo, Zp, *]; exact rfl)) ?_)); with_reducible exact rfl)
        · clear gl nm
          intro x hx
          have nx := nms x hx
          clear nms hx
          ((try (walk_at "kr")); (repeat (refine .trans (by (simp -dsimp only [rW, rN, ↓ite_and, ↓ite_or, ↓reduceIte, if_true, if_false, rK, Zd, Ze, Zn, Zo, Zp, *]; exact rfl)) ?_; (try (walk_at "kr")))))
          try rfl
        · clear gl nm
          intro x hx hq
          clear nms hx hq
          (walk_at "kr"; with_reducible exact rfl)
        (repeat (first | (with_reducible first | exact xs_nil | apply sk_n) | (with_reducible apply xs_nil'; kernel_rfl!) | (walk_at "kr"; with_reducible exact rfl)))
  · have hN := La.fold rows rows ⟨[], [], none⟩ rfl
    have hN : (rows.foldl (La.step rows) ⟨[], [], none⟩).ls = lastL nameS rows [] := hN
    generalize rows.foldl (La.step rows) ⟨[], [], none⟩ = a at hN ⊢
    obtain ⟨ks, ls, last⟩ := a
    have hN : ls = lastL nameS rows [] := hN
    subst hN
    clear h0 h hr
    cases last <;> (simp only [La.st]; (repeat (first | (with_reducible first | apply rt_ret | apply xp_skn) | (walk_at "kr"; with_reducible exact rfl))))

end
section
noncomputable def oct4 (a b c d : Nat) : List Nat := [a * 4 + b / 16, b % 16 * 16 + c / 4, c % 4 * 64 + d]
noncomputable def En.is (s : En) (L : Nat) (out : List D) : Prop := s.L = L ∧ s.bits = 0 ∧ s.out = out
theorem dv {A B r : Nat} (h : r < B) : (A * B + r) / B = A := by
  rw [Nat.mul_comm, Nat.mul_add_div (Nat.lt_of_le_of_lt (Nat.zero_le _) h), Nat.div_eq_of_lt h, Nat.add_zero]
theorem md {A B r : Nat} (h : r < B) : (A * B + r) % B = r := by rw [Nat.mul_comm, Nat.mul_add_mod, Nat.mod_eq_of_lt h]
theorem dvs {A B r m : Nat} (h : r < B) : (A * B + r) / (B * m) = A / m := by rw [← Nat.div_div_eq_div_mul, dv h]
theorem o0 {a b : Nat} (ha : a < 64) (hb : b < 64) : a * 4 + b / 16 < 256 := by omega
theorem o1 {b c : Nat} (hc : c < 64) : b % 16 * 16 + c / 4 < 256 := by omega
theorem o2 {c d : Nat} (hd : d < 64) : c % 4 * 64 + d < 256 := by omega
theorem n24 (a b c d : Nat) : ((a * 64 + b) * 64 + c) * 64 + d = ((a * 4 + b / 16) * 256 + (b % 16 * 16 + c / 4)) * 256 + (c % 4 * 64 + d) := by omega
theorem octN4 {a b c d : Nat} (ha : a < 64) (hb : b < 64) (hc : c < 64) (hd : d < 64) : octN [a, b, c, d] = oct4 a b c d := by
  have e : octN [a, b, c, d] = [numOf [a, b, c, d] / (256 * 256) % 256, numOf [a, b, c, d] / 256 % 256, numOf [a, b, c, d] / 1 % 256] := by
    show (List.range (4 / 4 * 3)).map _ = _
    rw [show List.range (4 / 4 * 3) = [0, 1, 2] from rfl]
    simp only [List.map_cons, List.map_nil, List.length_cons, List.length_nil]
  rw [e, show numOf [a, b, c, d] = (((0 * 64 + a) * 64 + b) * 64 + c) * 64 + d from rfl, Nat.zero_mul, Nat.zero_add, n24, dvs (o2 hd), dv (o1 hc), dv (o2 hd), md (o1 hc), Nat.div_one, md (o2 hd), Nat.mod_eq_of_lt (o0 ha hb)]
  rfl
theorem octN8 {a b c d a' b' c' d' : Nat} (ha : a < 64) (hb : b < 64) (hc : c < 64) (hd : d < 64) (ha' : a' < 64) (hb' : b' < 64) (hc' : c' < 64) (hd' : d' < 64) :
    octN [a, b, c, d, a', b', c', d'] = oct4 a b c d ++ oct4 a' b' c' d' := by
  have e : octN [a, b, c, d, a', b', c', d'] = [numOf [a, b, c, d, a', b', c', d'] / (256 * (256 * (256 * (256 * 256)))) % 256, numOf [a, b, c, d, a', b', c', d'] / (256 * (256 * (256 * 256))) % 256, numOf [a, b, c, d, a', b', c', d'] / (256 * (256 * 256)) % 256,
    numOf [a, b, c, d, a', b', c', d'] / (256 * 256) % 256, numOf [a, b, c, d, a', b', c', d'] / 256 % 256, numOf [a, b, c, d, a', b', c', d'] / 1 % 256] := by
    show (List.range (8 / 4 * 3)).map _ = _
    rw [show List.range (8 / 4 * 3) = [0, 1, 2, 3, 4, 5] from rfl]
    simp only [List.map_cons, List.map_nil, List.length_cons, List.length_nil]
  have n : numOf [a, b, c, d, a', b', c', d'] = ((((((a * 4 + b / 16) * 256 + (b % 16 * 16 + c / 4)) * 256 + (c % 4 * 64 + d)) * 256 + (a' * 4 + b' / 16)) * 256 + (b' % 16 * 16 + c' / 4)) * 256 + (c' % 4 * 64 + d')) := by
    have h1 := n24 a b c d
    have h2 := n24 a' b' c' d'
    show (((((((0 * 64 + a) * 64 + b) * 64 + c) * 64 + d) * 64 + a') * 64 + b') * 64 + c') * 64 + d' = _
    generalize a * 4 + b / 16 = x0 at *
    generalize b % 16 * 16 + c / 4 = x1 at *
    generalize c % 4 * 64 + d = x2 at *
    generalize a' * 4 + b' / 16 = y0 at *
    generalize b' % 16 * 16 + c' / 4 = y1 at *
    generalize c' % 4 * 64 + d' = y2 at *
    omega
  rw [e, n, dvs (o2 hd'), dvs (o1 hc'), dvs (o0 ha' hb'), dvs (o2 hd), dv (o1 hc), Nat.mod_eq_of_lt (o0 ha hb), dvs (o2 hd'), dvs (o1 hc'), dvs (o0 ha' hb'), dv (o2 hd), md (o1 hc),
    dvs (o2 hd'), dvs (o1 hc'), dv (o0 ha' hb'), md (o2 hd), dvs (o2 hd'), dv (o1 hc'), md (o0 ha' hb'), dv (o2 hd'), md (o1 hc'), Nat.div_one, md (o2 hd')]
  rfl
theorem u8 {x : Nat} (h : x < 256) : x.toUInt8.toNat = x := by
  rw [UInt8.toNat_ofNat']; exact Nat.mod_eq_of_lt h
theorem e4a (M a r : Nat) (ha : a < 64) (hr : r < 4) : (M * 256 + (a * 4 + r)) / 4 % 64 = a := by omega
theorem e4b (a p q r : Nat) (hp : p < 4) (hq : q < 16) (hr : r < 16) : ((a * 4 + p) * 256 + (q * 16 + r)) / 16 % 64 = p * 16 + q := by omega
theorem e4c (q r t d : Nat) (hr : r < 16) (ht : t < 4) (hd : d < 64) : ((q * 16 + r) * 256 + (t * 64 + d)) / 64 % 64 = r * 4 + t := by omega
theorem e4d (M t d : Nat) (hd : d < 64) : (M * 256 + (t * 64 + d)) % 64 = d := by omega
theorem En.four (s : En) {a b c d : Nat} (ha : a < 64) (hb : b < 64) (hc : c < 64) (hd : d < 64) (hs : s.bits = 0) :
    ∃ L l, ((oct4 a b c d).map (·.toUInt8)).foldl En.step s = ⟨L, 0, s.out ++ [a, b, c, d].map (fun k : Nat => .int (encC k : Nat)), l⟩ := by
  obtain ⟨L, bits, out, last⟩ := s
  have hs : bits = 0 := hs
  subst hs
  have k0 : (L % 256 * 256 + (a * 4 + b / 16)) / 4 % 64 = a := e4a _ _ _ ha (Nat.div_lt_of_lt_mul hb)
  have k1 : ((L % 256 * 256 + (a * 4 + b / 16)) % 256 * 256 + (b % 16 * 16 + c / 4)) / 16 % 64 = b := by rw [md (o0 ha hb), e4b a _ _ _ (Nat.div_lt_of_lt_mul hb) (Nat.mod_lt _ (by decide)) (Nat.div_lt_of_lt_mul hc), Nat.div_add_mod' b 16]
  have k2 : (((L % 256 * 256 + (a * 4 + b / 16)) % 256 * 256 + (b % 16 * 16 + c / 4)) % 256 * 256 + (c % 4 * 64 + d)) / 64 % 64 = c := by rw [md (o1 hc), e4c _ _ _ _ (Nat.div_lt_of_lt_mul hc) (Nat.mod_lt _ (by decide)) hd, Nat.div_add_mod' c 4]
  have k3 : (((L % 256 * 256 + (a * 4 + b / 16)) % 256 * 256 + (b % 16 * 16 + c / 4)) % 256 * 256 + (c % 4 * 64 + d)) % 64 = d := e4d _ _ _ hd
  refine ⟨((L % 256 * 256 + (a * 4 + b / 16)) % 256 * 256 + (b % 16 * 16 + c / 4)) % 256 * 256 + (c % 4 * 64 + d), some (c % 4 * 64 + d), ?_⟩
  · simp only [oct4, List.map_cons, List.map_nil, List.foldl_cons, List.foldl_nil]
    rw [show En.step ⟨L, 0, out, last⟩ (a * 4 + b / 16).toUInt8 = ⟨L % 256 * 256 + (a * 4 + b / 16), 2, out ++ [.int (encC a : Nat)], some (a * 4 + b / 16)⟩ by simp only [En.step, u8 (o0 ha hb), k0]; rfl]
    rw [show ∀ M o l, En.step ⟨M, 2, o, l⟩ (b % 16 * 16 + c / 4).toUInt8 = ⟨M % 256 * 256 + (b % 16 * 16 + c / 4), 4, o ++ [.int (encC ((M % 256 * 256 + (b % 16 * 16 + c / 4)) / 16 % 64) : Nat)], some (b % 16 * 16 + c / 4)⟩ from fun M o l => by simp only [En.step, u8 (o1 hc)]; rfl]
    rw [k1]
    rw [show ∀ M o l, En.step ⟨M, 4, o, l⟩ (c % 4 * 64 + d).toUInt8 = ⟨M % 256 * 256 + (c % 4 * 64 + d), 0, o ++ [.int (encC ((M % 256 * 256 + (c % 4 * 64 + d)) / 64 % 64) : Nat)] ++ [.int (encC ((M % 256 * 256 + (c % 4 * 64 + d)) % 64) : Nat)], some (c % 4 * 64 + d)⟩ from fun M o l => by simp only [En.step, u8 (o2 hd)]; rfl]
    rw [k2, k3]
    simp only [List.append_assoc, List.cons_append, List.nil_append, List.map_cons, List.map_nil]
theorem De.four (s : De) {a b c d : Nat} {w x y z : UInt8} (ha : vOf w = a) (hb : vOf x = b) (hc : vOf y = c) (hd : vOf z = d) (hs : s.q = 0) :
    ∃ L i l, [w, x, y, z].foldl De.step s = ⟨0, L, i, s.out ++ (oct4 a b c d).map (fun k : Nat => .int (k : Nat)), l⟩ := by
  obtain ⟨q, L, i, out, last⟩ := s
  have hs : q = 0 := hs
  subst hs
  subst ha hb hc hd
  refine ⟨0, i + 1 + 1 + 1 + 1, some (vOf z), ?_⟩
  simp only [oct4, List.foldl_cons, List.foldl_nil]
  simp [De.step]
theorem De.two (s : De) {w x : UInt8} (hs : s.q = 0) : ([w, x].foldl De.step s).q = 2 := by
  obtain ⟨q, L, i, out, last⟩ := s
  have hs : q = 0 := hs
  subst hs
  simp [De.step]

end
section
noncomputable def Way (q : Nat) (two : Str) (a b : UInt8) : Prop := (q = 62 ∧ two = "\"=" ∧ a = 34 ∧ b = 61) ∨ (q = 63 ∧ two = "=\"" ∧ a = 61 ∧ b = 34)
theorem Way.len {q : Nat} {two : Str} {a b : UInt8} (w : Way q two a b) : two.length = 2 := by
  rcases w with ⟨_, h, _⟩ | ⟨_, h, _⟩ <;> (rw [h]; decide +kernel)
theorem Way.q64 {q : Nat} {two : Str} {a b : UInt8} (w : Way q two a b) : q < 64 := by
  rcases w with ⟨h, _⟩ | ⟨h, _⟩ <;> (rw [h]; decide)
theorem sg1 : ∀ k, k < 64 → sgn "\"=" k < 128 ∧ (sgn "\"=" k = 34 ↔ k = 62) ∧ (mkTab #[34, 61] #[43, 47]).getD (sgn "\"=" k).toUInt8.toNat (sgn "\"=" k).toUInt8 = (encC k).toUInt8 ∧ ((mkTab #[43, 47] #[34, 61]).getD (encC k).toUInt8.toNat (encC k).toUInt8).toNat = sgn "\"=" k := by decide +kernel
theorem sg2 : ∀ k, k < 64 → sgn "=\"" k < 128 ∧ (sgn "=\"" k = 34 ↔ k = 63) ∧ (mkTab #[61, 34] #[43, 47]).getD (sgn "=\"" k).toUInt8.toNat (sgn "=\"" k).toUInt8 = (encC k).toUInt8 ∧ ((mkTab #[43, 47] #[61, 34]).getD (encC k).toUInt8.toNat (encC k).toUInt8).toNat = sgn "=\"" k := by decide +kernel
theorem Way.sg {q : Nat} {two : Str} {a b : UInt8} (w : Way q two a b) : ∀ k, k < 64 → sgn two k < 128 ∧ (sgn two k = 34 ↔ k = q) ∧ (mkTab #[a, b] #[43, 47]).getD (sgn two k).toUInt8.toNat (sgn two k).toUInt8 = (encC k).toUInt8 ∧ ((mkTab #[43, 47] #[a, b]).getD (encC k).toUInt8.toNat (encC k).toUInt8).toNat = sgn two k := by
  rcases w with ⟨rfl, rfl, rfl, rfl⟩ | ⟨rfl, rfl, rfl, rfl⟩
  · exact sg1
  · exact sg2
theorem encC_ok : ∀ k, k < 64 → encC k < 256 ∧ (encC k).toUInt8 ≠ 61 ∧ b64V ((encC k).toUInt8.toNat : Int) < 64 ∧ vOf (encC k).toUInt8 = k := by decide +kernel
theorem up_ok : ∀ k, k < 16 → (upByte (hexN k).toUInt8).toNat = hexD k := by decide +kernel
noncomputable def signs (l : List Nat) : Array UInt8 := (l.map fun k => (encC k).toUInt8).toArray
noncomputable def Row48 (l : List Nat) : Prop := (l.length = 4 ∨ l.length = 8) ∧ ∀ b ∈ l, b < 64
theorem Row48.ok {l : List Nat} (h : Row48 l) : RowOK l := ⟨by rcases h.1 with h | h <;> omega, by rcases h.1 with h | h <;> omega, h.2⟩
theorem len4 {l : List Nat} (h : l.length = 4) : ∃ a b c d, l = [a, b, c, d] := by
  rcases l with _ | ⟨a, _ | ⟨b, _ | ⟨c, _ | ⟨d, _ | ⟨e, r⟩⟩⟩⟩⟩ <;> simp at h
  exact ⟨a, b, c, d, rfl⟩
theorem len8 {l : List Nat} (h : l.length = 8) : ∃ a b c d a' b' c' d', l = [a, b, c, d, a', b', c', d'] := by
  obtain ⟨a, b, c, d, h1⟩ := len4 (l := l.take 4) (by rw [List.length_take]; omega)
  obtain ⟨a', b', c', d', h2⟩ := len4 (l := l.drop 4) (by rw [List.length_drop]; omega)
  refine ⟨a, b, c, d, a', b', c', d', ?_⟩
  rw [← List.take_append_drop 4 l, h1, h2]; rfl
theorem signs_of {l : List Nat} (hl : ∀ b ∈ l, b < 64) (h : l.length ≤ 1000) : tyD "bytes" [.list (l.map fun k : Nat => .int (encC k : Nat))] = some (.bytes (signs l)) := by
  have := tyD_nats (l := l.map encC) (by intro x hx; obtain ⟨k, hk, rfl⟩ := List.mem_map.mp hx; exact (encC_ok k (hl k hk)).1) (by rw [List.length_map]; omega)
  rw [List.map_map, List.map_map] at this
  exact this
theorem octs_list (l : List Nat) : (octs l).toList = (octN l).map (·.toUInt8) := rfl
theorem enc_row {l : List Nat} (h : Row48 l) : tyD "bytes" [enc64 (octs l)] = some (.bytes (signs l)) := by
  rw [← signs_of h.2 (by rcases h.1 with h | h <;> omega)]
  congr 2
  unfold enc64
  rw [octs_list]
  rcases h.1 with h4 | h8
  · obtain ⟨a, b, c, d, rfl⟩ := len4 h4
    have hh := h.2
    simp only [List.mem_cons, List.not_mem_nil, or_false, forall_eq_or_imp, forall_eq] at hh
    obtain ⟨ha, hb, hc, hd⟩ := hh
    rw [octN4 ha hb hc hd]
    obtain ⟨L, x, e⟩ := En.four ⟨0, 0, [], none⟩ ha hb hc hd rfl
    rw [e]
    rfl
  · obtain ⟨a, b, c, d, a', b', c', d', rfl⟩ := len8 h8
    have hh := h.2
    simp only [List.mem_cons, List.not_mem_nil, or_false, forall_eq_or_imp, forall_eq] at hh
    obtain ⟨ha, hb, hc, hd, ha', hb', hc', hd'⟩ := hh
    rw [octN8 ha hb hc hd ha' hb' hc' hd', List.map_append, List.foldl_append]
    obtain ⟨L, x, e⟩ := En.four ⟨0, 0, [], none⟩ ha hb hc hd rfl
    rw [e]
    obtain ⟨L, x, e⟩ := En.four ⟨L, 0, [] ++ [a, b, c, d].map (fun k : Nat => .int (encC k : Nat)), x⟩ ha' hb' hc' hd' rfl
    rw [e]
    rfl
theorem octs_size {l : List Nat} (h : l.length ≤ 8) : (octs l).size ≤ 1000 := by
  rw [octs, List.size_toArray, List.length_map, octN, List.length_map, List.length_range]; omega
noncomputable def writ (l : List Nat) (a b : UInt8) : Array UInt8 := (signs l).map fun y => (mkTab #[43, 47] #[a, b]).getD y.toNat y
theorem b64e_row {q : Nat} {two : Str} {a b : UInt8} (w : Way q two a b) (n : Nat) {l : List Nat} (h : Row48 l) : (fns g1 (n + 40)).call (.obj 146) [.bytes (octs l), .bytes #[a, b]] [] = .ok (.bytes (writ l a b)) :=
  c_b64ea n (octs l) a b (octs_size h.ok.2.1) (enc_row h) (by rw [signs, List.size_toArray, List.length_map]; have := h.ok.2.1; omega)
theorem writ_text {q : Nat} {two : Str} {a b : UInt8} (w : Way q two a b) {l : List Nat} (hl : ∀ b ∈ l, b < 64) : (⟨((writ l a b).toList.map (·.toNat)).toArray⟩ : Str) = textS l two := by
  unfold writ textS signs
  simp only [Array.toList_map, List.map_map]
  congr 2
  refine List.map_congr_left fun k hk => ?_
  exact (w.sg k (hl k hk)).2.2.2
theorem writ_size {a b : UInt8} {l : List Nat} (h : l.length ≤ 8) : (writ l a b).size ≤ 1000 := by
  rw [writ, Array.size_map, signs, List.size_toArray, List.length_map]; omega
theorem clip2 {n : Nat} (h : 2 ≤ n) : clipAt n 2 = 2 := by unfold clipAt; rw [if_neg (by decide), Int.min_eq_left (by omega), Int.max_eq_right (by decide)]; rfl
noncomputable def two8 (l : List Nat) : Array UInt8 := (((octN l).take 2).map (·.toUInt8)).toArray
theorem octN_len (l : List Nat) : (octN l).length = l.length / 4 * 3 := by rw [octN, List.length_map, List.length_range]
theorem slice_two {l : List Nat} (h : RowOK l) : sliceD (.bytes (octs l)) none (some (.int 2)) none = some (.bytes (two8 l)) := by
  show (if (octs l).size ≤ big then some (D.bytes (cutL (octs l).toList none (some 2)).toArray) else none) = _
  rw [if_pos (Nat.le_trans (octs_size h.2.1) (by decide))]
  congr 3
  unfold cutL
  have this : 3 ≤ (octs l).toList.length := by rw [octs_list, List.length_map, octN_len]; have := h.1; omega
  simp only [Option.elim_none, Option.elim_some, List.drop_zero, Nat.sub_zero]
  rw [clip2 (by omega), octs_list, List.map_take]
theorem octN_two {l : List Nat} (h : Row48 l) : ∃ a b c, a < 64 ∧ b < 64 ∧ c < 64 ∧ l.getD 0 0 = a ∧ l.getD 1 0 = b ∧ l.getD 2 0 = c ∧ (octN l).take 2 = [a * 4 + b / 16, b % 16 * 16 + c / 4] := by
  rcases h.1 with h4 | h8
  · obtain ⟨a, b, c, d, rfl⟩ := len4 h4
    have hh := h.2
    simp only [List.mem_cons, List.not_mem_nil, or_false, forall_eq_or_imp, forall_eq] at hh
    obtain ⟨ha, hb, hc, hd⟩ := hh
    exact ⟨a, b, c, ha, hb, hc, rfl, rfl, rfl, by rw [octN4 ha hb hc hd]; rfl⟩
  · obtain ⟨a, b, c, d, a', b', c', d', rfl⟩ := len8 h8
    have hh := h.2
    simp only [List.mem_cons, List.not_mem_nil, or_false, forall_eq_or_imp, forall_eq] at hh
    obtain ⟨ha, hb, hc, hd, ha', hb', hc', hd'⟩ := hh
    exact ⟨a, b, c, ha, hb, hc, rfl, rfl, rfl, by rw [octN8 ha hb hc hd ha' hb' hc' hd']; rfl⟩
noncomputable def hexed (l : List Nat) : Array UInt8 := ((hexNs (two8 l).toList).toArray.map (·.toUInt8)).map upByte
theorem firstN_eq (a b c : Nat) : firstN a b c = (a * 4 + b / 16) * 256 + (b % 16 * 16 + c / 4) := by unfold firstN; omega
theorem nib0 {x y : Nat} (hx : x < 256) (hy : y < 256) : (x * 256 + y) / 4096 % 16 = x / 16 := by
  rw [show 4096 = 256 * 16 from rfl, dvs hy]; exact Nat.mod_eq_of_lt (Nat.div_lt_of_lt_mul hx)
theorem nib1 {x y : Nat} (hy : y < 256) : (x * 256 + y) / 256 % 16 = x % 16 := by rw [dv hy]
theorem nib2 {x y : Nat} (hy : y < 256) : (x * 256 + y) / 16 % 16 = y / 16 := by omega
theorem nib3 {x y : Nat} : (x * 256 + y) % 16 = y % 16 := by omega
theorem hexed_name {l : List Nat} (h : Row48 l) : (⟨((hexed l).toList.map (·.toNat)).toArray⟩ : Str) = nameS l := by
  obtain ⟨a, b, c, ha, hb, hc, e0, e1, e2, e⟩ := octN_two h
  unfold hexed nameS two8
  rw [e, e0, e1, e2]
  have o0 := o0 ha hb
  have o1 := o1 (b := b) hc
  rw [firstN_eq]
  generalize a * 4 + b / 16 = x at *
  generalize b % 16 * 16 + c / 4 = y at *
  unfold name4
  rw [nib0 o0 o1, nib1 o1, nib2 o1, nib3]
  simp only [List.map_cons, List.map_nil, hexNs, List.flatMap_cons, List.flatMap_nil, List.cons_append, List.nil_append, u8 o0, u8 o1, Array.toList_map]
  rw [up_ok _ (Nat.div_lt_of_lt_mul o0), up_ok _ (Nat.mod_lt _ (by decide)), up_ok _ (Nat.div_lt_of_lt_mul o1), up_ok _ (Nat.mod_lt _ (by decide))]
theorem hexed_size {l : List Nat} : (hexed l).size ≤ 1000 := by
  rw [hexed, Array.size_map, Array.size_map, List.size_toArray, hexNs_len, two8]
  simp; omega
theorem two8_size {l : List Nat} : (two8 l).size ≤ 1000 := by
  rw [two8]; simp; omega
theorem b16d_row (n : Nat) {l : List Nat} (h : Row48 l) : (fns g1 (n + 25)).call (.obj 169) [.str (nameS l)] [] = .ok (.bytes (two8 l)) := by
  obtain ⟨a, b, c, ha, hb, hc, e0, e1, e2, e⟩ := octN_two h
  unfold nameS two8
  rw [e, e0, e1, e2]
  unfold name4
  rw [c_b16d n _ _ _ _ (Nat.mod_lt _ (by decide)) (Nat.mod_lt _ (by decide)) (Nat.mod_lt _ (by decide)) (Nat.mod_lt _ (by decide))]
  have o0 := o0 ha hb
  have o1 := o1 (b := b) hc
  rw [firstN_eq, nib0 o0 o1, nib1 o1, nib2 o1, nib3, Nat.div_add_mod', Nat.div_add_mod']
  rfl

end
section
noncomputable def Part (l : List Nat) : Prop := (l.length = 0 ∨ l.length = 2 ∨ l.length = 4 ∨ l.length = 6 ∨ l.length = 8) ∧ ∀ b ∈ l, b < 64
theorem Part.le {l : List Nat} (h : Part l) : l.length ≤ 8 := by rcases h.1 with h | h | h | h | h <;> omega
theorem len2 {α : Type} {l : List α} (h : l.length = 2) : ∃ a b, l = [a, b] := by
  rcases l with _ | ⟨a, _ | ⟨b, _ | ⟨c, r⟩⟩⟩ <;> simp at h
  exact ⟨a, b, rfl⟩
theorem len6 {l : List Nat} (h : l.length = 6) : ∃ a b c d a' b', l = [a, b, c, d, a', b'] := by
  obtain ⟨a, b, c, d, h1⟩ := len4 (l := l.take 4) (by rw [List.length_take]; omega)
  obtain ⟨a', b', h2⟩ := len2 (l := l.drop 4) (by rw [List.length_drop]; omega)
  refine ⟨a, b, c, d, a', b', ?_⟩
  rw [← List.take_append_drop 4 l, h1, h2]; rfl
noncomputable def deF (l : List Nat) : De := (signs l).toList.foldl De.step ⟨0, 0, 0, [], none⟩
theorem signs_list (l : List Nat) : (signs l).toList = l.map fun k => (encC k).toUInt8 := rfl
theorem de_part {l : List Nat} (h : Part l) : (l.length % 4 = 0 → (deF l).q = 0 ∧ (deF l).out = (octN l).map (fun k : Nat => .int (k : Nat))) ∧ (¬ l.length % 4 = 0 → (deF l).q = 2) := by
  unfold deF
  rw [signs_list]
  obtain ⟨hl, hh⟩ := h
  rcases hl with h0 | h2 | h4 | h6 | h8
  · have : l = [] := List.length_eq_zero_iff.mp h0
    subst this
    exact ⟨fun _ => ⟨rfl, rfl⟩, fun q => absurd rfl q⟩
  · obtain ⟨a, b, rfl⟩ := len2 h2
    exact ⟨fun q => absurd q (by simp), fun _ => De.two _ rfl⟩
  · obtain ⟨a, b, c, d, rfl⟩ := len4 h4
    simp only [List.mem_cons, List.not_mem_nil, or_false, forall_eq_or_imp, forall_eq] at hh
    obtain ⟨ha, hb, hc, hd⟩ := hh
    obtain ⟨L, i, x, e⟩ := De.four ⟨0, 0, 0, [], none⟩ (encC_ok a ha).2.2.2 (encC_ok b hb).2.2.2 (encC_ok c hc).2.2.2 (encC_ok d hd).2.2.2 rfl
    refine ⟨fun _ => ?_, fun q => absurd (by simp) q⟩
    rw [octN4 ha hb hc hd]
    simp only [List.map_cons, List.map_nil] at e ⊢
    rw [e]
    exact ⟨rfl, rfl⟩
  · obtain ⟨a, b, c, d, a', b', rfl⟩ := len6 h6
    simp only [List.mem_cons, List.not_mem_nil, or_false, forall_eq_or_imp, forall_eq] at hh
    obtain ⟨ha, hb, hc, hd, ha', hb'⟩ := hh
    obtain ⟨L, i, x, e⟩ := De.four ⟨0, 0, 0, [], none⟩ (encC_ok a ha).2.2.2 (encC_ok b hb).2.2.2 (encC_ok c hc).2.2.2 (encC_ok d hd).2.2.2 rfl
    refine ⟨fun q => absurd q (by simp), fun _ => ?_⟩
    rw [show [a, b, c, d, a', b'] = [a, b, c, d] ++ [a', b'] from rfl, List.map_append, List.foldl_append]
    simp only [List.map_cons, List.map_nil] at e ⊢
    rw [e]
    exact De.two _ rfl
  · obtain ⟨a, b, c, d, a', b', c', d', rfl⟩ := len8 h8
    simp only [List.mem_cons, List.not_mem_nil, or_false, forall_eq_or_imp, forall_eq] at hh
    obtain ⟨ha, hb, hc, hd, ha', hb', hc', hd'⟩ := hh
    obtain ⟨L, i, x, e⟩ := De.four ⟨0, 0, 0, [], none⟩ (encC_ok a ha).2.2.2 (encC_ok b hb).2.2.2 (encC_ok c hc).2.2.2 (encC_ok d hd).2.2.2 rfl
    refine ⟨fun _ => ?_, fun q => absurd (by simp) q⟩
    rw [octN8 ha hb hc hd ha' hb' hc' hd', show [a, b, c, d, a', b', c', d'] = [a, b, c, d] ++ [a', b', c', d'] from rfl, List.map_append, List.foldl_append]
    simp only [List.map_cons, List.map_nil] at e ⊢
    rw [e]
    obtain ⟨L, i, x, e⟩ := De.four ⟨0, L, i, [] ++ (oct4 a b c d).map (fun k : Nat => D.int (k : Nat)), x⟩ (encC_ok a' ha').2.2.2 (encC_ok b' hb').2.2.2 (encC_ok c' hc').2.2.2 (encC_ok d' hd').2.2.2 rfl
    rw [e]
    exact ⟨rfl, by simp⟩
theorem octN_lt (l : List Nat) : ∀ k ∈ octN l, k < 256 := by
  intro k hk
  simp only [octN, List.mem_map] at hk
  obtain ⟨p, _, rfl⟩ := hk
  exact Nat.mod_lt _ (by decide)
theorem bytes_octN {l : List Nat} (h : l.length ≤ 8) : tyD "bytes" [.list ((octN l).map (fun k : Nat => .int (k : Nat)))] = some (.bytes (octs l)) :=
  tyD_nats (octN_lt l) (by rw [octN_len]; omega)
theorem a2b_part (n : Nat) {l : List Nat} (h : Part l) (sm : Bool) : (fns g1 (n + 30)).call (.obj 107) [.bytes (signs l)] [("strict_mode", .bool sm)] = if l.length % 4 = 0 then .ok (.bytes (octs l)) else .exc (.ref 68) "Incorrect padding" := by
  obtain ⟨d1, d2⟩ := de_part h
  refine c_a2b n (signs l) sm (by rw [signs, List.size_toArray, List.length_map]; have := h.le; omega) ?_ ?_ ?_ ?_
  · intro c hc
    rw [signs_list] at hc
    obtain ⟨k, hk, rfl⟩ := List.mem_map.mp hc
    have := encC_ok k (h.2 k hk)
    exact ⟨this.2.1, this.2.2.1⟩
  · intro q
    change (deF l).q = 0 at q
    change R.of (tyD "bytes" [.list (deF l).out]) = _
    by_cases c : l.length % 4 = 0
    · rw [if_pos c, (d1 c).2, bytes_octN h.le]; rfl
    · rw [d2 c] at q; cases q
  · change (deF l).q ≠ 1
    by_cases c : l.length % 4 = 0
    · rw [(d1 c).1]; decide
    · rw [d2 c]; decide
  · intro q
    change (deF l).q ≠ 0 at q
    by_cases c : l.length % 4 = 0
    · exact absurd (d1 c).1 q
    · rw [if_neg c]
theorem text_signs {q : Nat} {two : Str} {a b : UInt8} (w : Way q two a b) {l : List Nat} (hl : ∀ b ∈ l, b < 64) : ((textS l two).cps.map (·.toUInt8)).map (fun y => (mkTab #[a, b] #[43, 47]).getD y.toNat y) = signs l := by
  apply Array.toList_inj.mp
  rw [signs_list, textS]
  simp only [Array.toList_map, List.map_map]
  refine List.map_congr_left fun k hk => ?_
  exact (w.sg k (hl k hk)).2.2.1
theorem text_len (l : List Nat) (two : Str) : (textS l two).length = l.length := by
  show (l.map _).toArray.size = _
  rw [List.size_toArray, List.length_map]
theorem text_ascii {q : Nat} {two : Str} {a b : UInt8} (w : Way q two a b) {l : List Nat} (hl : ∀ b ∈ l, b < 64) : ((textS l two).cps.all fun x => decide (x < 128)) = true := by
  rw [textS, List.all_toArray, List.all_map, List.all_eq_true]
  intro k hk
  exact decide_eq_true (w.sg k (hl k hk)).1
theorem b64d_part {q : Nat} {two : Str} {a b : UInt8} (w : Way q two a b) (n : Nat) {l : List Nat} (h : Part l) : (fns g1 (n + 40)).call (.obj 154) [.str (textS l two), .bytes #[a, b]] [] = if l.length % 4 = 0 then .ok (.bytes (octs l)) else .exc (.ref 68) "Incorrect padding" := by
  refine c_b64da n (textS l two) a b (text_ascii w h.2) (by rw [text_len]; have := h.le; omega) (fun n => ?_) ?_
  · rw [text_signs w h.2]; exact a2b_part n h false
  · split <;> intro e <;> cases e
theorem told_read {q : Nat} {two : Str} {a b : UInt8} (w : Way q two a b) {l : List Nat} (h : Part l) : ∃ d, (∀ n, (fns g1 (n + 60)).call (.obj 208) [.str (textS l two), .bytes #[a, b]] [] = .ok d) ∧ (∀ n, (fns g1 (n + 40)).call (.obj 201) [nD l] [] = .ok d) ∧ cmpD .NotEq d d = some false := by
  by_cases c : l.length % 4 = 0
  · refine ⟨.bytes (octs l), fun n => c_told_ok n _ _ _ fun n => ?_, fun n => c_read_ok n _ _ ?_ ?_ fun n => c_octets n l h.le h.2, ?_⟩
    · rw [b64d_part w n h, if_pos c]
    · rw [List.length_map]; have := h.le; omega
    · rw [List.length_map, fmod_lit, c]; rfl
    · show (some ((octs l).toList == (octs l).toList)).map (!·) = _
      rw [beq_self_eq_true]; rfl
  · refine ⟨.str "Incorrect padding", fun n => c_told_exc n _ _ _ fun n => ?_, fun n => c_read_no n _ ?_ ?_, ?_⟩
    · rw [b64d_part w n h, if_neg c]
    · rw [List.length_map]; have := h.le; omega
    · rw [List.length_map, fmod_lit]; exact fun e => c (Int.ofNat.inj e)
    · show (some (Str.ofString "Incorrect padding" == Str.ofString "Incorrect padding")).map (!·) = _
      rw [beq_self_eq_true]; rfl
theorem mid_len2 {α : Type} (l : List α) : (mid l).length = l.length - 2 := by rw [mid, List.length_take, List.length_drop, Nat.min_eq_left (Nat.sub_le_sub_left (by decide) _)]
set_option tactic.hygienic true in
theorem peel1_part {q : Nat} {l : List Nat} (h : Part l) : Part (peel1 q l) := by
  unfold peel1
  split
  · rename_i c
    refine ⟨?_, fun b hb => h.2 b (List.mem_of_mem_drop (List.mem_of_mem_take hb))⟩
    rw [mid_len2]
    rcases h.1 with h | h | h | h | h <;> rw [h] <;> decide
  · exact h
theorem peelN_part {q : Nat} {l : List Nat} (h : Part l) : ∀ n, Part (peelN q l n)
  | 0 => h
  | n + 1 => peel1_part (peelN_part h n)
theorem Row48.part {l : List Nat} (h : Row48 l) : Part l := ⟨by rcases h.1 with h | h <;> omega, h.2⟩

end
section
theorem lv_out {k : Str} {v : D} {f : Str → D} : ∀ ks : List Str, k ∉ ks → lastVal k v (ks.map fun x => (x, f x)) = (ks.map fun x => (x, f x)) ++ [(k, v)]
  | [], _ => rfl
  | x :: r, h => by
    rw [List.map_cons, lastVal, if_neg (show ¬ x = k from fun e => h (by rw [e]; exact List.mem_cons_self ..)), lv_out r fun m => h (List.mem_cons_of_mem _ m)]
    rfl
theorem lv_in {k : Str} {v : D} {f : Str → D} : ∀ ks : List Str, ks.Nodup → k ∈ ks → lastVal k v (ks.map fun x => (x, f x)) = ks.map fun x => (x, if x = k then v else f x)
  | x :: r, nd, h => by
    obtain ⟨h1, h2⟩ := List.nodup_cons.mp nd
    rw [List.map_cons, lastVal, List.map_cons]
    by_cases e : x = k
    · subst e
      rw [if_pos rfl, if_pos rfl]
      congr 1
      refine List.map_congr_left fun y hy => ?_
      rw [if_neg (show ¬ y = x from fun e => h1 (by rw [← e]; exact hy))]
    · rw [if_neg e, if_neg e, lv_in r h2 ((List.mem_cons.mp h).resolve_left fun q => e q.symm)]
section
variable {β κ : Type} [DecidableEq κ] (K : β → κ)
theorem firsts_snoc (pre : List β) (r : β) : firsts K (pre ++ [r]) = addKey K (firsts K pre) r := by
  unfold firsts; rw [List.foldl_append]; rfl
theorem snoc_rec {P : List β → Prop} (h0 : P []) (h : ∀ l r, P l → P (l ++ [r])) : ∀ l, P l := by
  intro l
  have : ∀ n, ∀ l : List β, l.length = n → P l := by
    intro n
    induction n with
    | zero => intro l e; rw [List.length_eq_zero_iff.mp e]; exact h0
    | succ n ih =>
      intro l e
      rcases List.eq_nil_or_concat l with rfl | ⟨L, b, rfl⟩
      · exact h0
      · rw [List.concat_eq_append] at *
        refine h _ _ (ih L ?_)
        simp at e; exact e
  exact this _ l rfl
set_option tactic.hygienic true in
theorem mem_firsts (rows : List β) : ∀ k, k ∈ firsts K rows ↔ ∃ r ∈ rows, K r = k := by
  refine snoc_rec (P := fun rows => ∀ k, k ∈ firsts K rows ↔ ∃ r ∈ rows, K r = k) ?_ ?_ rows
  · intro k; simp [firsts]
  · intro l r ih k
    rw [firsts_snoc]
    unfold addKey
    split
    · rename_i c
      constructor
      · intro m
        obtain ⟨x, hx, e⟩ := (ih k).mp m
        exact ⟨x, by simp [hx], e⟩
      · rintro ⟨x, hx, rfl⟩
        rcases List.mem_append.mp hx with hx | hx
        · exact (ih _).mpr ⟨x, hx, rfl⟩
        · rw [List.mem_singleton.mp hx]; exact c
    · constructor
      · intro m
        rcases List.mem_append.mp m with m | m
        · obtain ⟨x, hx, e⟩ := (ih k).mp m
          exact ⟨x, by simp [hx], e⟩
        · exact ⟨r, by simp, (List.mem_singleton.mp m).symm⟩
      · rintro ⟨x, hx, rfl⟩
        rcases List.mem_append.mp hx with hx | hx
        · exact List.mem_append_left _ ((ih _).mpr ⟨x, hx, rfl⟩)
        · rw [List.mem_singleton.mp hx]; simp
set_option tactic.hygienic true in
theorem firsts_nodup (rows : List β) : (firsts K rows).Nodup := by
  refine snoc_rec (P := fun rows => (firsts K rows).Nodup) ?_ ?_ rows
  · exact List.nodup_nil
  · intro l r ih
    rw [firsts_snoc]
    unfold addKey
    split
    · exact ih
    · rename_i c
      exact List.nodup_append.mpr ⟨ih, by simp, fun a ha b hb e => c (by rw [← List.mem_singleton.mp hb, ← e]; exact ha)⟩
theorem firsts_len (rows : List β) : (firsts K rows).length ≤ rows.length := by
  refine snoc_rec (P := fun rows => (firsts K rows).length ≤ rows.length) ?_ ?_ rows
  · simp [firsts]
  · intro l r ih
    rw [firsts_snoc]
    unfold addKey
    split <;> simp <;> omega
theorem lastOf_snoc (pre : List β) (r d : β) (k : κ) : lastOf K (pre ++ [r]) d k = if K r = k then r else lastOf K pre d k := by
  unfold lastOf
  rw [List.filter_append]
  by_cases c : K r = k
  · simp [c]
  · simp [c]
theorem lastOf_mem (rows : List β) (d : β) {k : κ} (h : k ∈ firsts K rows) : lastOf K rows d k ∈ rows ∧ K (lastOf K rows d k) = k := by
  obtain ⟨r, hr, e⟩ := (mem_firsts K rows k).mp h
  have hm : r ∈ rows.filter fun x => decide (K x = k) := List.mem_filter.mpr ⟨hr, by simp [e]⟩
  unfold lastOf
  have hl : rows.filter (fun x => decide (K x = k)) ≠ [] := List.ne_nil_of_mem hm
  rw [List.getLast?_eq_some_getLast hl, Option.getD_some]
  have := List.mem_filter.mp (List.getLast_mem hl)
  exact ⟨this.1, by simpa using this.2⟩
theorem lastL_key (rows : List β) (d : β) : (lastL K rows d).map K = firsts K rows := by
  unfold lastL
  rw [List.map_map]
  conv => rhs; rw [← List.map_id (firsts K rows)]
  exact List.map_congr_left fun k hk => (lastOf_mem K rows d hk).2
theorem lastL_mem (rows : List β) (d : β) : ∀ r ∈ lastL K rows d, r ∈ rows := by
  intro r hr
  obtain ⟨k, hk, rfl⟩ := List.mem_map.mp hr
  exact (lastOf_mem K rows d hk).1
end
set_option tactic.hygienic true in
theorem put_all {β : Type} (K : β → Str) (V : β → D) (d : β) (rows : List β) : rows.foldl (fun l r => putIn (K r) (V r) l) [] = (lastL K rows d).map fun r => (K r, V r) := by
  have h : ∀ rows : List β, rows.foldl (fun l r => putIn (K r) (V r) l) [] = (firsts K rows).map fun k => (k, V (lastOf K rows d k)) := by
    refine snoc_rec ?_ ?_
    · rfl
    · intro l r ih
      rw [List.foldl_append, List.foldl_cons, List.foldl_nil, ih, firsts_snoc]
      unfold putIn addKey
      split
      · rename_i c
        rw [lv_in _ (firsts_nodup K l) c]
        refine List.map_congr_left fun k hk => ?_
        rw [lastOf_snoc]
        by_cases e : k = K r
        · subst e; simp
        · rw [if_neg e, if_neg fun q => e q.symm]
      · rename_i c
        rw [lv_out _ c, List.map_append]
        congr 1
        · refine List.map_congr_left fun k hk => ?_
          rw [lastOf_snoc, if_neg (show ¬ K r = k from fun q => c (by rw [q]; exact hk))]
        · simp [lastOf_snoc]
  rw [h]
  unfold lastL
  rw [List.map_map]
  refine List.map_congr_left fun k hk => ?_
  show _ = (K (lastOf K rows d k), _)
  rw [(lastOf_mem K rows d hk).2]
theorem put_nodup {β : Type} (K : β → Str) (V : β → D) (rows : List β) (h : (rows.map K).Nodup) : rows.foldl (fun l r => putIn (K r) (V r) l) [] = rows.map fun r => (K r, V r) := by
  have aux : ∀ (rest pre : List β), ((pre ++ rest).map K).Nodup → rest.foldl (fun l r => putIn (K r) (V r) l) (pre.map fun r => (K r, V r)) = (pre ++ rest).map fun r => (K r, V r) := by
    intro rest
    induction rest with
    | nil => intro pre _; simp
    | cons r rest ih =>
      intro pre nd
      rw [List.foldl_cons]
      have e : putIn (K r) (V r) (pre.map fun r => (K r, V r)) = (pre ++ [r]).map fun r => (K r, V r) := by
        have hk : ∀ x ∈ pre, K x ≠ K r := by
          intro x hx e
          rw [List.map_append, List.nodup_append] at nd
          exact nd.2.2 _ (List.mem_map_of_mem hx) _ (List.mem_map_of_mem (List.mem_cons_self ..)) e
        rw [List.map_append]
        clear nd ih
        unfold putIn
        induction pre with
        | nil => rfl
        | cons x p ih2 =>
          rw [List.map_cons, lastVal, if_neg (hk x (List.mem_cons_self ..)), ih2 fun y m => hk y (List.mem_cons_of_mem _ m)]
          rfl
      rw [e, ih (pre ++ [r]) (by simpa using nd)]
      simp
  exact aux rows [] h

end
section
theorem split1_at {c : Nat} : ∀ (a b : List Nat), c ∉ a → split1 c (a ++ c :: b) = some (a, b)
  | [], b, _ => by rw [List.nil_append, split1, if_pos rfl]
  | x :: r, b, h => by
    rw [List.cons_append, split1, if_neg (show ¬ x = c from fun e => h (by rw [e]; exact List.mem_cons_self ..)), split1_at r b fun m => h (List.mem_cons_of_mem _ m)]
    rfl
theorem eqs_cps : Str.ofString "=" = ⟨#[61]⟩ := by decide +kernel
theorem split_ok {s k v : Str} (h : s.cps.toList = k.cps.toList ++ 61 :: v.cps.toList) (hk : 61 ∉ k.cps.toList) (hs : s.length ≤ 1048576) : methD .split (.str s) [.str "=", .int 1] = some (.list [.str k, .str v]) := by
  rw [md_split, eqs_cps, if_pos ⟨rfl, rfl, by decide⟩, if_pos (show s.length ≤ big from hs)]
  show (match split1 61 s.cps.toList with
        | some (a, b) => some (D.list [.str ⟨a.toArray⟩, .str ⟨b.toArray⟩])
        | none => some (D.list [.str s])) = _
  rw [h, split1_at _ _ hk]
theorem hexD_ne : ∀ k, k < 16 → hexD k ≠ 61 := by decide +kernel
theorem name_ne (l : List Nat) : 61 ∉ (nameS l).cps.toList := by
  unfold nameS name4
  intro h
  simp only [List.mem_cons, List.not_mem_nil, or_false] at h
  rcases h with h | h | h | h <;> exact hexD_ne _ (Nat.mod_lt _ (by decide)) h.symm
theorem name_len (l : List Nat) : (nameS l).length = 4 := rfl
theorem mid_wrap {α : Type} (a z : α) (t : List α) : mid (a :: (t ++ [z])) = t := by
  unfold mid
  simp
noncomputable def q2 : Str := "\"\""
theorem q2_cps : q2 = ⟨#[34, 34]⟩ := by decide +kernel
theorem strip_wrap (t : List Nat) : strip ⟨(34 :: (t ++ [34])).toArray⟩ = ⟨t.toArray⟩ := by
  unfold strip
  rw [if_pos]
  · rw [show ((⟨(34 :: (t ++ [34])).toArray⟩ : Str).cps.toList) = 34 :: (t ++ [34]) from rfl, cut_mid, mid_wrap]
  · refine ⟨rfl, ?_⟩
    show ((34 :: (t ++ [34])).toArray).getD ((34 :: (t ++ [34])).toArray.size - 1) 0 = 34
    simp [Array.getD]
set_option tactic.hygienic true in
theorem arr_getD (l : List Nat) (k : Nat) : l.toArray.getD k 0 = l.getD k 0 := by
  simp [Array.getD, List.getD]
  split
  · rename_i h; rw [List.getElem?_eq_getElem h]; rfl
  · rename_i h; rw [List.getElem?_eq_none (by omega)]; rfl
theorem strip_text {q : Nat} {two : Str} {a b : UInt8} (w : Way q two a b) {l : List Nat} (hl : ∀ b ∈ l, b < 64) (hne : l ≠ []) : strip (textS l two) = textS (peel1 q l) two := by
  have hp : 0 < l.length := List.length_pos_iff.mpr hne
  have g : ∀ k, k < l.length → ((textS l two).cps.getD k 0 = 34 ↔ l.getD k 0 = q) := by
    intro k hk
    show (l.map (sgn two)).toArray.getD k 0 = 34 ↔ _
    rw [arr_getD]
    have e : (l.map (sgn two)).getD k 0 = sgn two (l.getD k 0) := by simp [List.getD, hk]
    rw [e]
    refine (w.sg _ (hl _ ?_)).2.1
    have : l.getD k 0 = l[k] := by simp [List.getD, hk]
    rw [this]; exact List.getElem_mem hk
  unfold strip peel1
  rw [text_len]
  by_cases c : l.getD 0 0 = q ∧ l.getD (l.length - 1) 0 = q
  · rw [if_pos ⟨(g 0 hp).mpr c.1, (g _ (by omega)).mpr c.2⟩, if_pos ⟨hne, c⟩, cut_mid]
    unfold textS mid
    simp
  · rw [if_neg fun x => c ⟨(g 0 hp).mp x.1, (g _ (by omega)).mp x.2⟩, if_neg fun x => c x.2]
theorem text_nil (two : Str) : textS [] two = ⟨#[]⟩ := rfl
theorem strip_q2 (two : Str) : strip q2 = textS [] two := by rw [q2_cps, text_nil]; rfl
section
variable {q : Nat} {two : Str} {a b : UInt8} (w : Way q two a b)
include w
noncomputable def kv0 (two : Str) (r : List Nat) : Kv := ⟨nameS r ++ "=\"" ++ textS r two ++ "\"", nameS r, ⟨(34 :: ((textS r two).cps.toList ++ [34])).toArray⟩⟩
noncomputable def valS (two : Str) (p : List Nat) : Str := if p = [] then q2 else textS p two
noncomputable def kvN (q : Nat) (two : Str) (t : Nat) (r : List Nat) : Kv := ⟨nameS r ++ "=" ++ valS two (peelN q r t), nameS r, valS two (peelN q r t)⟩
noncomputable def kvB (q : Nat) (two : Str) (r : List Nat) : Kv := ⟨nameS r ++ "=" ++ textS (peelN q r 5) two, nameS r, textS (peelN q r 5) two⟩
omit w in
theorem eqq_cps : Str.ofString "=\"" = ⟨#[61, 34]⟩ := by decide +kernel
omit w in
theorem quo_cps : Str.ofString "\"" = ⟨#[34]⟩ := by decide +kernel
omit w in
theorem kv0_ok {r : List Nat} (h : Row48 r) : (kv0 two r).ok ∧ strip (kv0 two r).v = textS r two := by
  have hl := h.ok.2.1
  have tl := text_len r two
  refine ⟨⟨split_ok ?_ (name_ne r) ?_, ?_, ?_⟩, strip_wrap _⟩
  · show (((nameS r).cps ++ (Str.ofString "=\"").cps) ++ (textS r two).cps ++ (Str.ofString "\"").cps).toList = _
    rw [eqq_cps, quo_cps]
    simp [kv0]
  · show (nameS r ++ Str.ofString "=\"" ++ textS r two ++ Str.ofString "\"").length ≤ _
    rw [len_append, len_append, len_append, tl, name_len, eqq_cps, quo_cps]
    show 4 + 2 + r.length + 1 ≤ _
    omega
  · simp [kv0, Str.length]
  · have : (textS r two).cps.size = r.length := tl
    simp [kv0, Str.length]; omega
set_option tactic.hygienic true in
omit w in
theorem val_len {p : List Nat} (h : p.length ≤ 8) : 0 < (valS two p).length ∧ (valS two p).length ≤ 8 := by
  unfold valS
  split
  · rw [q2_cps]; exact ⟨by decide, by decide⟩
  · rename_i c
    rw [text_len]; exact ⟨List.length_pos_iff.mpr c, h⟩
set_option tactic.hygienic true in
theorem val_strip {p : List Nat} (h : Part p) : strip (valS two p) = textS (peel1 q p) two := by
  unfold valS
  split
  · rename_i c; subst c; exact strip_q2 two
  · rename_i c; exact strip_text w h.2 c
omit w in
theorem eq_split {r : List Nat} {v : Str} (hv : v.length ≤ 1000) : methD .split (.str (nameS r ++ "=" ++ v)) [.str "=", .int 1] = some (.list [.str (nameS r), .str v]) := by
  refine split_ok ?_ (name_ne r) ?_
  · show (((nameS r).cps ++ (Str.ofString "=").cps) ++ v.cps).toList = _
    rw [eqs_cps]
    simp
  · rw [len_append, len_append, name_len, eqs_cps]
    show 4 + 1 + v.length ≤ _
    omega
theorem kvN_ok {r : List Nat} (h : Row48 r) (t : Nat) : (kvN q two t r).ok ∧ strip (kvN q two t r).v = textS (peelN q r (t + 1)) two := by
  have hp := peelN_part (q := q) h.part t
  have vl := val_len (two := two) hp.le
  exact ⟨⟨eq_split (by omega), vl.1, by show (valS two _).length ≤ _; omega⟩, val_strip w hp⟩
theorem kvB_ok {r : List Nat} (h : Row48 r) (hne : peelN q r 5 ≠ []) : (kvB q two r).ok ∧ strip (kvB q two r).v = textS (peelN q r 6) two := by
  have hp := peelN_part (q := q) h.part 5
  have tl := text_len (peelN q r 5) two
  have := hp.le
  exact ⟨⟨eq_split (by omega), by show 0 < (textS _ two).length; rw [tl]; exact List.length_pos_iff.mpr hne, by show (textS _ two).length ≤ _; omega⟩, strip_text w hp.2 hne⟩
end
theorem peel_fix (q : Nat) {r : List Nat} (h : Row48 r) : ∀ n, peel1 q (peelN q r n) = peelN q r n ∨ (peelN q r n).length + 2 * n ≤ 8
  | 0 => .inr h.ok.2.1
  | n + 1 => by
    have hp := peelN_part (q := q) h.part n
    show peel1 q (peel1 q (peelN q r n)) = peel1 q (peelN q r n) ∨ (peel1 q (peelN q r n)).length + 2 * (n + 1) ≤ 8
    rcases peel_fix q h n with e | e
    · left; rw [e, e]
    · generalize peelN q r n = p at *
      by_cases c : p ≠ [] ∧ p.getD 0 0 = q ∧ p.getD (p.length - 1) 0 = q
      · right
        have : peel1 q p = mid p := by unfold peel1; rw [if_pos c]
        have h0 : 0 < p.length := List.length_pos_iff.mpr c.1
        have h1 := hp.1
        rw [this, mid_len2]
        omega
      · left
        have : peel1 q p = p := by unfold peel1; rw [if_neg c]
        rw [this, this]
theorem peel_6 (q : Nat) {r : List Nat} (h : Row48 r) : peelN q r 6 = peelN q r 5 := by
  rcases peel_fix q h 5 with e | e
  · exact e
  · omega
theorem peel_rep (q n : Nat) : peel1 q (List.replicate n q) = List.replicate (n - 2) q := by
  unfold peel1
  by_cases c : n = 0
  · subst c; rfl
  · rw [if_pos]
    · unfold mid; simp [Nat.sub_sub]; omega
    · have h0 : 0 < n := by omega
      refine ⟨by simp [c], by simp [List.getD, h0], ?_⟩
      rw [List.length_replicate]
      have : n - 1 < n := by omega
      simp [List.getD, this]
theorem peelN_rep (q n : Nat) : ∀ k, peelN q (List.replicate n q) k = List.replicate (n - 2 * k) q
  | 0 => rfl
  | k + 1 => by
    show peel1 q (peelN q _ k) = _
    rw [peelN_rep q n k, peel_rep]; congr 1
set_option tactic.hygienic true in
theorem peel_all (q : Nat) (l : List Nat) (h : ∀ b ∈ peel1 q l, b = q) : ∀ b ∈ l, b = q := by
  unfold peel1 at h
  split at h
  · rename_i c
    obtain ⟨c0, c1, c2⟩ := c
    rcases l with _ | ⟨x, t⟩
    · exact absurd rfl c0
    · rcases List.eq_nil_or_concat t with rfl | ⟨m, z, rfl⟩
      · intro b hb
        rw [List.mem_singleton.mp hb]; exact c1
      · rw [List.concat_eq_append] at *
        rw [mid_wrap] at h
        have e2 : z = q := by simpa [List.getD] using c2
        have e1 : x = q := c1
        intro b hb
        rcases List.mem_cons.mp hb with rfl | hb
        · exact e1
        · rcases List.mem_append.mp hb with hb | hb
          · exact h b hb
          · rw [List.mem_singleton.mp hb]; exact e2
  · exact h
theorem peelN_all (q : Nat) (l : List Nat) : ∀ n, (∀ b ∈ peelN q l n, b = q) → ∀ b ∈ l, b = q
  | 0, h => h
  | n + 1, h => peelN_all q l n (peel_all q _ h)
theorem peel_empty (q : Nat) {r : List Nat} (h : Row48 r) : peelN q r 5 = [] ↔ r = List.replicate r.length q := by
  constructor
  · intro e
    exact List.eq_replicate_iff.mpr ⟨rfl, peelN_all q r 5 (by rw [e]; intro b hb; exact absurd hb (List.not_mem_nil))⟩
  · intro e
    rw [e, peelN_rep]
    have := h.ok.2.1
    rw [show r.length - 2 * 5 = 0 by omega]
    rfl
theorem first_of {α : Type} {P : α → Prop} [DecidablePred P] : ∀ l : List α, (∃ x ∈ l, P x) → ∃ pre z post, l = pre ++ z :: post ∧ (∀ x ∈ pre, ¬ P x) ∧ P z
  | [], h => by obtain ⟨x, hx, _⟩ := h; exact absurd hx (List.not_mem_nil)
  | x :: r, h => by
    by_cases c : P x
    · exact ⟨[], x, r, rfl, fun y hy => absurd hy (List.not_mem_nil), c⟩
    · obtain ⟨y, hy, hp⟩ := h
      obtain ⟨pre, z, post, e, h1, h2⟩ := first_of r ⟨y, (List.mem_cons.mp hy).resolve_left fun q => c (q ▸ hp), hp⟩
      refine ⟨x :: pre, z, post, by rw [e]; rfl, ?_, h2⟩
      intro u hu
      rcases List.mem_cons.mp hu with rfl | hu
      · exact c
      · exact h1 u hu

end
section
section
variable {β : Type} (mk : β → Kv)
theorem dict_all (rows : List β) (d : β) (h : rows.length ≤ 1000) (hr : ∀ r ∈ rows, (mk r).ok) (n : Nat) :
    (fns g1 (n + 30)).call (.obj 45) [.list (rows.map fun r => .str (mk r).s)] [] = .ok (.dict ((lastL (fun r => (mk r).k) rows d).map fun r => ((mk r).k, .str (strip (mk r).v)))) := by
  have e := c_parse n (rows.map mk) (by rw [List.length_map]; exact h) (by intro x hx; obtain ⟨r, m, rfl⟩ := List.mem_map.mp hx; exact hr r m)
  rw [List.map_map, List.foldl_map] at e
  have p := put_all (fun r => (mk r).k) (fun r => .str (strip (mk r).v)) d rows
  rw [← p]
  exact e
theorem dict_nodup (rows : List β) (h : rows.length ≤ 1000) (hr : ∀ r ∈ rows, (mk r).ok) (hd : (rows.map fun r => (mk r).k).Nodup) (n : Nat) :
    (fns g1 (n + 30)).call (.obj 45) [.list (rows.map fun r => .str (mk r).s)] [] = .ok (.dict (rows.map fun r => ((mk r).k, .str (strip (mk r).v)))) := by
  have e := c_parse n (rows.map mk) (by rw [List.length_map]; exact h) (by intro x hx; obtain ⟨r, m, rfl⟩ := List.mem_map.mp hx; exact hr r m)
  rw [List.map_map, List.foldl_map] at e
  have p := put_nodup (fun r => (mk r).k) (fun r => .str (strip (mk r).v)) rows hd
  rw [← p]
  exact e
end
noncomputable def tup (x y : Str) : D := .tuple [.str x, .str y]
theorem eq_tup (n : Nat) (x y : Str) : eqDn (n + 2) (tup x y) (tup x y) = some true := by
  show (match some (x == x), (match some (y == y), some true with | some a, some b => some (a && b) | _, _ => none) with | some a, some b => some (a && b) | _, _ => none) = _
  rw [beq_self_eq_true, beq_self_eq_true]; rfl
theorem eqAll_self {f : D → D → Option Bool} : ∀ l : List D, (∀ d ∈ l, f d d = some true) → eqAll f l l = some true
  | [], _ => rfl
  | d :: r, h => by
    rw [eqAll, h d (List.mem_cons_self ..), eqAll_self r fun x m => h x (List.mem_cons_of_mem _ m)]
    rfl
theorem eq_tups {β : Type} (f g : β → Str) (l : List β) : eqD (.list (l.map fun r => tup (f r) (g r))) (.list (l.map fun r => tup (f r) (g r))) = some true := by
  show eqAll (eqDn 4) _ _ = _
  refine eqAll_self _ fun d hd => ?_
  obtain ⟨r, _, rfl⟩ := List.mem_map.mp hd
  exact eq_tup 2 _ _
theorem ne_tup (x y : Str) : cmpD .NotEq (.tuple [.str x, .str y]) (.tuple [.str x, .str y]) = some false := by
  show (eqDn 5 (tup x y) (tup x y)).map (!·) = _
  rw [eq_tup 3]; rfl
theorem ne_tups {β : Type} (f g : β → Str) (l : List β) : cmpD .NotEq (.list (l.map fun r => tup (f r) (g r))) (.list (l.map fun r => tup (f r) (g r))) = some false := by
  show (eqD _ _).map (!·) = _
  rw [eq_tups]; rfl
theorem eqc_tups {β : Type} (f g : β → Str) (l : List β) : cmpD .Eq (.list (l.map fun r => tup (f r) (g r))) (.list (l.map fun r => tup (f r) (g r))) = some true := eq_tups f g l
noncomputable def told (q : Nat) (two : Str) (L : List (List Nat)) (t : Nat) : D := .list (L.map fun r => tup (nameS r) (textS (peelN q r t) two))
section
variable {q : Nat} {two : Str} {a b : UInt8} (w : Way q two a b)
include w
omit w in
theorem list0 (rows : List (List Nat)) (h : rows.length ≤ 900) (hr : ∀ r ∈ rows, Row48 r) (n : Nat) : (fns g1 (n + 50)).call (.obj 215) [.list (rows.map fun r => .str (kv0 two r).s)] [] = .ok (told q two (lastL nameS rows []) 0) := by
  have e := c_list_ok n (rows.map fun r => .str (kv0 two r).s) _ ?_ (fun n => dict_all (kv0 two) rows [] (by omega) (fun r m => (kv0_ok (hr r m)).1) n)
  · rw [e, List.map_map]
    refine congrArg (fun l => R.ok (D.list l)) (List.map_congr_left fun r hr' => ?_)
    have m := lastL_mem nameS rows [] r hr'
    show tup (nameS r) (strip (kv0 two r).v) = tup (nameS r) (textS r two)
    rw [(kv0_ok (hr r m)).2]
  · rw [List.length_map]
    have e1 : (lastL (fun r => (kv0 two r).k) rows []).length = (firsts nameS rows).length := by rw [lastL, List.length_map]; rfl
    have := firsts_len nameS rows
    omega
theorem listN (L : List (List Nat)) (h : L.length ≤ 900) (hr : ∀ r ∈ L, Row48 r) (hd : (L.map nameS).Nodup) (t n : Nat) : (fns g1 (n + 50)).call (.obj 215) [.list (L.map fun r => .str (kvN q two t r).s)] [] = .ok (told q two L (t + 1)) := by
  have e := c_list_ok n (L.map fun r => .str (kvN q two t r).s) _ ?_ (fun n => dict_nodup (kvN q two t) L (by omega) (fun r m => (kvN_ok w (hr r m) t).1) hd n)
  · rw [e, List.map_map]
    refine congrArg (fun l => R.ok (D.list l)) (List.map_congr_left fun r m => ?_)
    show tup (nameS r) (strip (kvN q two t r).v) = tup (nameS r) (textS (peelN q r (t + 1)) two)
    rw [(kvN_ok w (hr r m) t).2]
  · rw [List.length_map]; omega
theorem listBare (L : List (List Nat)) (h : L.length ≤ 900) (hr : ∀ r ∈ L, Row48 r) (hd : (L.map nameS).Nodup) (hne : ∀ r ∈ L, peelN q r 5 ≠ []) (n : Nat) : (fns g1 (n + 50)).call (.obj 215) [.list (L.map fun r => .str (kvB q two r).s)] [] = .ok (told q two L 5) := by
  have e := c_list_ok n (L.map fun r => .str (kvB q two r).s) _ ?_ (fun n => dict_nodup (kvB q two) L (by omega) (fun r m => (kvB_ok w (hr r m) (hne r m)).1) hd n)
  · rw [e, List.map_map]
    refine congrArg (fun l => R.ok (D.list l)) (List.map_congr_left fun r m => ?_)
    show tup (nameS r) (strip (kvB q two r).v) = tup (nameS r) (textS (peelN q r 5) two)
    rw [(kvB_ok w (hr r m) (hne r m)).2, peel_6 q (hr r m)]
  · rw [List.length_map]; omega
theorem listX (L : List (List Nat)) (h : L.length ≤ 900) (hr : ∀ r ∈ L, Row48 r) (hex : ∃ r ∈ L, peelN q r 5 = []) (n : Nat) : (fns g1 (n + 50)).call (.obj 215) [.list (L.map fun r => .str (kvB q two r).s)] [] = .ok (.str "IndexError") := by
  obtain ⟨pre, z, post, e, h1, h2⟩ := first_of (P := fun r => peelN q r 5 = []) L hex
  subst e
  refine c_list_ix n _ "string index out of range" fun n => ?_
  have e := c_parse_ix n (pre.map (kvB q two)) (kvB q two z) (post.map fun r => .str (kvB q two r).s) (by simp at h ⊢; omega) ?_ ?_ ?_
  · rw [List.map_map] at e
    rw [List.map_append, List.map_cons]
    exact e
  · intro x hx
    obtain ⟨r, m, rfl⟩ := List.mem_map.mp hx
    exact (kvB_ok w (hr r (by simp [m])) (h1 r m)).1
  · refine eq_split ?_
    rw [h2]; exact Nat.zero_le _
  · show (textS (peelN q z 5) two).length = 0
    rw [text_len, h2]; rfl
end

end
section
theorem pick_map {α β : Type} (f : α → β) (l : List α) (k : Int) : pickL (l.map f) k = (pickL l k).map f := by
  unfold pickL
  rw [List.length_map, List.map_filterMap]
  congr 1
  funext i
  rw [List.getElem?_map]
theorem pick_len {α : Type} (l : List α) (k : Nat) : (pickL l ((k + 1 : Nat) : Int)).length ≤ l.length := by
  unfold pickL
  refine Nat.le_trans (List.length_filterMap_le ..) ?_
  have e : sliceBounds none none (some ((k + 1 : Nat) : Int)) l.length = (0, (l.length : Int), ((k + 1 : Nat) : Int)) := by
    have : ((k + 1 : Nat) : Int) > 0 := by omega
    unfold sliceBounds
    simp only [Option.getD_some, this, if_true]
  rw [e]
  unfold sliceRange
  rw [List.length_map, List.length_range]
  dsimp only
  rw [if_pos (show ((k + 1 : Nat) : Int) > 0 by omega)]
  split
  · have h2 : ((l.length : Int) - 0 + ((k + 1 : Nat) : Int) - 1) / ((k + 1 : Nat) : Int) = (((l.length + k) / (k + 1) : Nat) : Int) := by
      rw [Int.natCast_ediv]; congr 1; omega
    rw [h2, Int.toNat_natCast]
    refine Nat.div_le_of_le_mul ?_
    have h1 : 0 < l.length := by omega
    obtain ⟨m, hm⟩ : ∃ m, l.length = m + 1 := ⟨l.length - 1, by omega⟩
    rw [hm, Nat.add_mul, Nat.mul_add]
    omega
  · simp
noncomputable def dr (x : Int) : Nat := (Int.fmod x 3100).toNat
theorem dr_eq (x : Int) : Int.fmod x 3100 = (dr x : Int) := (Int.toNat_of_nonneg (Int.fmod_nonneg_of_pos x (by decide))).symm
theorem sum_nats (l : List Nat) : biD "sum" [.list (l.map fun k : Nat => .int (k : Int))] = some (.int ((l.sum : Nat) : Int)) := by
  rw [sb_list, intL_nats, Option.map_some]
  congr 2
  induction l with
  | nil => rfl
  | cons a r ih => rw [List.map_cons, List.sum_cons, List.sum_cons, ih]; rfl
theorem figs_row (n q : Nat) (hq : q < 64) : Row48 (figs n q) := by
  refine ⟨?_, ?_⟩
  · rw [figs, List.length_map, List.length_range, cnt]; omega
  · intro b hb
    obtain ⟨p, _, rfl⟩ := List.mem_map.mp hb
    split
    · omega
    · exact hq
noncomputable def Lw.st (scr dn : D) (stp q : Nat) (two : Str) (ac : Array UInt8) (rows : D) (a : List (List Nat) × Option (List Nat)) : Sg :=
  ([("script", .val scr), ("step", .val (.int stp)), ("drawn", .val dn), ("quote", .val (.int q)), ("two", .val (.str two)), ("altchars", .val (.bytes ac)), ("rows", .val rows), ("items", .ml (a.1.map fun r => .str (kv0 two r).s))] : Sg) ++
  (match a.2 with | none => [] | some r => ([("row", .val (nD r)), ("octets", .val (.bytes (octs r))), ("name", .val (.str (nameS r))), ("writing", .val (.str (textS r two)))] : Sg))
theorem w62 : Way 62 "\"=" 34 61 := .inl ⟨rfl, rfl, rfl, rfl⟩
theorem w63 : Way 63 "=\"" 61 34 := .inr ⟨rfl, rfl, rfl, rfl⟩
theorem row_fold (l : List (List Nat)) (a : List (List Nat) × Option (List Nat)) : (l.foldl (fun a r => (a.1 ++ [r], some r)) a).1 = a.1 ++ l := by
  induction l generalizing a with
  | nil => simp
  | cons r l ih => rw [List.foldl_cons, ih]; simp
theorem row_last (l : List (List Nat)) (a : List (List Nat) × Option (List Nat)) (h : l ≠ []) : ∃ r, (l.foldl (fun (a : List (List Nat) × Option (List Nat)) r => (a.1 ++ [r], some r)) a).2 = some r := by
  rcases List.eq_nil_or_concat l with rfl | ⟨L, b, rfl⟩
  · exact absurd rfl h
  · exact ⟨b, by rw [List.concat_eq_append, List.foldl_append]; rfl⟩
theorem compL_map2' {F : Fns} {sc : Scope} {σ : Vs} {p p' p'' : Pos} {β : Type} {x y : Str} {elt : Expr} {k : Nat} {ls : List D} (u v : β → D) (f : β → D) (l : List β) (hl : ls = l.map fun b => .tuple [u b, v b]) (h : ∀ b ∈ l, F.ev sc ((y, v b) :: (x, u b) :: σ) elt = .ok (f b)) :
    compL F sc σ (.Tuple [.Name x p, .Name y p'] k p'') elt [] ls = .ok (l.map f) := by
  rw [hl]; exact compL_map2 u v f l h
theorem zip2_map {β : Type} (f g : β → D) : ∀ l : List β, zip2 (l.map f) (l.map g) = l.map fun r => .tuple [f r, g r]
  | [] => rfl
  | x :: r => by
    have e : zip2 ((x :: r).map f) ((x :: r).map g) = .tuple [f x, g x] :: zip2 (r.map f) (r.map g) := rfl
    rw [e, zip2_map f g r]; rfl
theorem zip3_map {β : Type} (f g h : β → D) : ∀ l : List β, zip3 (l.map f) (l.map g) (l.map h) = l.map fun r => .tuple [f r, g r, h r]
  | [] => rfl
  | x :: r => by rw [List.map_cons, List.map_cons, List.map_cons, zip3, zip3_map f g h r]; rfl
structure Ot where
  turn : Nat
  told : D
  left : D
  pair : D
  one : D
  part : D
structure Bs where
  scr : D
  stp : Nat
  dn : D
  q : Nat
  two : Str
  ac : Array UInt8
  rows : D
  r1 : D
  r2 : D
  r3 : D
  r4 : D
  last : D
noncomputable def Bs.st (e : Bs) (its : B) (t : Option (Nat × D × D)) (o : Option (D × D × D)) : Sg :=
  ([("script", .val e.scr), ("step", .val (.int e.stp)), ("drawn", .val e.dn), ("quote", .val (.int e.q)), ("two", .val (.str e.two)), ("altchars", .val (.bytes e.ac)), ("rows", .val e.rows), ("items", its),
    ("row", .val e.r1), ("octets", .val e.r2), ("name", .val e.r3), ("writing", .val e.r4), ("last", .val e.last)] : Sg) ++
  (match t with | none => [] | some (k, d, l) => ([("turn", .val (.int k)), ("told", .val d), ("left", .val l)] : Sg) ++ (match o with | none => [] | some (x, y, z) => ([("pair", .val x), ("one", .val y), ("part", .val z)] : Sg)))
noncomputable def TL (q : Nat) (two : Str) (L : List (List Nat)) (t : Nat) : List D := L.map fun r => tup (nameS r) (textS (peelN q r t) two)
noncomputable def LL (q : Nat) (L : List (List Nat)) (t : Nat) : List D := L.map fun r => nD (peelN q r t)
noncomputable def itN (q : Nat) (two : Str) (L : List (List Nat)) (t : Nat) : D := .list (L.map fun r => .str (kvN q two t r).s)
noncomputable def tri (q : Nat) (two : Str) (t : Nat) (r : List Nat) : D × D × D := (tup (nameS r) (textS (peelN q r t) two), nD r, nD (peelN q r t))
theorem tri_last (q : Nat) (two : Str) (t : Nat) (l : List (List Nat)) (a : Option (D × D × D)) (h : l ≠ []) : l.foldl (fun (_ : Option (D × D × D)) r => some (tri q two t r)) a = some (tri q two t (l.getLastD [])) := by
  rcases List.eq_nil_or_concat l with rfl | ⟨L, b, rfl⟩
  · exact absurd rfl h
  · rw [List.concat_eq_append, List.foldl_append]; simp
noncomputable def Tn.st (e : Bs) (its0 : B) (L : List (List Nat)) : Option Nat → Sg
  | none => e.st its0 none none
  | some k => e.st (.val (itN e.q e.two L k)) (some (k, .list (TL e.q e.two L k), .list (LL e.q L k))) (some (tri e.q e.two k (L.getLastD [])))
noncomputable def Tn.I (r : List Nat) : Option Nat → Prop
  | none => r = [0, 1, 2, 3, 4, 5]
  | some k => r = List.range' (k + 1) (5 - k) ∧ k ≤ 5
theorem txt_emp (two : Str) (p : List Nat) : textS p two = Str.ofString "" ↔ p = [] := by
  rw [show Str.ofString "" = ⟨#[]⟩ by decide +kernel]
  constructor
  · intro e
    have e := congrArg (fun s : Str => s.cps.size) e
    exact List.length_eq_zero_iff.mp ((text_len p two).symm.trans e)
  · rintro rfl; rfl
theorem rep_rep {α : Type} (x : α) : ∀ n, repL [x] n = List.replicate n x
  | 0 => rfl
  | n + 1 => by rw [repL, rep_rep x n]; rfl
theorem mul_rep (q : Nat) {n : Nat} (h : n ≤ 1000) : binD .Mult (.list [.int q]) (.int (n : Nat)) = some (nD (List.replicate n q)) := by
  show (if ((n : Nat) : Int).natAbs < 2 ^ 62 then if ([D.int q] : List D).length * ((n : Nat) : Int).toNat ≤ big then some (D.list (repL [.int q] ((n : Nat) : Int).toNat)) else none else none) = _
  rw [if_pos (by show n < _; omega), if_pos (by show 1 * n ≤ 1048576; omega)]
  rw [show ((n : Nat) : Int).toNat = n from rfl, rep_rep, nD, List.map_replicate]
theorem eq_nDs : ∀ a b : List Nat, cmpD .Eq (nD a) (nD b) = some (decide (a = b)) := by
  have h : ∀ a b : List Nat, eqAll (eqDn 4) (a.map fun k : Nat => D.int k) (b.map fun k : Nat => D.int k) = some (decide (a = b)) := by
    intro a
    induction a with
    | nil => intro b; cases b <;> simp [eqAll]
    | cons x r ih =>
      intro b
      cases b with
      | nil => simp [eqAll]
      | cons y t =>
        rw [List.map_cons, List.map_cons, eqAll, ih t]
        show some (((x : Int) == (y : Int)) && decide (r = t)) = _
        rw [nat_beq]
        by_cases c : x = y <;> simp [c]
  exact fun a b => h a b
theorem c_law' (n N : Nat) (SCR : D) (P : List Int) (a0 : sliceD SCR none none (some (.int ((1 + N / 5 : Nat) : Int))) = some (.list (P.map D.int))) (a1 : P.length ≤ 63) (a3 : biD "len" [SCR] = some (.int (N : Nat))) : (fns g1 (n + 200)).call (.obj 230) [SCR] [] = .ok (.bool true) := by
  have a2 : P.length ≤ 1048576 := by omega
  obtain ⟨f, hf⟩ : ∃ f, g1.fn 230 = some f := ⟨_, rfl⟩
  have b0 : binD .Add (.list [.int 1035]) (.list (P.map fun x => D.int ((dr x : Nat) : Int))) = some (.list ((1035 :: P.map dr).map fun k : Nat => .int k)) := by
    show (if ([D.int 1035] : List D).length + (P.map fun x => D.int ((dr x : Nat) : Int)).length ≤ big then some (D.list ([.int 1035] ++ P.map fun x => D.int ((dr x : Nat) : Int))) else none) = _
    rw [if_pos (by rw [List.length_map]; show 1 + P.length ≤ 1048576; omega), List.map_cons, List.map_map]; rfl
  have b1 : (1035 :: P.map dr).length ≤ 64 := by rw [List.length_cons, List.length_map]; omega
  have b1' : (1035 :: P.map dr) ≠ [] := by simp
  generalize (1035 :: P.map dr) = dn at *
  have b2 := sum_nats dn
  have b3 : dn.length ≤ 1048576 := by omega
  have b4 : dn.sum % 2 = 0 ∨ dn.sum % 2 = 1 := by omega
  generalize dn.sum = S at *
  generalize hD : (.list (dn.map fun k : Nat => .int k) : D) = DN at b0 b2
  have b5 : itemsD DN = some (dn.map fun k : Nat => .int k) := by rw [← hD]; rfl
  clear hD
  obtain ⟨q, two, a, b, hq, w, b6⟩ : ∃ (q : Nat) (two : Str) (a b : UInt8), (q = 62 ∧ two = Str.ofString "\"=" ∧ a = 34 ∧ b = 61 ∨ q = 63 ∧ two = Str.ofString "=\"" ∧ a = 61 ∧ b = 34) ∧ Way q two a b ∧ ((62 + S % 2 : Nat) : Int) = (q : Int) := by
    rcases b4 with b4 | b4
    · exact ⟨62, _, _, _, .inl ⟨rfl, rfl, rfl, rfl⟩, w62, by rw [b4]⟩
    · exact ⟨63, _, _, _, .inr ⟨rfl, rfl, rfl, rfl⟩, w63, by rw [b4]⟩
  clear b4
  obtain ⟨rows, hrows⟩ : ∃ rows, rows = dn.map (fun k => figs k q) := ⟨_, rfl⟩
  have hrm : dn.map (fun k => nD (figs k q)) = rows.map nD := by rw [hrows, List.map_map]; rfl
  have d0 : ∀ r ∈ rows, Row48 r := by
    rw [hrows]
    intro r hr
    obtain ⟨k, _, rfl⟩ := List.mem_map.mp hr
    exact figs_row k q w.q64
  have d1 : rows.length ≤ 64 := by rw [hrows, List.length_map]; exact b1
  have d2 : rows ≠ [] := by rw [hrows]; simpa using b1'
  have d3 : rows.length ≤ 1048576 := by omega
  clear hrows b1 b1' a1
  apply x_callP (bs := [("script", SCR)]) hf (by cases hf; rfl)
  (walk_at "kr"; with_reducible exact rfl)
  cases hf
  (repeat (first | with_reducible apply xp_exs | (with_reducible apply xp_next; with_reducible apply x_set; (focus decide +kernel)) | ((try (walk_at "kr")); (repeat ((with_reducible show _ = _); refine .trans (by (simp -dsimp only [rW, rN, ↓ite_and, ↓ite_or, ↓reduceIte, if_true, if_false, rK, Zd, Ze, Zn, Zo, Zp, *]; exact rfl)) ?_; (try (walk_at "kr")))); with_reducible exact rfl)))
  · ((try (walk_at "kr")); (repeat (refine .trans (by (simp -dsimp only [rW, rN, ↓ite_and, ↓ite_or, ↓reduceIte, if_true, if_false, rK, Zd, Ze, Zn, Zo, Zp, *]; exact rfl)) ?_; (try (walk_at "kr")))))
    rw [compL_map D.int (fun x => D.int ((dr x : Nat) : Int)) P ?_]
    · ((try (walk_at "kr")); (repeat (refine .trans (by (simp -dsimp only [rW, rN, ↓ite_and, ↓ite_or, ↓reduceIte, if_true, if_false, rK, Zd, Ze, Zn, Zo, Zp, *]; exact rfl)) ?_; (try (walk_at "kr")))); with_reducible exact rfl)
    · intro x _
      have e := dr_eq x
      clear a0 a2 a3 b0 b2 b3 b5 b6 hq w d0 d1 d2 d3 hrm
      ((try (walk_at "kr")); (repeat (refine .trans (by (simp -dsimp only [rW, rN, ↓ite_and, ↓ite_or, ↓reduceIte, if_true, if_false, rK, Zd, Ze, Zn, Zo, Zp, *]; exact rfl)) ?_)); with_reducible exact rfl)
  (repeat (first | (with_reducible apply xp_next; with_reducible apply x_set; (focus decide +kernel)) | ((try (walk_at "kr")); (repeat ((with_reducible show _ = _); refine .trans (by (simp -dsimp only [rW, rN, ↓ite_and, ↓ite_or, ↓reduceIte, if_true, if_false, rK, Zd, Ze, Zn, Zo, Zp, *]; exact rfl)) ?_; (try (walk_at "kr")))); with_reducible exact rfl)))
  · show _ = R.ok (D.str two)
    clear a0 a2 a3 b0 b2 b3 b5 b6 d0 d1 d2 d3 hrm w
    rcases hq with ⟨rfl, rfl, rfl, rfl⟩ | ⟨rfl, rfl, rfl, rfl⟩ <;> (walk_at "kr"; with_reducible exact rfl)
  (repeat (first | (with_reducible apply xp_next; with_reducible apply x_set; (focus decide +kernel)) | ((try (walk_at "kr")); (repeat ((with_reducible show _ = _); refine .trans (by (simp -dsimp only [rW, rN, ↓ite_and, ↓ite_or, ↓reduceIte, if_true, if_false, rK, Zd, Ze, Zn, Zo, Zp, *]; exact rfl)) ?_)); with_reducible exact rfl)))
  · show _ = R.ok (D.bytes #[a, b])
    clear a0 a2 a3 b0 b2 b3 b5 b6 d0 d1 d2 d3 hrm w
    rcases hq with ⟨rfl, rfl, rfl, rfl⟩ | ⟨rfl, rfl, rfl, rfl⟩ <;> (walk_at "kr"; with_reducible exact rfl)
  (repeat (first | (with_reducible apply xp_next; with_reducible apply x_set; (focus decide +kernel)) | ((try (walk_at "kr")); (repeat ((with_reducible show _ = _); refine .trans (by (simp -dsimp only [rW, rN, ↓ite_and, ↓ite_or, ↓reduceIte, if_true, if_false, rK, Zd, Ze, Zn, Zo, Zp, *]; exact rfl)) ?_; (try (walk_at "kr")))); with_reducible exact rfl)))
  · ((try (walk_at "kr")); (repeat (refine .trans (by (simp -dsimp only [rW, rN, ↓ite_and, ↓ite_or, ↓reduceIte, if_true, if_false, rK, Zd, Ze, Zn, Zo, Zp, *]; exact rfl)) ?_; (try (walk_at "kr")))))
    rw [compL_map (fun k : Nat => D.int k) (fun k : Nat => nD (figs k q)) dn ?_]
    · rw [hrm]
      (walk_at "kr"; with_reducible exact rfl)
    · intro k _
      have e := c_figs
      clear a0 a2 a3 b0 b2 b3 b5 b6 w d0 d1 d2 d3 hrm hq
      ((try (walk_at "kr")); (repeat (refine .trans (by (simp -dsimp only [rW, rN, ↓ite_and, ↓ite_or, ↓reduceIte, if_true, if_false, rK, Zd, Ze, Zn, Zo, Zp, *]; exact rfl)) ?_)); with_reducible exact rfl)
  (repeat (first | (with_reducible apply xp_next; with_reducible apply x_newl; (focus decide +kernel)) | (with_reducible apply xp_step; with_reducible apply x_for; (focus decide +kernel)) | (with_reducible show (_ : Nat) ≤ _; (focus (simp only [big_eq, rL] at *; omega))) | ((try (walk_at "kr")); with_reducible exact rfl)))
  apply forL_run (Lw.st SCR DN (1 + N / 5) q two #[a, b] (.list (rows.map nD))) nD (fun a r => (a.1 ++ [r], some r)) (fun rest a => a.1.length + rest.length ≤ 1000 ∧ ∀ x ∈ rest, Row48 x) rows ([], none)
  · rfl
  · exact ⟨by simpa using (by omega : rows.length ≤ 1000), d0⟩
  · rintro ⟨its, last⟩ r rest ⟨i1, i2⟩
    have i3 := i2 r (List.mem_cons_self ..)
    dsimp only at i1
    rw [List.length_cons] at i1
    refine ⟨⟨by simp; omega, fun x m => i2 x (List.mem_cons_of_mem _ m)⟩, .inl ?_⟩
    have k1 : ∀ n, (fns g1 (n + 30)).call (.obj 179) [nD r] [] = .ok (.bytes (octs r)) := fun n => c_octets n r i3.ok.2.1 i3.2
    have k2 := slice_two i3.ok
    have k3 : ∀ n, (fns g1 (n + 25)).call (.obj 161) [.bytes (two8 r)] [] = .ok (.bytes (hexed r)) := fun n => c_b16e n _ two8_size
    have k4 : ∀ n, (fns g1 (n + 30)).call (.obj 225) [.bytes (hexed r)] [] = .ok (.str (nameS r)) := fun n => by rw [c_letters n _ hexed_size, hexed_name i3]
    have k5 : ∀ n, (fns g1 (n + 40)).call (.obj 146) [.bytes (octs r), .bytes #[a, b]] [] = .ok (.bytes (writ r a b)) := fun n => b64e_row w n i3
    have k6 : ∀ n, (fns g1 (n + 30)).call (.obj 225) [.bytes (writ r a b)] [] = .ok (.str (textS r two)) := fun n => by rw [c_letters n _ (writ_size i3.ok.2.1), writ_text w i3.2]
    have k7 : ∀ n, (fns g1 (n + 30)).call (.obj 189) [nD r] [] = .ok (.str (nameS r)) := fun n => c_name n r i3.ok.1 i3.ok.2.1 i3.2
    have k8 : ∀ n, (fns g1 (n + 30)).call (.obj 184) [nD r, .str two] [] = .ok (.str (textS r two)) := fun n => c_text n r two i3.ok.2.1 i3.2 w.len
    have k9 := ne_tup (nameS r) (textS r two)
    have tl := text_len r two
    have rl := i3.ok.2.1
    have m1 : (nameS r).length + (Str.ofString "=\"").length ≤ 1048576 := by rw [name_len, eqq_cps]; decide
    have m2 : (nameS r ++ Str.ofString "=\"").length + (textS r two).length ≤ 1048576 := by
      rw [len_append, name_len, eqq_cps]; show 4 + 2 + _ ≤ _; omega
    have m3 : (nameS r ++ Str.ofString "=\"" ++ textS r two).length + (Str.ofString "\"").length ≤ 1048576 := by
      rw [len_append, len_append, name_len, eqq_cps, quo_cps]; show 4 + 2 + _ + 1 ≤ _; omega
    have m4 : its.length ≤ 1048576 := by omega
    have m5 : (kv0 two r).s = nameS r ++ Str.ofString "=\"" ++ textS r two ++ Str.ofString "\"" := rfl
    clear i1 i2 i3 d0 d1 d2 d3 w tl rl a0 a2 a3 b0 b2 b3 b5 b6 hrm hq
    generalize 1 + N / 5 = stp
    simp only [Lw.st, List.map_append, List.map_cons, List.map_nil, m5]
    cases last with
    | none => (apply x_body (σ1 := ([("script", .val SCR), ("step", .val (.int stp)), ("drawn", .val DN), ("quote", .val (.int q)), ("two", .val (.str two)), ("altchars", .val (.bytes #[a, b])), ("rows", .val (.list (rows.map nD))), ("items", .ml (its.map fun r => .str (kv0 two r).s)), ("row", .val (nD r))] : Sg)) (by kernel_rfl!); (repeat (first | (with_reducible first | exact xs_nil | apply x_exs | apply cd_f | apply sk_n) | (with_reducible apply xs_nil'; kernel_rfl!) | (with_reducible apply xs_next; with_reducible apply x_set; (focus decide +kernel)) | (with_reducible apply xs_next; with_reducible apply x_app; (focus decide +kernel)) | (with_reducible apply xs_step; with_reducible apply x_if) | (with_reducible show (_ : Nat) ≤ _; (focus (simp only [big_eq, rL] at *; omega))) | ((try (walk_at "kr")); (repeat (refine .trans (by (simp -dsimp only [rW, rN, ↓ite_and, ↓ite_or, ↓reduceIte, if_true, if_false, rK, Zd, Ze, Zn, Zo, Zp, *]; exact rfl)) ?_; (try (walk_at "kr")))); with_reducible exact rfl))))
    | some y => (apply x_body (σ1 := ([("script", .val SCR), ("step", .val (.int stp)), ("drawn", .val DN), ("quote", .val (.int q)), ("two", .val (.str two)), ("altchars", .val (.bytes #[a, b])), ("rows", .val (.list (rows.map nD))), ("items", .ml (its.map fun r => .str (kv0 two r).s)), ("row", .val (nD r)), ("octets", .val (.bytes (octs y))), ("name", .val (.str (nameS y))), ("writing", .val (.str (textS y two)))] : Sg)) (by kernel_rfl!); (repeat (first | (with_reducible first | exact xs_nil | apply x_exs | apply cd_f | apply sk_n) | (with_reducible apply xs_nil'; kernel_rfl!) | (with_reducible apply xs_next; with_reducible apply x_set; (focus decide +kernel)) | (with_reducible apply xs_next; with_reducible apply x_app; (focus decide +kernel)) | (with_reducible apply xs_step; with_reducible apply x_if) | (with_reducible show (_ : Nat) ≤ _; (focus (simp only [big_eq, rL] at *; omega))) | ((try (walk_at "kr")); (repeat (refine .trans (by (simp -dsimp only [rW, rN, ↓ite_and, ↓ite_or, ↓reduceIte, if_true, if_false, rK, Zd, Ze, Zn, Zo, Zp, *]; exact rfl)) ?_; (try (walk_at "kr")))); with_reducible exact rfl))))
  have f1 := row_fold rows ([], none)
  obtain ⟨rl, f2⟩ := row_last rows ([], none) d2
  generalize rows.foldl (fun (a : List (List Nat) × Option (List Nat)) r => (a.1 ++ [r], some r)) ([], none) = z at f1 f2 ⊢
  obtain ⟨z1, z2⟩ := z
  have f1 : z1 = rows := f1
  have f2 : z2 = some rl := f2
  subst f1 f2
  have g1' : ∀ n, (fns g1 (n + 50)).call (.obj 220) [.list (z1.map nD)] [] = .ok (.list ((lastL nameS z1 []).map nD)) := fun n => c_last n z1 (by omega) fun r m => (d0 r m).ok
  have L1 : ∀ r ∈ lastL nameS z1 [], Row48 r := fun r m => d0 r (lastL_mem nameS z1 [] r m)
  have L2 : ((lastL nameS z1 []).map nameS).Nodup := by rw [lastL_key]; exact firsts_nodup nameS z1
  have L3 : (lastL nameS z1 []).length ≤ 64 := by
    rw [lastL, List.length_map]; have := firsts_len nameS z1; omega
  have L4 : lastL nameS z1 [] ≠ [] := by
    intro e
    obtain ⟨r, hr⟩ := List.exists_mem_of_ne_nil z1 d2
    have := (mem_firsts nameS z1 (nameS r)).mpr ⟨r, hr, rfl⟩
    rw [← lastL_key nameS z1 [], e] at this
    exact absurd this (List.not_mem_nil)
  have t0 : ∀ n, (fns g1 (n + 50)).call (.obj 215) [.list (z1.map fun r => .str (kv0 two r).s)] [] = .ok (.list (TL q two (lastL nameS z1 []) 0)) := fun n => list0 (q := q) z1 (by omega) d0 n
  generalize lastL nameS z1 [] = L at *
  generalize hI0 : z1.map (fun r => D.str (kv0 two r).s) = I0 at t0
  simp only [Lw.st, hI0]
  clear hI0 d0 d1 d2 d3 a0 a2 a3 b0 b2 b3 b5 b6 hrm hq
  generalize 1 + N / 5 = stp
  generalize nD rl = R1
  generalize D.bytes (octs rl) = R2
  generalize D.str (nameS rl) = R3
  generalize D.str (textS rl two) = R4
  have gl : ∀ n, (fns g1 (n + 50)).call (.obj 220) [.list (z1.map nD)] [] = .ok (.list (L.map nD)) := g1'
  generalize D.list (z1.map nD) = RW at gl
  clear g1'
  have hb : ∃ (BR : D) (c1 : Bool), (∀ n, (fns g1 (n + 50)).call (.obj 215) [.list (L.map fun r => .str (kvB q two r).s)] [] = .ok BR) ∧
      ((L.filter fun r => decide (r = List.replicate r.length q)).map nD).isEmpty = c1 ∧ (c1 = true → cmpD .Eq BR (.list (TL q two L 5)) = some true) ∧ (c1 = false → cmpD .Eq BR (.str (Str.ofString "IndexError")) = some true) := by
    by_cases hex : ∃ r ∈ L, peelN q r 5 = []
    · refine ⟨.str "IndexError", false, fun n => listX w L (by omega) L1 hex n, ?_, (fun e => absurd e (by decide)), fun _ => ?_⟩
      · obtain ⟨r, hr, e⟩ := hex
        have hm : nD r ∈ (L.filter fun r => decide (r = List.replicate r.length q)).map nD := List.mem_map_of_mem (List.mem_filter.mpr ⟨hr, decide_eq_true ((peel_empty q (L1 r hr)).mp e)⟩)
        cases hq : ((L.filter fun r => decide (r = List.replicate r.length q)).map nD) with
        | nil => rw [hq] at hm; exact absurd hm (List.not_mem_nil)
        | cons x y => rfl
      · show some (Str.ofString "IndexError" == Str.ofString "IndexError") = _
        rw [beq_self_eq_true]
    · have hne : ∀ r ∈ L, peelN q r 5 ≠ [] := fun r hr e => hex ⟨r, hr, e⟩
      refine ⟨.list (TL q two L 5), true, fun n => listBare w L (by omega) L1 L2 hne n, ?_, fun _ => eqc_tups _ _ L, (fun e => absurd e (by decide))⟩
      have : (L.filter fun r => decide (r = List.replicate r.length q)) = [] := by
        apply List.filter_eq_nil_iff.mpr
        intro r hr e
        exact hne r hr ((peel_empty q (L1 r hr)).mpr (of_decide_eq_true e))
      rw [this, List.map_nil, List.isEmpty_nil]
  obtain ⟨BR, c1, hb, hc, hc1, hc2⟩ := hb
  (repeat (first | with_reducible apply xp_skn | (with_reducible apply xp_next; with_reducible apply x_set; (focus decide +kernel)) | (with_reducible apply xp_step; with_reducible apply x_for; (focus decide +kernel)) | (with_reducible show (_ : Nat) ≤ _; refine of_decide_eq_true ?_; kernel_rfl!) | ((try (walk_at "kr")); (repeat ((with_reducible show _ = _); refine .trans (by (simp -dsimp only [rW, rN, ↓ite_and, ↓ite_or, ↓reduceIte, if_true, if_false, rK, Zd, Ze, Zn, Zo, Zp, *]; exact rfl)) ?_)); with_reducible exact rfl)))
  apply forL_run (Tn.st ⟨SCR, stp, DN, q, two, #[a, b], RW, R1, R2, R3, R4, .list (L.map nD)⟩ (.ml I0) L) (fun k : Nat => D.int k) (fun _ k => some k) Tn.I (List.range 6) none
  · rfl
  · rfl
  · clear gl hb hc hc1 hc2
    intro av k rest hI
    have hk : k ≤ 5 ∧ Tn.I rest (some k) ∧ (av = none ∧ k = 0 ∨ ∃ j, av = some j ∧ k = j + 1) := by
      cases av with
      | none =>
        have hI : k :: rest = [0, 1, 2, 3, 4, 5] := hI
        cases hI
        exact ⟨by decide, ⟨rfl, by decide⟩, .inl ⟨rfl, rfl⟩⟩
      | some j =>
        obtain ⟨h1, h2⟩ := hI
        obtain ⟨m, hm⟩ : ∃ m, 5 - j = m + 1 := by
          rcases h : 5 - j with _ | m
          · rw [h] at h1; cases h1
          · exact ⟨m, rfl⟩
        rw [hm, List.range'_succ] at h1
        cases h1
        exact ⟨by omega, ⟨by rw [show 5 - (j + 1) = m by omega], by omega⟩, .inr ⟨j, rfl, rfl⟩⟩
    obtain ⟨hk5, hI', hav⟩ := hk
    refine ⟨hI', .inl ?_⟩
    clear hI hI'
    have hp : ∀ r ∈ L, ∀ n, (fns g1 (n + 40)).call (.obj 194) [nD r, .int q, .int k] [] = .ok (nD (peelN q r k)) := fun r m n => c_peeled n r q k (L1 r m).ok.2.1 (by omega)
    have nm : ∀ r ∈ L, ∀ n, (fns g1 (n + 30)).call (.obj 189) [nD r] [] = .ok (.str (nameS r)) := fun r m n => c_name n r (L1 r m).ok.1 (L1 r m).ok.2.1 (L1 r m).2
    have tx : ∀ r ∈ L, ∀ n, (fns g1 (n + 30)).call (.obj 184) [nD (peelN q r k), .str two] [] = .ok (.str (textS (peelN q r k) two)) := fun r m n => by
      have pp := peelN_part (q := q) (L1 r m).part k
      exact c_text n _ two pp.le pp.2 w.len
    have ne : cmpD .NotEq (.list (TL q two L k)) (.list (TL q two L k)) = some false := ne_tups _ _ L
    have TLl : (TL q two L k).length = L.length := by rw [TL, List.length_map]
    have LLl : (LL q L k).length = L.length := by rw [LL, List.length_map]
    have Ll : L.length ≤ 1048576 := by omega
    have zl : (zip2 (L.map nD) (LL q L k)).length ≤ 1048576 := by rw [LL, zip2_map, List.length_map]; omega
    have z3l : (zip3 (TL q two L k) (L.map nD) (LL q L k)).length ≤ 1048576 := by rw [LL, TL, zip3_map, List.length_map]; omega
    have es : ∀ n : Nat, (n = n) = True := fun n => eq_self n
    rcases hav with ⟨rfl, hk0⟩ | ⟨j, rfl, hj⟩
    · have tk : ∀ n, (fns g1 (n + 50)).call (.obj 215) [.list I0] [] = .ok (.list (TL q two L k)) := by rw [hk0]; exact t0
      clear t0 hk5 hk0
      simp only [Tn.st, Bs.st, tri, itN]
      apply x_body (σ1 := ([("script", .val SCR), ("step", .val (.int stp)), ("drawn", .val DN), ("quote", .val (.int q)), ("two", .val (.str two)), ("altchars", .val (.bytes #[a, b])), ("rows", .val RW), ("items", .ml I0), ("row", .val R1), ("octets", .val R2), ("name", .val R3), ("writing", .val R4), ("last", .val (.list (L.map nD))), ("turn", .val (.int k))] : Sg)) (by kernel_rfl!)
      (repeat (first | with_reducible apply x_exs | (with_reducible apply xs_next; with_reducible apply x_set; (focus decide +kernel)) | ((try (walk_at "kr")); (repeat (refine .trans (by (simp -dsimp only [rW, rN, ↓ite_and, ↓ite_or, ↓reduceIte, if_true, if_false, rK, Zd, Ze, Zn, Zo, Zp, *]; exact rfl)) ?_)); with_reducible exact rfl)))
      · ((try (walk_at "kr")); (repeat (refine .trans (by (simp -dsimp only [rW, rN, ↓ite_and, ↓ite_or, ↓reduceIte, if_true, if_false, rK, Zd, Ze, Zn, Zo, Zp, *]; exact rfl)) ?_)))
        rw [compL_map nD (fun r => nD (peelN q r k)) L ?_]
        · rw [show L.map (fun r => nD (peelN q r k)) = LL q L k from rfl]
          (walk_at "kr"; with_reducible exact rfl)
        · clear tk nm tx ne TLl LLl zl z3l es L2 L3 L4 w
          intro r hr
          have n1 := hp r hr
          clear hp L1 hr
          ((try (walk_at "kr")); (repeat (refine .trans (by (simp -dsimp only [rW, rN, ↓ite_and, ↓ite_or, ↓reduceIte, if_true, if_false, rK, Zd, Ze, Zn, Zo, Zp, *]; exact rfl)) ?_)); with_reducible exact rfl)
      (repeat (first | (with_reducible apply xs_step; with_reducible apply x_if) | ((try (walk_at "kr")); (repeat (refine .trans (by (simp -dsimp only [rW, rN, ↓ite_and, ↓ite_or, ↓reduceIte, if_true, if_false, rK, Zd, Ze, Zn, Zo, Zp, *]; exact rfl)) ?_)); with_reducible exact rfl)))
      · ((try (walk_at "kr")); (repeat (refine .trans (by (simp -dsimp only [rW, rN, ↓ite_and, ↓ite_or, ↓reduceIte, if_true, if_false, rK, Zd, Ze, Zn, Zo, Zp, *]; exact rfl)) ?_)))
        rw [compL_map2' (ls := zip2 (L.map nD) (LL q L k)) nD (fun r => nD (peelN q r k)) (fun r => .tuple [.str (nameS r), .str (textS (peelN q r k) two)]) L (zip2_map _ _ L) ?_]
        · rw [show L.map (fun r => D.tuple [.str (nameS r), .str (textS (peelN q r k) two)]) = TL q two L k from rfl]
          ((try (walk_at "kr")); (repeat (refine .trans (by (simp -dsimp only [rW, rN, ↓ite_and, ↓ite_or, ↓reduceIte, if_true, if_false, rK, Zd, Ze, Zn, Zo, Zp, *]; exact rfl)) ?_; (try (walk_at "kr")))); with_reducible exact rfl)
        · clear tk hp ne TLl LLl zl z3l es L2 L3 L4 w
          intro r hr
          have n1 := nm r hr
          have n2 := tx r hr
          clear nm tx L1 hr
          ((try (walk_at "kr")); (repeat (refine .trans (by (simp -dsimp only [rW, rN, ↓ite_and, ↓ite_or, ↓reduceIte, if_true, if_false, rK, Zd, Ze, Zn, Zo, Zp, *]; exact rfl)) ?_; (try (walk_at "kr")))); with_reducible exact rfl)
      (repeat (first | (with_reducible first | exact xs_nil | apply x_exs | apply cd_f | apply sk_n) | (with_reducible apply xs_step; with_reducible apply x_for; (focus decide +kernel)) | (with_reducible show (_ : Nat) ≤ _; with_reducible assumption) | ((try (walk_at "kr")); (repeat (refine .trans (by (simp -dsimp only [rW, rN, ↓ite_and, ↓ite_or, ↓reduceIte, if_true, if_false, rK, Zd, Ze, Zn, Zo, Zp, *]; exact rfl)) ?_; (try (walk_at "kr")))); (first | with_reducible exact rfl | kernel_rfl!))))
      rw [show zip3 (TL q two L k) (L.map nD) (LL q L k) = L.map (fun r => D.tuple [tup (nameS r) (textS (peelN q r k) two), nD r, nD (peelN q r k)]) from zip3_map _ _ _ L]
      apply forL_run (fun o => Bs.st ⟨SCR, stp, DN, q, two, #[a, b], RW, R1, R2, R3, R4, .list (L.map nD)⟩ (.val (.list I0)) (some (k, .list (TL q two L k), .list (LL q L k))) o) (fun r => D.tuple [tup (nameS r) (textS (peelN q r k) two), nD r, nD (peelN q r k)]) (fun _ r => some (tri q two k r)) (fun rest _ => ∀ x ∈ rest, x ∈ L) L none
      · rfl
      · exact fun _ m => m
      · intro o r rest hm
        refine ⟨fun x m => hm x (List.mem_cons_of_mem _ m), .inl ?_⟩
        have mr := hm r (List.mem_cons_self ..)
        have rr := L1 r mr
        have k1 : ∀ n, (fns g1 (n + 25)).call (.obj 169) [.str (nameS r)] [] = .ok (.bytes (two8 r)) := fun n => b16d_row n rr
        have k2 : ∀ n, (fns g1 (n + 30)).call (.obj 179) [nD r] [] = .ok (.bytes (octs r)) := fun n => c_octets n r rr.ok.2.1 rr.2
        have k3 := slice_two rr.ok
        have k4 : cmpD .NotEq (.bytes (two8 r)) (.bytes (two8 r)) = some false := by
          show (some ((two8 r).toList == (two8 r).toList)).map (!·) = _
          rw [beq_self_eq_true]; rfl
        obtain ⟨d, k5, k6, k7⟩ := told_read w (peelN_part (q := q) rr.part k)
        have k8 : getD (tup (nameS r) (textS (peelN q r k) two)) (.int 0) = .ok (.str (nameS r)) := rfl
        have k9 : getD (tup (nameS r) (textS (peelN q r k) two)) (.int 1) = .ok (.str (textS (peelN q r k) two)) := rfl
        clear hm mr rr L1 L2 L3 L4 w tk hp nm tx ne TLl LLl zl z3l es
        simp only [tri]
        generalize tup (nameS r) (textS (peelN q r k) two) = PR at *
        generalize textS (peelN q r k) two = TX at *
        generalize nD (peelN q r k) = PT at *
        generalize TL q two L k = T' at *
        generalize LL q L k = L' at *
        apply x_body (σ1 := ([("script", .val SCR), ("step", .val (.int stp)), ("drawn", .val DN), ("quote", .val (.int q)), ("two", .val (.str two)), ("altchars", .val (.bytes #[a, b])), ("rows", .val RW), ("items", .val (.list I0)), ("row", .val R1), ("octets", .val R2), ("name", .val R3), ("writing", .val R4), ("last", .val (.list (L.map nD))), ("turn", .val (.int k)), ("told", .val (.list T')), ("left", .val (.list L')), ("pair", .val PR), ("one", .val (nD r)), ("part", .val PT)] : Sg)) (by rcases o with _ | ⟨o1, o2, o3⟩ <;> kernel_rfl!)
        (repeat (first | (with_reducible first | exact xs_nil | apply x_exs | apply cd_f | apply sk_n) | (with_reducible apply xs_nil'; kernel_rfl!) | (with_reducible apply xs_step; with_reducible apply x_if) | ((try (walk_at "kr")); (repeat (refine .trans (by (simp -dsimp only [rW, rN, ↓ite_and, ↓ite_or, ↓reduceIte, if_true, if_false, rK, Zd, Ze, Zn, Zo, Zp, *]; exact rfl)) ?_; (try (walk_at "kr")))); with_reducible exact rfl)))
      rw [tri_last q two k L _ L4]
      simp only [Bs.st, tri]
      clear hp nm tx
      (repeat (first | with_reducible apply sk_n | (with_reducible apply xs_next; with_reducible apply x_set; (focus decide +kernel)) | ((try (walk_at "kr")); (repeat (refine .trans (by (simp -dsimp only [rW, rN, ↓ite_and, ↓ite_or, ↓reduceIte, if_true, if_false, rK, Zd, Ze, Zn, Zo, Zp, *]; exact rfl)) ?_)); with_reducible exact rfl)))
      · ((try (walk_at "kr")); (repeat (refine .trans (by (simp -dsimp only [rW, rN, ↓ite_and, ↓ite_or, ↓reduceIte, if_true, if_false, rK, Zd, Ze, Zn, Zo, Zp, *]; exact rfl)) ?_)))
        rw [compL_map2' (ls := TL q two L k) (fun r => .str (nameS r)) (fun r => .str (textS (peelN q r k) two)) (fun r => .str (kvN q two k r).s) L rfl ?_]
        · (walk_at "kr"; with_reducible exact rfl)
        · intro r hr
          have lr := (peelN_part (q := q) (L1 r hr).part k).le
          clear tk ne TLl LLl zl z3l hr
          rw [show (kvN q two k r).s = nameS r ++ Str.ofString "=" ++ valS two (peelN q r k) from rfl]
          generalize peelN q r k = p at lr ⊢
          have m1 : (nameS r).length + (Str.ofString "=").length ≤ 1048576 := by rw [name_len, eqs_cps]; decide
          have m2 : (nameS r ++ Str.ofString "=").length + (valS two p).length ≤ 1048576 := by
            have := (val_len (two := two) lr).2
            rw [len_append, name_len, eqs_cps]; show 4 + 1 + _ ≤ _; omega
          have m0 := txt_emp two p
          generalize nameS r = nmr at *
          by_cases c : p = []
          · rw [show valS two p = Str.ofString "\"\"" from if_pos c] at m2 ⊢
            have m3 := m0.mpr c
            clear lr c m0
            generalize textS p two = tx at *
            subst m3
            ((try (walk_at "kr")); (repeat (refine .trans (by (simp -dsimp only [rW, rN, ↓ite_and, ↓ite_or, ↓reduceIte, if_true, if_false, rK, Zd, Ze, Zn, Zo, Zp, *]; exact rfl)) ?_; (try (walk_at "kr")))); with_reducible exact rfl)
          · rw [show valS two p = textS p two from if_neg c] at m2 ⊢
            have m3 : ¬ textS p two = Str.ofString "" := fun e => c (m0.mp e)
            clear lr c m0
            generalize textS p two = tx at *
            ((try (walk_at "kr")); (repeat (refine .trans (by (simp -dsimp only [rW, rN, ↓ite_and, ↓ite_or, ↓reduceIte, if_true, if_false, rK, Zd, Ze, Zn, Zo, Zp, *]; exact rfl)) ?_; (try (walk_at "kr")))); with_reducible exact rfl)
      (repeat (first | (with_reducible apply xs_nil'; kernel_rfl!) | (walk_at "kr"; with_reducible exact rfl)))
    · have tk : ∀ n, (fns g1 (n + 50)).call (.obj 215) [itN q two L j] [] = .ok (.list (TL q two L k)) := fun n => by rw [hj]; exact listN w L (by omega) L1 L2 j n
      clear t0 hj hk5
      simp only [Tn.st, Bs.st, tri]
      generalize itN q two L j = ITS at tk ⊢
      simp only [itN]
      apply x_body (σ1 := ([("script", .val SCR), ("step", .val (.int stp)), ("drawn", .val DN), ("quote", .val (.int q)), ("two", .val (.str two)), ("altchars", .val (.bytes #[a, b])), ("rows", .val RW), ("items", .val ITS), ("row", .val R1), ("octets", .val R2), ("name", .val R3), ("writing", .val R4), ("last", .val (.list (L.map nD))), ("turn", .val (.int k)), ("told", .val (.list (TL q two L j))), ("left", .val (.list (LL q L j))), ("pair", .val (tup (nameS (L.getLastD [])) (textS (peelN q (L.getLastD []) j) two))), ("one", .val (nD (L.getLastD []))), ("part", .val (nD (peelN q (L.getLastD []) j)))] : Sg)) (by kernel_rfl!)
      (repeat (first | with_reducible apply x_exs | (with_reducible apply xs_next; with_reducible apply x_set; (focus decide +kernel)) | ((try (walk_at "kr")); (repeat (refine .trans (by (simp -dsimp only [rW, rN, ↓ite_and, ↓ite_or, ↓reduceIte, if_true, if_false, rK, Zd, Ze, Zn, Zo, Zp, *]; exact rfl)) ?_)); with_reducible exact rfl)))
      · ((try (walk_at "kr")); (repeat (refine .trans (by (simp -dsimp only [rW, rN, ↓ite_and, ↓ite_or, ↓reduceIte, if_true, if_false, rK, Zd, Ze, Zn, Zo, Zp, *]; exact rfl)) ?_)))
        rw [compL_map nD (fun r => nD (peelN q r k)) L ?_]
        · rw [show L.map (fun r => nD (peelN q r k)) = LL q L k from rfl]
          (walk_at "kr"; with_reducible exact rfl)
        · clear tk nm tx ne TLl LLl zl z3l es L2 L3 L4 w
          intro r hr
          have n1 := hp r hr
          clear hp L1 hr
          ((try (walk_at "kr")); (repeat (refine .trans (by (simp -dsimp only [rW, rN, ↓ite_and, ↓ite_or, ↓reduceIte, if_true, if_false, rK, Zd, Ze, Zn, Zo, Zp, *]; exact rfl)) ?_)); with_reducible exact rfl)
      (repeat (first | (with_reducible apply xs_step; with_reducible apply x_if) | ((try (walk_at "kr")); (repeat (refine .trans (by (simp -dsimp only [rW, rN, ↓ite_and, ↓ite_or, ↓reduceIte, if_true, if_false, rK, Zd, Ze, Zn, Zo, Zp, *]; exact rfl)) ?_)); with_reducible exact rfl)))
      · ((try (walk_at "kr")); (repeat (refine .trans (by (simp -dsimp only [rW, rN, ↓ite_and, ↓ite_or, ↓reduceIte, if_true, if_false, rK, Zd, Ze, Zn, Zo, Zp, *]; exact rfl)) ?_)))
        rw [compL_map2' (ls := zip2 (L.map nD) (LL q L k)) nD (fun r => nD (peelN q r k)) (fun r => .tuple [.str (nameS r), .str (textS (peelN q r k) two)]) L (zip2_map _ _ L) ?_]
        · rw [show L.map (fun r => D.tuple [.str (nameS r), .str (textS (peelN q r k) two)]) = TL q two L k from rfl]
          ((try (walk_at "kr")); (repeat (refine .trans (by (simp -dsimp only [rW, rN, ↓ite_and, ↓ite_or, ↓reduceIte, if_true, if_false, rK, Zd, Ze, Zn, Zo, Zp, *]; exact rfl)) ?_; (try (walk_at "kr")))); with_reducible exact rfl)
        · clear tk hp ne TLl LLl zl z3l es L2 L3 L4 w
          intro r hr
          have n1 := nm r hr
          have n2 := tx r hr
          clear nm tx L1 hr
          ((try (walk_at "kr")); (repeat (refine .trans (by (simp -dsimp only [rW, rN, ↓ite_and, ↓ite_or, ↓reduceIte, if_true, if_false, rK, Zd, Ze, Zn, Zo, Zp, *]; exact rfl)) ?_; (try (walk_at "kr")))); with_reducible exact rfl)
      (repeat (first | (with_reducible first | exact xs_nil | apply x_exs | apply cd_f | apply sk_n) | (with_reducible apply xs_step; with_reducible apply x_for; (focus decide +kernel)) | (with_reducible show (_ : Nat) ≤ _; with_reducible assumption) | ((try (walk_at "kr")); (repeat (refine .trans (by (simp -dsimp only [rW, rN, ↓ite_and, ↓ite_or, ↓reduceIte, if_true, if_false, rK, Zd, Ze, Zn, Zo, Zp, *]; exact rfl)) ?_; (try (walk_at "kr")))); (first | with_reducible exact rfl | kernel_rfl!))))
      rw [show zip3 (TL q two L k) (L.map nD) (LL q L k) = L.map (fun r => D.tuple [tup (nameS r) (textS (peelN q r k) two), nD r, nD (peelN q r k)]) from zip3_map _ _ _ L]
      apply forL_run (fun o => Bs.st ⟨SCR, stp, DN, q, two, #[a, b], RW, R1, R2, R3, R4, .list (L.map nD)⟩ (.val ITS) (some (k, .list (TL q two L k), .list (LL q L k))) o) (fun r => D.tuple [tup (nameS r) (textS (peelN q r k) two), nD r, nD (peelN q r k)]) (fun _ r => some (tri q two k r)) (fun rest _ => ∀ x ∈ rest, x ∈ L) L (some (tup (nameS (L.getLastD [])) (textS (peelN q (L.getLastD []) j) two), nD (L.getLastD []), nD (peelN q (L.getLastD []) j)))
      · rfl
      · exact fun _ m => m
      · intro o r rest hm
        refine ⟨fun x m => hm x (List.mem_cons_of_mem _ m), .inl ?_⟩
        have mr := hm r (List.mem_cons_self ..)
        have rr := L1 r mr
        have k1 : ∀ n, (fns g1 (n + 25)).call (.obj 169) [.str (nameS r)] [] = .ok (.bytes (two8 r)) := fun n => b16d_row n rr
        have k2 : ∀ n, (fns g1 (n + 30)).call (.obj 179) [nD r] [] = .ok (.bytes (octs r)) := fun n => c_octets n r rr.ok.2.1 rr.2
        have k3 := slice_two rr.ok
        have k4 : cmpD .NotEq (.bytes (two8 r)) (.bytes (two8 r)) = some false := by
          show (some ((two8 r).toList == (two8 r).toList)).map (!·) = _
          rw [beq_self_eq_true]; rfl
        obtain ⟨d, k5, k6, k7⟩ := told_read w (peelN_part (q := q) rr.part k)
        have k8 : getD (tup (nameS r) (textS (peelN q r k) two)) (.int 0) = .ok (.str (nameS r)) := rfl
        have k9 : getD (tup (nameS r) (textS (peelN q r k) two)) (.int 1) = .ok (.str (textS (peelN q r k) two)) := rfl
        clear hm mr rr L1 L2 L3 L4 w tk hp nm tx ne TLl LLl zl z3l es
        simp only [tri]
        generalize tup (nameS r) (textS (peelN q r k) two) = PR at *
        generalize textS (peelN q r k) two = TX at *
        generalize nD (peelN q r k) = PT at *
        generalize TL q two L k = T' at *
        generalize LL q L k = L' at *
        apply x_body (σ1 := ([("script", .val SCR), ("step", .val (.int stp)), ("drawn", .val DN), ("quote", .val (.int q)), ("two", .val (.str two)), ("altchars", .val (.bytes #[a, b])), ("rows", .val RW), ("items", .val ITS), ("row", .val R1), ("octets", .val R2), ("name", .val R3), ("writing", .val R4), ("last", .val (.list (L.map nD))), ("turn", .val (.int k)), ("told", .val (.list T')), ("left", .val (.list L')), ("pair", .val PR), ("one", .val (nD r)), ("part", .val PT)] : Sg)) (by rcases o with _ | ⟨o1, o2, o3⟩ <;> kernel_rfl!)
        (repeat (first | (with_reducible first | exact xs_nil | apply x_exs | apply cd_f | apply sk_n) | (with_reducible apply xs_nil'; kernel_rfl!) | (with_reducible apply xs_step; with_reducible apply x_if) | ((try (walk_at "kr")); (repeat (refine .trans (by (simp -dsimp only [rW, rN, ↓ite_and, ↓ite_or, ↓reduceIte, if_true, if_false, rK, Zd, Ze, Zn, Zo, Zp, *]; exact rfl)) ?_; (try (walk_at "kr")))); with_reducible exact rfl)))
      rw [tri_last q two k L _ L4]
      simp only [Bs.st, tri]
      clear hp nm tx
      (repeat (first | with_reducible apply sk_n | (with_reducible apply xs_next; with_reducible apply x_set; (focus decide +kernel)) | ((try (walk_at "kr")); (repeat (refine .trans (by (simp -dsimp only [rW, rN, ↓ite_and, ↓ite_or, ↓reduceIte, if_true, if_false, rK, Zd, Ze, Zn, Zo, Zp, *]; exact rfl)) ?_)); with_reducible exact rfl)))
      · ((try (walk_at "kr")); (repeat (refine .trans (by (simp -dsimp only [rW, rN, ↓ite_and, ↓ite_or, ↓reduceIte, if_true, if_false, rK, Zd, Ze, Zn, Zo, Zp, *]; exact rfl)) ?_)))
        rw [compL_map2' (ls := TL q two L k) (fun r => .str (nameS r)) (fun r => .str (textS (peelN q r k) two)) (fun r => .str (kvN q two k r).s) L rfl ?_]
        · (walk_at "kr"; with_reducible exact rfl)
        · intro r hr
          have lr := (peelN_part (q := q) (L1 r hr).part k).le
          clear tk ne TLl LLl zl z3l hr
          rw [show (kvN q two k r).s = nameS r ++ Str.ofString "=" ++ valS two (peelN q r k) from rfl]
          generalize peelN q r k = p at lr ⊢
          have m1 : (nameS r).length + (Str.ofString "=").length ≤ 1048576 := by rw [name_len, eqs_cps]; decide
          have m2 : (nameS r ++ Str.ofString "=").length + (valS two p).length ≤ 1048576 := by
            have := (val_len (two := two) lr).2
            rw [len_append, name_len, eqs_cps]; show 4 + 1 + _ ≤ _; omega
          have m0 := txt_emp two p
          generalize nameS r = nmr at *
          by_cases c : p = []
          · rw [show valS two p = Str.ofString "\"\"" from if_pos c] at m2 ⊢
            have m3 := m0.mpr c
            clear lr c m0
            generalize textS p two = tx at *
            subst m3
            ((try (walk_at "kr")); (repeat (refine .trans (by (simp -dsimp only [rW, rN, ↓ite_and, ↓ite_or, ↓reduceIte, if_true, if_false, rK, Zd, Ze, Zn, Zo, Zp, *]; exact rfl)) ?_; (try (walk_at "kr")))); with_reducible exact rfl)
          · rw [show valS two p = textS p two from if_neg c] at m2 ⊢
            have m3 : ¬ textS p two = Str.ofString "" := fun e => c (m0.mp e)
            clear lr c m0
            generalize textS p two = tx at *
            ((try (walk_at "kr")); (repeat (refine .trans (by (simp -dsimp only [rW, rN, ↓ite_and, ↓ite_or, ↓reduceIte, if_true, if_false, rK, Zd, Ze, Zn, Zo, Zp, *]; exact rfl)) ?_; (try (walk_at "kr")))); with_reducible exact rfl)
      (repeat (first | (with_reducible apply xs_nil'; kernel_rfl!) | (walk_at "kr"; with_reducible exact rfl)))
  rw [show (List.range 6).foldl (fun (x : Option Nat) k => some k) none = some 5 from rfl]
  simp only [Tn.st, Bs.st, tri]
  clear t0 gl
  have TLl : (TL q two L 5).length ≤ 1048576 := by rw [TL, List.length_map]; omega
  have Ll : L.length ≤ 1048576 := by omega
  (repeat (first | with_reducible apply xp_skn | (with_reducible apply xp_next; with_reducible apply x_set; (focus decide +kernel)) | ((try (walk_at "kr")); (repeat ((with_reducible show _ = _); refine .trans (by (simp -dsimp only [rW, rN, ↓ite_and, ↓ite_or, ↓reduceIte, if_true, if_false, rK, Zd, Ze, Zn, Zo, Zp, *]; exact rfl)) ?_)); with_reducible exact rfl)))
  · ((try (walk_at "kr")); (repeat (refine .trans (by (simp -dsimp only [rW, rN, ↓ite_and, ↓ite_or, ↓reduceIte, if_true, if_false, rK, Zd, Ze, Zn, Zo, Zp, *]; exact rfl)) ?_)))
    rw [compL_map2' (ls := TL q two L 5) (fun r => .str (nameS r)) (fun r => .str (textS (peelN q r 5) two)) (fun r => .str (kvB q two r).s) L rfl ?_]
    · ((try (walk_at "kr")); (repeat (refine .trans (by (simp -dsimp only [rW, rN, ↓ite_and, ↓ite_or, ↓reduceIte, if_true, if_false, rK, Zd, Ze, Zn, Zo, Zp, *]; exact rfl)) ?_)); with_reducible exact rfl)
    · intro r hr
      have lr := (peelN_part (q := q) (L1 r hr).part 5).le
      have tl := text_len (peelN q r 5) two
      clear hb hc hc1 hc2 TLl Ll hr L1 L2 L3 L4 w
      rw [show (kvB q two r).s = nameS r ++ Str.ofString "=" ++ textS (peelN q r 5) two from rfl]
      have m1 : (nameS r).length + (Str.ofString "=").length ≤ 1048576 := by rw [name_len, eqs_cps]; decide
      have m2 : (nameS r ++ Str.ofString "=").length + (textS (peelN q r 5) two).length ≤ 1048576 := by
        rw [len_append, name_len, eqs_cps]; show 4 + 1 + _ ≤ _; omega
      clear lr tl
      generalize nameS r = nmr at *
      generalize textS (peelN q r 5) two = tx at *
      ((try (walk_at "kr")); (repeat (refine .trans (by (simp -dsimp only [rW, rN, ↓ite_and, ↓ite_or, ↓reduceIte, if_true, if_false, rK, Zd, Ze, Zn, Zo, Zp, *]; exact rfl)) ?_; (try (walk_at "kr")))); with_reducible exact rfl)
  (repeat (first | (with_reducible apply xp_next; with_reducible apply x_set; (focus decide +kernel)) | ((try (walk_at "kr")); (repeat ((with_reducible show _ = _); refine .trans (by (simp -dsimp only [rW, rN, ↓ite_and, ↓ite_or, ↓reduceIte, if_true, if_false, rK, Zd, Ze, Zn, Zo, Zp, *]; exact rfl)) ?_)); with_reducible exact rfl)))
  · ((try (walk_at "kr")); (repeat (refine .trans (by (simp -dsimp only [rW, rN, ↓ite_and, ↓ite_or, ↓reduceIte, if_true, if_false, rK, Zd, Ze, Zn, Zo, Zp, *]; exact rfl)) ?_)))
    rw [compL_fil nD (fun r => decide (r = List.replicate r.length q)) nD L ?_ ?_]
    · (walk_at "kr"; with_reducible exact rfl)
    · intro r hr
      have r1 := (L1 r hr).ok.2.1
      have e1 := len_nD r
      rw [if_pos (by omega)] at e1
      have e2 : binD .Mult (.list [.int q]) (.int (r.length : Nat)) = some (nD (List.replicate r.length q)) := mul_rep q (by omega)
      have e3 := eq_nDs r (List.replicate r.length q)
      clear hc hb hc1 hc2 w L1 L2 L3 L4 TLl Ll hr r1
      ((try (walk_at "kr")); (repeat (refine .trans (by (simp -dsimp only [rW, rN, ↓ite_and, ↓ite_or, ↓reduceIte, if_true, if_false, rK, Zd, Ze, Zn, Zo, Zp, *]; exact rfl)) ?_; (try (walk_at "kr")))); with_reducible exact rfl)
    · intro r hr _
      clear hc hb hc1 hc2 w L1 L2 L3 L4 TLl Ll hr
      (walk_at "kr"; with_reducible exact rfl)
  (repeat (first | with_reducible apply rt_ret | ((try (walk_at "kr")); with_reducible exact rfl)))
  · have eN := eq_nil ((L.filter fun r => decide (r = List.replicate r.length q)).map nD)
    rw [hc] at eN
    clear hc hb w L1 L2 L3 L4 TLl Ll
    cases c1 with
    | true =>
      have hc1 := hc1 rfl
      clear hc2
      ((try (walk_at "kr")); (repeat (refine .trans (by (simp -dsimp only [rW, rN, ↓ite_and, ↓ite_or, ↓reduceIte, if_true, if_false, rK, Zd, Ze, Zn, Zo, Zp, *]; exact rfl)) ?_; (try (walk_at "kr")))); with_reducible exact rfl)
    | false =>
      have hc2 := hc2 rfl
      clear hc1
      ((try (walk_at "kr")); (repeat (refine .trans (by (simp -dsimp only [rW, rN, ↓ite_and, ↓ite_or, ↓reduceIte, if_true, if_false, rK, Zd, Ze, Zn, Zo, Zp, *]; exact rfl)) ?_; (try (walk_at "kr")))); with_reducible exact rfl)
theorem c_law (n : Nat) (ns : List Int) (h : ns.length ≤ 63) : (fns g1 (n + 200)).call (.obj 230) [.list (ns.map .int)] [] = .ok (.bool true) := by
  have h0 : ns.length ≤ 1048576 := by omega
  refine c_law' n ns.length _ (pickL ns ((1 + ns.length / 5 : Nat) : Int)) ?_ ?_ ?_
  · show (if 0 < ((1 + ns.length / 5 : Nat) : Int) ∧ (ns.map D.int).length ≤ big then some (D.list (pickL (ns.map D.int) _)) else none) = _
    rw [if_pos ⟨by omega, by rw [List.length_map]; exact h0⟩, pick_map]
  · rw [Nat.add_comm]; exact Nat.le_trans (pick_len ns _) h
  · rw [lb_list, List.length_map]; exact if_pos h0

end
end Mine
section
namespace Mine


noncomputable def tupL (K : Frag) (a : Addr) (j : FuncData) (fn : Fn) := (K.lookup a, (objAt K a).data, (fdAt K a j).body, (fdAt K a j).scope, (fdAt K a j).closure, (fdAt K a j).globals, (fdAt K a j).builtins, (fdAt K a j).code,
  K.lookup (codeAt (fdAt K a j)), (objAt K (codeAt (fdAt K a j))).data, (fieldsAt K (codeAt (fdAt K a j)))[1]?, fn.pos, fn.kwo, fn.dflt, fn.scope.kind, fn.scope.isCoroutine, fn.scope.isGenerator)
noncomputable def tupR (K : Frag) (a : Addr) (j : FuncData) (fn : Fn) (pos kwo : List Str) (dflt : List D) := (some (objAt K a), Data.func (fdAt K a j), FuncBody.stmts fn.body, fn.scope, ([] : List (Str × Addr)), mainGlobals, builtinsNs, Value.ref (codeAt (fdAt K a j)),
  some (objAt K (codeAt (fdAt K a j))), Data.fields (fieldsAt K (codeAt (fdAt K a j))), some (Value.str (fdAt K a j).qualname (tokOf (fieldsAt K (codeAt (fdAt K a j)))[1]?)), pos, kwo, dflt, ScopeKind.function, false, false)
theorem FnOK.of {K : Frag} {base : Heap} (KX : K.In base) (a : Addr) (j : FuncData) {fn : Fn} {pos kwo : List Str} {dflt : List D} {items : List Value} (h : tupL K a j fn = tupR K a j fn pos kwo dflt) (hr : Reps base.get? dflt items)
    (hb : ∀ (vs kvals : List Value), vs.length ≤ pos.length → pos.length ≤ vs.length + items.length → kvals.length = kwo.length → ∀ s : Shared, base.StaysIn s.heap →
        BindsTo s (fdAt K a j) ⟨vs, kwo.zip kvals⟩ (pos.zip (vs ++ items.drop (vs.length + items.length - pos.length)) ++ kwo.zip kvals))
    (nd : (fn.scope.names.map (·.1)).Nodup) (names : ∀ x ∈ pos ++ kwo, fn.scope.names.lookup x = some .local ∨ fn.scope.names.lookup x = some .cell) : FnOK base a fn := by
  simp only [tupL, tupR, Prod.mk.injEq] at h
  obtain ⟨h1, h2, h3, h4, h5, h6, h7, h8, h9, h10, h11, h12, h13, h14, h15, h16, h17⟩ := h
  exact FnOK.ofParts h12 h13 h14 ⟨_, _, items, KX a _ h1, h2, h3, h4, h5, h6, h7, ⟨_, _, _, _, h8, KX _ _ h9, h10, h11⟩, hr, hb⟩ h15 h16 h17 nd names
section
variable {P : Params} {base : Heap}
theorem fnok45 (KX : (hd.heap_39 P).In base) (j : FuncData) : FnOK base 45 (f1 45) :=
  FnOK.of KX 45 j (pos := ["l"]) (kwo := []) (dflt := []) (items := []) (by kernel_rfl) reps_nil' (binds100 KX (by intro S a; kernel_rfl)) (by decide +kernel) (by decide +kernel)


theorem fnok58 (KX : (hd.heap_39 P).In base) (j : FuncData) : FnOK base 58 (f1 58) :=
  FnOK.of KX 58 j (pos := ["s"]) (kwo := []) (dflt := []) (items := []) (by kernel_rfl) reps_nil' (binds100 KX (by intro S a; kernel_rfl)) (by decide +kernel) (by decide +kernel)


theorem fnok78 (KX : (hd.heap_39 P).In base) (j : FuncData) : FnOK base 78 (f1 78) :=
  FnOK.of KX 78 j (pos := ["data"]) (kwo := []) (dflt := []) (items := []) (by kernel_rfl) reps_nil' (binds100 KX (by intro S a; kernel_rfl)) (by decide +kernel) (by decide +kernel)


theorem fnok85 (KX : (hd.heap_39 P).In base) (j : FuncData) : FnOK base 85 (f1 85) :=
  FnOK.of KX 85 j (pos := ["data"]) (kwo := []) (dflt := []) (items := []) (by kernel_rfl) reps_nil' (binds100 KX (by intro S a; kernel_rfl)) (by decide +kernel) (by decide +kernel)


theorem fnok92 (KX : (hd.heap_39 P).In base) (j : FuncData) : FnOK base 92 (f1 92) :=
  FnOK.of KX 92 j (pos := ["x"]) (kwo := []) (dflt := []) (items := []) (by kernel_rfl) reps_nil' (binds100 KX (by intro S a; kernel_rfl)) (by decide +kernel) (by decide +kernel)


theorem fnok99 (KX : (hd.heap_39 P).In base) (j : FuncData) : FnOK base 99 (f1 99) :=
  FnOK.of KX 99 j (pos := ["c"]) (kwo := []) (dflt := []) (items := []) (by kernel_rfl) reps_nil' (binds100 KX (by intro S a; kernel_rfl)) (by decide +kernel) (by decide +kernel)


theorem fnok107 (KX : (hd.heap_39 P).In base) (j : FuncData) : FnOK base 107 (f1 107) :=
  FnOK.of KX 107 j (pos := ["data"]) (kwo := ["strict_mode"]) (dflt := []) (items := []) (by kernel_rfl) reps_nil' (binds110 KX (by intro S a w; kernel_rfl)) (by decide +kernel) (by decide +kernel)


theorem fnok115 (KX : (hd.heap_39 P).In base) (j : FuncData) : FnOK base 115 (f1 115) :=
  FnOK.of KX 115 j (pos := ["data"]) (kwo := ["newline"]) (dflt := []) (items := []) (by kernel_rfl) reps_nil' (binds110 KX (by intro S a w; kernel_rfl)) (by decide +kernel) (by decide +kernel)


theorem fnok124 (KX : (hd.heap_39 P).In base) (j : FuncData) : FnOK base 124 (f1 124) :=
  FnOK.of KX 124 j (pos := ["data", "sep", "bytes_per_sep"]) (kwo := []) (dflt := [.obj 116, .int 1]) (items := [.ref 116, .int 1 (tokOf (itemsAt (hd.heap_39 P) 117)[1]?)]) (by kernel_rfl) (⟨_, _, rfl, rfl, _, _, rfl, ⟨_, rfl⟩, rfl⟩) (binds302 KX (by intro S a; kernel_rfl) (by intro S a b; kernel_rfl) (by intro S a b c; kernel_rfl)) (by decide +kernel) (by decide +kernel)


theorem fnok131 (KX : (hd.heap_39 P).In base) (j : FuncData) : FnOK base 131 (f1 131) :=
  FnOK.of KX 131 j (pos := ["c"]) (kwo := []) (dflt := []) (items := []) (by kernel_rfl) reps_nil' (binds100 KX (by intro S a; kernel_rfl)) (by decide +kernel) (by decide +kernel)


theorem fnok138 (KX : (hd.heap_39 P).In base) (j : FuncData) : FnOK base 138 (f1 138) :=
  FnOK.of KX 138 j (pos := ["hexstr"]) (kwo := []) (dflt := []) (items := []) (by kernel_rfl) reps_nil' (binds100 KX (by intro S a; kernel_rfl)) (by decide +kernel) (by decide +kernel)


theorem fnok146 (KX : (hd.heap_39 P).In base) (j : FuncData) : FnOK base 146 (f1 146) :=
  FnOK.of KX 146 j (pos := ["s", "altchars"]) (kwo := []) (dflt := [.none]) (items := [.none]) (by kernel_rfl) (⟨_, _, rfl, rfl, rfl⟩) (binds201 KX (by intro S a; kernel_rfl) (by intro S a b; kernel_rfl)) (by decide +kernel) (by decide +kernel)


theorem fnok154 (KX : (hd.heap_39 P).In base) (j : FuncData) : FnOK base 154 (f1 154) :=
  FnOK.of KX 154 j (pos := ["s", "altchars", "validate"]) (kwo := []) (dflt := [.none, .bool false]) (items := [.none, .bool false]) (by kernel_rfl) (⟨_, _, rfl, rfl, _, _, rfl, rfl, rfl⟩) (binds302 KX (by intro S a; kernel_rfl) (by intro S a b; kernel_rfl) (by intro S a b c; kernel_rfl)) (by decide +kernel) (by decide +kernel)


theorem fnok161 (KX : (hd.heap_39 P).In base) (j : FuncData) : FnOK base 161 (f1 161) :=
  FnOK.of KX 161 j (pos := ["s"]) (kwo := []) (dflt := []) (items := []) (by kernel_rfl) reps_nil' (binds100 KX (by intro S a; kernel_rfl)) (by decide +kernel) (by decide +kernel)


theorem fnok169 (KX : (hd.heap_39 P).In base) (j : FuncData) : FnOK base 169 (f1 169) :=
  FnOK.of KX 169 j (pos := ["s", "casefold"]) (kwo := []) (dflt := [.bool false]) (items := [.bool false]) (by kernel_rfl) (⟨_, _, rfl, rfl, rfl⟩) (binds201 KX (by intro S a; kernel_rfl) (by intro S a b; kernel_rfl)) (by decide +kernel) (by decide +kernel)


theorem fnok174 (KX : (hd.heap_39 P).In base) (j : FuncData) : FnOK base 174 (f1 174) :=
  FnOK.of KX 174 j (pos := ["n", "quote"]) (kwo := []) (dflt := []) (items := []) (by kernel_rfl) reps_nil' (binds200 KX (by intro S a b; kernel_rfl)) (by decide +kernel) (by decide +kernel)


theorem fnok179 (KX : (hd.heap_39 P).In base) (j : FuncData) : FnOK base 179 (f1 179) :=
  FnOK.of KX 179 j (pos := ["figures"]) (kwo := []) (dflt := []) (items := []) (by kernel_rfl) reps_nil' (binds100 KX (by intro S a; kernel_rfl)) (by decide +kernel) (by decide +kernel)


theorem fnok184 (KX : (hd.heap_39 P).In base) (j : FuncData) : FnOK base 184 (f1 184) :=
  FnOK.of KX 184 j (pos := ["figures", "two"]) (kwo := []) (dflt := []) (items := []) (by kernel_rfl) reps_nil' (binds200 KX (by intro S a b; kernel_rfl)) (by decide +kernel) (by decide +kernel)


theorem fnok189 (KX : (hd.heap_39 P).In base) (j : FuncData) : FnOK base 189 (f1 189) :=
  FnOK.of KX 189 j (pos := ["figures"]) (kwo := []) (dflt := []) (items := []) (by kernel_rfl) reps_nil' (binds100 KX (by intro S a; kernel_rfl)) (by decide +kernel) (by decide +kernel)


theorem fnok194 (KX : (hd.heap_39 P).In base) (j : FuncData) : FnOK base 194 (f1 194) :=
  FnOK.of KX 194 j (pos := ["figures", "quote", "turns"]) (kwo := []) (dflt := []) (items := []) (by kernel_rfl) reps_nil' (binds300 KX (by intro S a b c; kernel_rfl)) (by decide +kernel) (by decide +kernel)


theorem fnok201 (KX : (hd.heap_39 P).In base) (j : FuncData) : FnOK base 201 (f1 201) :=
  FnOK.of KX 201 j (pos := ["figures"]) (kwo := []) (dflt := []) (items := []) (by kernel_rfl) reps_nil' (binds100 KX (by intro S a; kernel_rfl)) (by decide +kernel) (by decide +kernel)


theorem fnok208 (KX : (hd.heap_39 P).In base) (j : FuncData) : FnOK base 208 (f1 208) :=
  FnOK.of KX 208 j (pos := ["text", "altchars"]) (kwo := []) (dflt := []) (items := []) (by kernel_rfl) reps_nil' (binds200 KX (by intro S a b; kernel_rfl)) (by decide +kernel) (by decide +kernel)


theorem fnok215 (KX : (hd.heap_39 P).In base) (j : FuncData) : FnOK base 215 (f1 215) :=
  FnOK.of KX 215 j (pos := ["items"]) (kwo := []) (dflt := []) (items := []) (by kernel_rfl) reps_nil' (binds100 KX (by intro S a; kernel_rfl)) (by decide +kernel) (by decide +kernel)


theorem fnok220 (KX : (hd.heap_39 P).In base) (j : FuncData) : FnOK base 220 (f1 220) :=
  FnOK.of KX 220 j (pos := ["rows"]) (kwo := []) (dflt := []) (items := []) (by kernel_rfl) reps_nil' (binds100 KX (by intro S a; kernel_rfl)) (by decide +kernel) (by decide +kernel)


theorem fnok225 (KX : (hd.heap_39 P).In base) (j : FuncData) : FnOK base 225 (f1 225) :=
  FnOK.of KX 225 j (pos := ["octets"]) (kwo := []) (dflt := []) (items := []) (by kernel_rfl) reps_nil' (binds100 KX (by intro S a; kernel_rfl)) (by decide +kernel) (by decide +kernel)


theorem fnok230 (KX : (hd.heap_39 P).In base) (j : FuncData) : FnOK base 230 (f1 230) :=
  FnOK.of KX 230 j (pos := ["script"]) (kwo := []) (dflt := []) (items := []) (by kernel_rfl) reps_nil' (binds100 KX (by intro S a; kernel_rfl)) (by decide +kernel) (by decide +kernel)



theorem hfn1 (KX : (hd.heap_39 P).In base) (j : FuncData) : ∀ a fn, g1.fn a = some fn → FnOK base a fn := by
  intro a fn h
  obtain ⟨q, hq, hf⟩ := Option.bind_eq_some_iff.mp h
  exact look_all (P := fun (a : Addr) (q : String × List D) => ∀ fn, mkFn PySem.Challenge.pw_qh0090_01 q.1 q.2 = some fn → FnOK base a fn) (baseF ++ l1.map fun q : Addr × String => (q.1, q.2, ([] : List D))) (AllL.all ⟨some_of (by kernel_rfl) (fnok45 KX j), some_of (by kernel_rfl) (fnok58 KX j), some_of (by kernel_rfl) (fnok78 KX j), some_of (by kernel_rfl) (fnok85 KX j), some_of (by kernel_rfl) (fnok92 KX j), some_of (by kernel_rfl) (fnok99 KX j), some_of (by kernel_rfl) (fnok107 KX j), some_of (by kernel_rfl) (fnok115 KX j), some_of (by kernel_rfl) (fnok124 KX j), some_of (by kernel_rfl) (fnok131 KX j), some_of (by kernel_rfl) (fnok138 KX j), some_of (by kernel_rfl) (fnok146 KX j), some_of (by kernel_rfl) (fnok154 KX j), some_of (by kernel_rfl) (fnok161 KX j), some_of (by kernel_rfl) (fnok169 KX j), some_of (by kernel_rfl) (fnok174 KX j), some_of (by kernel_rfl) (fnok179 KX j), some_of (by kernel_rfl) (fnok184 KX j), some_of (by kernel_rfl) (fnok189 KX j), some_of (by kernel_rfl) (fnok194 KX j), some_of (by kernel_rfl) (fnok201 KX j), some_of (by kernel_rfl) (fnok208 KX j), some_of (by kernel_rfl) (fnok215 KX j), some_of (by kernel_rfl) (fnok220 KX j), some_of (by kernel_rfl) (fnok225 KX j), some_of (by kernel_rfl) (fnok230 KX j), trivial⟩) a q hq fn hf

theorem glob_ok1 (KX : (hd.heap_39 P).In base) : ∀ x d, g1.glob x = some d → ∃ v, nsFind (entriesAt (hd.heap_39 P) 3) x = some v ∧ Rep base.get? d v := by
  refine look_all (P := fun (x : Str) (d : D) => ∃ v, nsFind (entriesAt (hd.heap_39 P) 3) x = some v ∧ Rep base.get? d v) _ (AllL.all ?_)
  exact ⟨⟨.ref 38, by kernel_rfl, rep_obj.mpr rfl⟩, ⟨.ref 45, by kernel_rfl, rep_obj.mpr rfl⟩, ⟨.ref 50, by kernel_rfl, rep_obj.mpr rfl⟩, ⟨.ref 51, by kernel_rfl, rep_tys.mpr ⟨51, rfl, KX 51 _ (by kernel_rfl)⟩⟩, ⟨.ref 58, by kernel_rfl, rep_obj.mpr rfl⟩, ⟨.ref 68, by kernel_rfl, rep_obj.mpr rfl⟩, ⟨.ref 78, by kernel_rfl, rep_obj.mpr rfl⟩, ⟨.ref 85, by kernel_rfl, rep_obj.mpr rfl⟩, ⟨.ref 92, by kernel_rfl, rep_obj.mpr rfl⟩, ⟨.bytes B64 (tokOf (nsFind (entriesAt (hd.heap_39 P) 3) "_B64")), by kernel_rfl, rep_bytes.mpr ⟨_, rfl⟩⟩, ⟨.ref 99, by kernel_rfl, rep_obj.mpr rfl⟩, ⟨.ref 107, by kernel_rfl, rep_obj.mpr rfl⟩, ⟨.ref 115, by kernel_rfl, rep_obj.mpr rfl⟩, ⟨.ref 116, by kernel_rfl, rep_obj.mpr rfl⟩, ⟨.ref 124, by kernel_rfl, rep_obj.mpr rfl⟩, ⟨.ref 124, by kernel_rfl, rep_obj.mpr rfl⟩, ⟨.ref 131, by kernel_rfl, rep_obj.mpr rfl⟩, ⟨.ref 138, by kernel_rfl, rep_obj.mpr rfl⟩, ⟨.ref 138, by kernel_rfl, rep_obj.mpr rfl⟩, ⟨.ref 146, by kernel_rfl, rep_obj.mpr rfl⟩, ⟨.ref 154, by kernel_rfl, rep_obj.mpr rfl⟩, ⟨.ref 161, by kernel_rfl, rep_obj.mpr rfl⟩, ⟨.ref 169, by kernel_rfl, rep_obj.mpr rfl⟩, ⟨.ref 174, by kernel_rfl, rep_obj.mpr rfl⟩, ⟨.ref 179, by kernel_rfl, rep_obj.mpr rfl⟩, ⟨.ref 184, by kernel_rfl, rep_obj.mpr rfl⟩, ⟨.ref 189, by kernel_rfl, rep_obj.mpr rfl⟩, ⟨.ref 194, by kernel_rfl, rep_obj.mpr rfl⟩, ⟨.ref 201, by kernel_rfl, rep_obj.mpr rfl⟩, ⟨.ref 208, by kernel_rfl, rep_obj.mpr rfl⟩, ⟨.ref 215, by kernel_rfl, rep_obj.mpr rfl⟩, ⟨.ref 220, by kernel_rfl, rep_obj.mpr rfl⟩, ⟨.ref 225, by kernel_rfl, rep_obj.mpr rfl⟩, ⟨.ref 230, by kernel_rfl, rep_obj.mpr rfl⟩, trivial⟩

theorem bi_ok1 {mb : Str → Option Value} (hb : ∀ x : Str, x ≠ "__name__" → mb x = bootBuiltins x) :
    ∀ x d, g1.bi x = some d → nsFind (entriesAt (hd.heap_39 P) 3) x = none ∧ ∃ v, mb x = some v ∧ Rep base.get? d v := by
  refine look_all (P := fun (x : Str) (d : D) => nsFind (entriesAt (hd.heap_39 P) 3) x = none ∧ ∃ v, mb x = some v ∧ Rep base.get? d v) _ (AllL.all ?_)
  exact ⟨⟨by kernel_rfl, .builtin "len", (hb _ (by decide +kernel)).trans (by kernel_rfl), rep_bi.mpr rfl⟩, ⟨by kernel_rfl, .builtin "sum", (hb _ (by decide +kernel)).trans (by kernel_rfl), rep_bi.mpr rfl⟩, ⟨by kernel_rfl, .builtin "chr", (hb _ (by decide +kernel)).trans (by kernel_rfl), rep_bi.mpr rfl⟩, ⟨by kernel_rfl, .builtin "isinstance", (hb _ (by decide +kernel)).trans (by kernel_rfl), rep_bi.mpr rfl⟩, ⟨by kernel_rfl, .type "range", (hb _ (by decide +kernel)).trans (by kernel_rfl), rep_type.mpr rfl⟩, ⟨by kernel_rfl, .type "zip", (hb _ (by decide +kernel)).trans (by kernel_rfl), rep_type.mpr rfl⟩, ⟨by kernel_rfl, .type "list", (hb _ (by decide +kernel)).trans (by kernel_rfl), rep_type.mpr rfl⟩, ⟨by kernel_rfl, .type "bytes", (hb _ (by decide +kernel)).trans (by kernel_rfl), rep_type.mpr rfl⟩, ⟨by kernel_rfl, .type "bytearray", (hb _ (by decide +kernel)).trans (by kernel_rfl), rep_type.mpr rfl⟩, ⟨by kernel_rfl, .type "str", (hb _ (by decide +kernel)).trans (by kernel_rfl), rep_type.mpr rfl⟩, ⟨by kernel_rfl, .type "type", (hb _ (by decide +kernel)).trans (by kernel_rfl), rep_type.mpr rfl⟩, ⟨by kernel_rfl, .type "ValueError", (hb _ (by decide +kernel)).trans (by kernel_rfl), rep_type.mpr rfl⟩, ⟨by kernel_rfl, .type "IndexError", (hb _ (by decide +kernel)).trans (by kernel_rfl), rep_type.mpr rfl⟩, ⟨by kernel_rfl, .type "int", (hb _ (by decide +kernel)).trans (by kernel_rfl), rep_type.mpr rfl⟩, ⟨by kernel_rfl, .type "bool", (hb _ (by decide +kernel)).trans (by kernel_rfl), rep_type.mpr rfl⟩, trivial⟩

set_option tactic.hygienic true in
theorem gok1 (KX : (hd.heap_39 P).In base) {mb : Str → Option Value} (nb : base.Ns builtinsNs mb) (hb : ∀ x : Str, x ≠ "__name__" → mb x = bootBuiltins x) : GOK g1 base where
  tp := ⟨nsFind (entriesAt (hd.heap_39 P) 3), mb, Ns.ofEntries (o := objAt (hd.heap_39 P) 3) (KX 3 _ (by kernel_rfl)) (ep := epAt (hd.heap_39 P) 3) (by kernel_rfl) (strKeys_of (by kernel_rfl)), nb, glob_ok1 KX, fun x d _ h => bi_ok1 hb x d h⟩
  pat := ⟨49, tokOf (fieldsAt (hd.heap_39 P) 50)[1]?, tokOf (fieldsAt (hd.heap_39 P) 50)[2]?, (fieldsAt (hd.heap_39 P) 50)[0]?.getD .none, KX 50 _ (by kernel_rfl), KX 49 _ (by kernel_rfl)⟩
  sys := ⟨3, objAt (hd.heap_39 P) 3, by decide, KX 3 _ (by kernel_rfl)⟩
  err := by
    intro a l h
    have h : (if a = 68 then some ["ValueError", "Exception", "BaseException", "object"] else Option.none) = some l := h
    split at h
    · rename_i e
      subst e
      cases h
      exact ⟨⟨_, _, _, _, _, _, _, _, _, _, _, _, _, _, _, nsFind (entriesAt (hd.heap_39 P) 67), KX 68 _ rfl, Ns.ofEntries (o := objAt (hd.heap_39 P) 67) (KX 67 _ (by kernel_rfl)) (ep := epAt (hd.heap_39 P) 67) (es := entriesAt (hd.heap_39 P) 67) (by kernel_rfl) (strKeys_of (by kernel_rfl)), by kernel_rfl, by kernel_rfl⟩, rfl⟩
    · cases h
end
end Mine
end
section
namespace Mine
end Mine
open Mine
set_option tactic.hygienic true in
set_option maxHeartbeats 8000000 in
theorem PySem.Challenge.cw_qh0090_01_holds : PySem.Challenge.rw_qh0090_01.Holds :=
  hd (by
  k_fill
  intro w s₀ s₁ mg mb G Y fa o pm cd doc dV kV ho hd hcd hD hmg hg args vals as hpre hlay hrd hwl hlo
  have KX := kIn_of Y
  refine Ground.open G ?_
  intro T B D TE TW
  try (refine guard_noD D (by decide +kernel) ?_; clear D)
  have hfa : fa = 230 := by
    obtain ⟨o', es', ep', e1, e2, e3, e4⟩ := T.g
    have e5 := KX 3 (objAt (Mine.hd.heap_39 w.params) 3) (by kernel_rfl)
    have e6 : s₁.heap.get? 3 = some o' := e1
    rw [e5] at e6
    cases e6
    have e7 : (objAt (Mine.hd.heap_39 w.params) 3).data = .dict (entriesAt (Mine.hd.heap_39 w.params) 3) (epAt (Mine.hd.heap_39 w.params) 3) := by kernel_rfl
    rw [e7] at e2
    cases e2
    have e8 : nsFind (entriesAt (Mine.hd.heap_39 w.params) 3) "law" = some (.ref 230) := by kernel_rfl
    have e9 := (e4 "law").symm.trans e8
    have e10 : mg "law" = some (.ref fa) := hmg
    rw [e9] at e10
    cases e10
    rfl
  subst hfa
  have snd := snd_all (prog := PySem.Challenge.rw_qh0090_01.row.prog) (w := w) (gok1 KX T.b T.builtins) (hfn1 KX default) T.nolimit (0 + 200)
  have nol := T.nolimit
  clear ho hd hcd hD hmg Y TE TW B
  wrow_args hpre hlay hrd hwl hlo
  rename_i ns hs _ _ _ _ _ _ a vs _ hL _ w1 _ hI _ hc _
  have hlen : ns.length ≤ 63 := by omega
  refine snd.call (A := callerA) (fl := []) (hid := []) ⟨by decide +kernel, by decide +kernel⟩ cx_top (f := .obj 230) (args := [.list (ns.map .int)]) (kws := []) (rep_obj.mpr rfl) ⟨_, _, rfl, rep_script w1 hL hI, rfl⟩ (show KwR _ [] [] from rfl) _ _ ?_
  rw [c_law 0 ns hlen]
  intro v h' tk gr rv
  have rv := rep_bool.mp rv
  subst rv
  have keep := gr_top gr
  refine GoodW.toG ⟨.inl ⟨.bool true, .bool true, [], rfl, fun _ => rfl, ?_, ?_, ?_⟩, keep, rfl, hg⟩
  · exact .bool true
  · refine postW_of (X := true) (by first | rfl | kernel_rfl | (simp [WShape.has]; done)) ?_ rfl
    first | kernel_rfl | (simp [WTm.value]; done)
  · intro q; exact ⟨List.nodup_nil, fun a ha => (List.not_mem_nil ha).elim⟩)
end
