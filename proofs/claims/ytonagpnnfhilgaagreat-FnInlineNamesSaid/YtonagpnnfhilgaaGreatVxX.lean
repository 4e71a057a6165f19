/- A symbolic executor for the model (definitions; the memory relation; loads, stores, equality): what it computes holds of the machine. No condition beyond those in each statement. -/
import Derived.Defers
import Derived.Below
import Derived.Laws.CopyRow
import Derived.Laws.AppendOwn
import Derived.Laws.Entries
import Derived.LaidEql
import Derived.Laws.Strings
import Derived.Laws.Concat
/- A symbolic executor for the model's code over a logical memory: definitions alone. -/
set_option linter.unusedVariables false
set_option linter.unusedSimpArgs false
namespace Vx
open Go

/-! ## A trie by numbers -/
inductive Tr (α : Type) where
  | nil
  | node (l : Tr α) (v : Option α) (r : Tr α)

namespace Tr
variable {α : Type}
def get : Tr α → Nat → Option α
  | .nil, _ => none
  | .node l v r, n => match n with
    | 0 => v
    | n + 1 => cond (Nat.beq (n % 2) 0) (l.get (n / 2)) (r.get (n / 2))
def lft : Tr α → Tr α | .nil => .nil | .node l _ _ => l
def mid : Tr α → Option α | .nil => none | .node _ v _ => v
def rgt : Tr α → Tr α | .nil => .nil | .node _ _ r => r
def setF : Nat → Tr α → Nat → Option α → Tr α
  | 0, t, _, _ => t
  | f + 1, t, n, a => match n with
    | 0 => .node t.lft a t.rgt
    | n + 1 => cond (Nat.beq (n % 2) 0) (.node (setF f t.lft (n / 2) a) t.mid t.rgt) (.node t.lft t.mid (setF f t.rgt (n / 2) a))
def put (t : Tr α) (n : Nat) (a : α) : Tr α := setF (n + 1) t n (some a)
def del (t : Tr α) (n : Nat) : Tr α := setF (n + 1) t n none
/-- A function as a trie of some depth: node k holds f (a * k + b) .. -/
def full (f : Nat → Option α) : Nat → Nat → Nat → Tr α
  | 0, _, _ => .nil
  | d + 1, a, b => .node (full f d (2 * a) (a + b)) (f b) (full f d (2 * a) (2 * a + b))
end Tr

/-! ## Texts: literal bytes and atoms -/
inductive Pc where
  | lit (b : List UInt8)
  | atom (i : Nat)
abbrev Txt := List Pc

def beqBytes : List UInt8 → List UInt8 → Bool
  | [], [] => true
  | a :: x, b :: y => Nat.beq a.toNat b.toNat && beqBytes x y
  | _, _ => false
def Pc.beq : Pc → Pc → Bool
  | .lit a, .lit b => beqBytes a b
  | .atom i, .atom j => Nat.beq i j
  | _, _ => false
def Txt.beq : Txt → Txt → Bool
  | [], [] => true
  | a :: x, b :: y => a.beq b && Txt.beq x y
  | _, _ => false
def Txt.cat : Txt → Txt → Txt
  | [], y => y
  | p :: x, y =>
    match x, p, y with
    | [], .lit a, .lit b :: y => .lit (a ++ b) :: y
    | [], p, y => p :: y
    | x, p, y => p :: Txt.cat x y
def Txt.ofBytes (b : List UInt8) : Txt := match b with | [] => [] | c :: r => [.lit (c :: r)]
/-- A text without atoms. -/
def Txt.lit? : Txt → Option (List UInt8)
  | [] => some []
  | .lit b :: [] => some b
  | _ => none

/-! ## Values -/
inductive LV where
  | bool (b : Bool)
  | int (k : IntKind) (n : Int)
  | str (t : Txt)
  | len (t : Txt)
  | nilp
  | ptr (l off : Nat)
  | gptr (g off : Nat)
  | nils
  | slice (l i esz len : Nat)
  | bsl (l : Nat) (t : Txt)
  | nilm
  | map (l : Nat)
  | func (fn : Fn) (first captured : List LV)
  | nilf
  | iface (t : TypeId) (v : LV)
  | nili
  | agg (cs : List LV)
  | tuple (vs : List LV)
  deriving Inhabited

def LV.cells : LV → List LV
  | .agg cs => cs
  | v => [v]

def LV.one : LV → Bool
  | .agg _ | .tuple _ => false
  | _ => true

/-- exact: the array holds nothing beside; spare: it may; marked: it may, and bears a string's mark behind its end. -/
inductive RK where
  | exact | spare | marked

def RK.plain : RK → Bool
  | .marked => false
  | _ => true

inductive Ob where
  | row (e : TypeId) (cs : List LV) (k : RK)
  | map (es : List (LV × LV))
  | view (t : Txt)
  | bytes (t : Txt)

structure St where
  heap : Tr Ob
  next : Nat

structure Dfr where
  fn : Fn
  captured : List LV
  args : List LV

structure LAct where
  n : Nat
  tmps : Tr LV
  defers : List Dfr

def undef : LV := .tuple []

def LAct.get (a : LAct) (t : Nat) : LV := match a.tmps.get t with | some v => v | none => undef
def LAct.put (a : LAct) (d : Nat) (v : LV) : Option LAct := cond (Nat.blt d a.n) (some { n := a.n, tmps := a.tmps.put d v, defers := a.defers }) none

mutual
def ofV : Value → Option LV
  | .bool b => some (.bool b)
  | .int k n => some (.int k n)
  | .string s => some (.str (Txt.ofBytes s.data.toList))
  | .pointer none => some .nilp
  | .slice none 0 0 => some .nils
  | .map none => some .nilm
  | .nilFunc => some .nilf
  | .nilIface => some .nili
  | .func fn first captured =>
    match ofVs first.toList, ofVs captured.toList with
    | some a, some b => some (.func fn a b)
    | _, _ => none
  | .iface t v => match ofV v with
    | some v => some (.iface t v)
    | none => none
  | .agg cs => match ofVs cs.toList with
    | some cs => some (.agg cs)
    | none => none
  | .tuple vs => match ofVs vs.toList with
    | some vs => some (.tuple vs)
    | none => none
  | _ => none
def ofVs : List Value → Option (List LV)
  | [] => some []
  | v :: r => match ofV v, ofVs r with
    | some a, some b => some (a :: b)
    | _, _ => none
end

def evalO (a : LAct) : Operand → Option LV
  | .tmp t => some (a.get t)
  | .const v => ofV v
  | .global g => some (.gptr g 0)
  | .func f => some (.func (.func f) [] [])

def evals (a : LAct) : List Operand → Option (List LV)
  | [] => some []
  | o :: r => match evalO a o, evals a r with
    | some v, some vs => some (v :: vs)
    | _, _ => none

/-! ## Types -/
def isAggD : TypeDesc → Bool
  | .struct _ | .array _ _ => true
  | _ => false

structure TI where
  info : TypeInfo
  und : TypeDesc
  zv : LV

def TI.size (i : TI) : Nat := i.info.size
def TI.bytes (i : TI) : Nat := i.info.bytes
def TI.zero (i : TI) : List LV := i.zv.cells

def tyOf (P : Program) (t : Nat) : Option TI :=
  match P.types[t]? with
  | none => none
  | some i =>
    match (match i.desc with | .named _ u => P.types[u]? | _ => some i), i.zero with
    | some u, some z => match ofV z with
      | some z => some ⟨i, u.desc, z⟩
      | none => none
    | _, _ => none

/-- What is known of the atoms: which are not empty; how long they are at most; which texts differ. -/
structure Facts where
  nonempty : List Nat
  amax : Nat
  differ : List (Txt × Txt)

structure VP where
  ty : Tr TI
  fn : Tr Func
  facts : Facts
  sums : FuncId → List LV → St → Option (LV × St)
  exts : FuncId → List LV → St → Option (LV × St)
  guard : FuncId
  gty : TypeId
  bty : TypeId

def memNat (n : Nat) : List Nat → Bool
  | [] => false
  | a :: l => Nat.beq n a || memNat n l

def Txt.empty? (F : Facts) : Txt → Option Bool
  | [] => some true
  | .lit (_ :: _) :: _ => some false
  | .lit [] :: r => Txt.empty? F r
  | .atom i :: r => cond (memNat i F.nonempty) (some false) (match Txt.empty? F r with | some false => some false | _ => none)

def memPair (a b : Txt) : List (Txt × Txt) → Bool
  | [] => false
  | (x, y) :: r => (x.beq a && y.beq b) || (x.beq b && y.beq a) || memPair a b r

def Txt.eq? (F : Facts) (a b : Txt) : Option Bool :=
  cond (a.beq b) (some true)
    (match a.lit?, b.lit? with
    | some x, some y => some (beqBytes x y)
    | _, _ =>
      match a, b with
      | [], b => Txt.empty? F b
      | a, [] => Txt.empty? F a
      | a, b => cond (memPair a b F.differ) (some false) none)

/-- A bound on a text's length. -/
def Txt.bnd (F : Facts) : Txt → Nat
  | [] => 0
  | .lit b :: r => b.length + Txt.bnd F r
  | .atom _ :: r => F.amax + Txt.bnd F r

def newOb (σ : St) (o : Ob) : Nat × St := (σ.next, { heap := σ.heap.put σ.next o, next := σ.next + 1 })
def St.set (σ : St) (l : Nat) (o : Ob) : St := { heap := σ.heap.put l o, next := σ.next }
def St.del (σ : St) (l : Nat) : St := { heap := σ.heap.del l, next := σ.next }

def takeN : Nat → List LV → Option (List LV)
  | 0, _ => some []
  | n + 1, v :: r => match takeN n r with
    | some l => some (v :: l)
    | none => none
  | _ + 1, [] => none
def dropN : Nat → List LV → List LV
  | 0, l => l
  | _ + 1, [] => []
  | n + 1, _ :: r => dropN n r
def sub (l : List LV) (off n : Nat) : Option (List LV) := takeN n (dropN off l)
/-- Cells written over others. -/
def over : List LV → Nat → List LV → Option (List LV)
  | l, 0, [] => some l
  | a :: r, n + 1, vs => match over r n vs with
    | some r => some (a :: r)
    | none => none
  | _ :: r, 0, v :: vs => match over r 0 vs with
    | some r => some (v :: r)
    | none => none
  | [], 0, _ :: _ => none
  | [], _ + 1, _ => none

def mkVar (d : TypeDesc) (cs : List LV) : Option LV :=
  cond (isAggD d) (some (.agg cs)) (match cs with | v :: [] => some v | _ => none)

def loadV (V : VP) (σ : St) (t : TypeId) (p : LV) : Option LV :=
  match p with
  | .ptr l off =>
    match V.ty.get t, σ.heap.get l with
    | some i, some (.row _ cs _) => match sub cs off i.size with
      | some c => mkVar i.und c
      | none => none
    | _, _ => none
  | _ => none

def allOne : List LV → Bool
  | [] => true
  | v :: r => v.one && allOne r

def storeV (V : VP) (σ : St) (t : TypeId) (p v : LV) : Option St :=
  match p with
  | .ptr l off =>
    match V.ty.get t, σ.heap.get l with
    | some i, some (.row e cs k) =>
      cond (Nat.beq v.cells.length i.size && allOne v.cells && k.plain)
        (match over cs off v.cells with
        | some cs => some (σ.set l (.row e cs k))
        | none => none) none
    | _, _ => none
  | _ => none

def fieldOf (V : VP) (t : TypeId) (f : Nat) : Option Field :=
  match V.ty.get t with
  | some i => match i.und with
    | .struct fs => fs[f]?
    | _ => none
  | none => none

def sizeT (V : VP) (t : TypeId) : Option Nat := match V.ty.get t with | some i => some i.size | none => none

def kindBeq (a b : IntKind) : Bool :=
  match a, b with
  | .i8, .i8 | .i16, .i16 | .i32, .i32 | .i64, .i64 | .u8, .u8 | .u16, .u16 | .u32, .u32 | .u64, .u64 => true
  | _, _ => false

/-- Values without memory, as the model has them. -/
def clo : LV → Option Value
  | .bool b => some (.bool b)
  | .int k n => some (.int k n)
  | .str t => match t.lit? with
    | some b => some (.string ⟨b.toArray⟩)
    | none => none
  | _ => none

def pureSem : Sem Value → Option LV
  | .pure v => ofV v
  | _ => none

/-- The text of an object of bytes. -/
def textAt (σ : St) (l : Nat) : Option Txt :=
  match σ.heap.get l with
  | some (.view t) => some t
  | some (.bytes t) => some t
  | _ => none

/-- Are two values of a type equal? -/
def eqV (V : VP) (σ : St) : Nat → TypeId → LV → LV → Option Bool
  | 0, _, _, _ => none
  | d + 1, t, x, y =>
    match V.ty.get t with
    | none => none
    | some i =>
      match i.und, x, y with
      | .bool, .bool a, .bool b => some (a == b)
      | .int _, .int k a, .int k' b => cond (kindBeq k k') (some (a == b)) none
      | .int _, .len t, .int .i64 n => cond (decide (n = 0)) (Txt.empty? V.facts t) none
      | .string, .str a, .str b => Txt.eq? V.facts a b
      | .pointer _, .nilp, .nilp => some true
      | .pointer _, .nilp, .ptr _ _ => some false
      | .pointer _, .ptr _ _, .nilp => some false
      | .pointer e, .ptr l o, .ptr l' o' =>
        match sizeT V e with
        | some (_ + 1) => cond (Nat.beq l l') (some (Nat.beq o o')) (match σ.heap.get l, σ.heap.get l' with
          | some (.row _ _ k), some (.row _ _ k') => cond (k.plain && k'.plain) (some false) none
          | _, _ => none)
        | _ => none
      | .interface _, .nili, .nili => some true
      | .interface _, .nili, .iface _ _ => some false
      | .interface _, .iface _ _, .nili => some false
      | .interface _, .iface t v, .iface u w =>
        cond (Nat.beq t u)
          (match V.ty.get t with
          | some j => cond j.info.comparable (eqV V σ d t v w) none
          | none => none) (some false)
      | .slice _, .nils, .nils => some true
      | .slice _, .nils, .slice _ _ _ _ => some false
      | .slice _, .slice _ _ _ _, .nils => some false
      | .slice _, .bsl l _, .nils => match textAt σ l with
        | some u => match Txt.empty? V.facts u with
          | some false => some false
          | _ => none
        | none => none
      | .map _ _, .nilm, .nilm => some true
      | .map _ _, .nilm, .map _ => some false
      | .map _ _, .map _, .nilm => some false
      | .func _ _ _, .nilf, .nilf => some true
      | .func _ _ _, .nilf, .func _ _ _ => some false
      | .func _ _ _, .func _ _ _, .nilf => some false
      | _, _, _ => none

def isConstO : Operand → Bool
  | .const _ => true
  | _ => false

/-- May '==' be asked here? -/
def eqOk (V : VP) (t : TypeId) (c : Bool) (x y : LV) : Bool :=
  match x, y with
  | .nili, .nili => c || (match V.ty.get t with | some i => (match i.und with | .interface ms => ms.isEmpty | _ => false) | none => false)
  | .agg _, _ => false
  | _, .agg _ => false
  | _, _ => true

def notB : LV → Option LV
  | .bool b => some (.bool (!b))
  | _ => none

def binL (V : VP) (σ : St) (op : BinOp) (t : TypeId) (c : Bool) (x y : LV) : Option LV :=
  match op with
  | .eql => cond (eqOk V t c x y) (match eqV V σ 50 t x y with | some b => some (.bool b) | none => none) none
  | .neq => cond (eqOk V t c x y) (match eqV V σ 50 t x y with | some b => some (.bool (!b)) | none => none) none
  | op =>
    match op, x, y with
    | .add, .str a, .str b => cond (Nat.ble (Txt.bnd V.facts a + Txt.bnd V.facts b) 9223372036854775807) (some (.str (a.cat b))) none
    | .gtr, .len t, .int .i64 n => cond (decide (((Txt.bnd V.facts t : Nat) : Int) ≤ n)) (some (.bool false))
        (cond (decide (n = 0)) (match Txt.empty? V.facts t with | some b => some (.bool (!b)) | none => none) none)
    | .lss, .int .i64 n, .len t => cond (decide (n = 0)) (match Txt.empty? V.facts t with | some b => some (.bool (!b)) | none => none) none
    | op, x, y => match clo x, clo y with
      | some a, some b => pureSem (binOp op t a b)
      | _, _ => none

def findM (name : String) : List Method → Option Method
  | [] => none
  | m :: r => cond (m.name == name) (some m) (findM name r)

inductive Pl where
  | val (v : LV)
  | var (p : LV)

def Pl.get (V : VP) (σ : St) (t : TypeId) : Pl → Option LV
  | .val v => some v
  | .var p => loadV V σ t p

/-- A field's address. -/
def fieldP (V : VP) (p : LV) (f : Field) : Option LV :=
  match p with
  | .ptr l off => match sizeT V f.type with
    | some (_ + 1) => some (.ptr l (off + f.offset))
    | _ => none
  | _ => none

def partL (V : VP) (t : TypeId) (cs : List LV) (off : Nat) : Option LV :=
  match V.ty.get t with
  | some i => match sub cs off i.size with
    | some c => mkVar i.und c
    | none => none
  | none => none

def followL (V : VP) (σ : St) : List FieldStep → TypeId → Pl → Option (TypeId × Pl)
  | [], t, x => some (t, x)
  | s :: rest, t, x =>
    match fieldOf V s.struct s.index with
    | none => none
    | some f =>
      match s.deref with
      | true => match x.get V σ t with
        | some p => match fieldP V p f with
          | some q => followL V σ rest f.type (.var q)
          | none => none
        | none => none
      | false => match x with
        | .var p => match fieldP V p f with
          | some q => followL V σ rest f.type (.var q)
          | none => none
        | .val (.agg cs) => match partL V f.type cs f.offset with
          | some v => followL V σ rest f.type (.val v)
          | none => none
        | .val _ => none

def recvAt (V : VP) (σ : St) (xt : TypeId) (x : Pl) (ptrRecv : Bool) : Option LV :=
  match V.ty.get xt with
  | none => none
  | some i =>
    match i.und, ptrRecv, x with
    | .pointer _, true, x => x.get V σ xt
    | .pointer elem, false, x => match x.get V σ xt with
      | some (.ptr l off) => loadV V σ elem (.ptr l off)
      | _ => none
    | _, true, .var p => match p with | .ptr l off => some (.ptr l off) | _ => none
    | _, true, .val _ => none
    | _, false, x => x.get V σ xt

def methodL (V : VP) (σ : St) : Nat → TypeId → LV → String → Option (FuncId × LV)
  | 0, _, _, _ => none
  | d + 1, t, v, name =>
    match V.ty.get t with
    | none => none
    | some i =>
      match findM name i.info.methods.toList with
      | none => none
      | some m =>
        match followL V σ m.path.toList t (.val v) with
        | none => none
        | some (xt, x) =>
          match m.func with
          | none => match x.get V σ xt with
            | some (.iface t' v') => methodL V σ d t' v' name
            | _ => none
          | some (f, p) => match recvAt V σ xt x p with
            | some r => some (f, r)
            | none => none

inductive ORes where
  | val (v : LV) (σ : St)
  | skip (σ : St)
  | enter (f : FuncId) (args : List LV) (σ : St)
  | defer (d : Dfr) (σ : St)

/-- A function entered, or answered. -/
def enterL (V : VP) (σ : St) (f : FuncId) (args : List LV) : Option ORes :=
  match V.fn.get f with
  | some fn => match fn.body with
    | some _ => some (.enter f args σ)
    | none => match V.exts f args σ with
      | some (v, σ) => some (.val v σ)
      | none => none
  | none => none

/-- A call's target resolved. -/
def invokeL (V : VP) (σ : St) (fn : Fn) (captured args : List LV) : Option ORes :=
  match fn with
  | .func f => enterL V σ f (args ++ captured)
  | .method name =>
    match args with
    | .iface t v :: rest => match methodL V σ 60 t v name with
      | some (f, r) => enterL V σ f (r :: rest)
      | none => none
    | _ => none
  | .methodOf _ _ => none
  | .via t path f pointer =>
    match args with
    | x :: rest => match followL V σ path.toList t (.val x) with
      | some (xt, y) => match recvAt V σ xt y pointer with
        | some r => enterL V σ f (r :: rest)
        | none => none
      | none => none
    | _ => none
  | .yield _ => none

def zipCells : List (Nat × Operand) → List LV → List (Nat × LV)
  | (i, _) :: r, v :: vs => (i, v) :: zipCells r vs
  | _, _ => []

def fillL (place : Nat → Option (Nat × Nat)) (cells : List LV) : List (Nat × LV) → Option (List LV)
  | [] => some cells
  | (i, v) :: rest =>
    match place i with
    | none => none
    | some (off, size) => cond (Nat.beq v.cells.length size)
      (match over cells off v.cells with
      | some cs => fillL place cs rest
      | none => none) none

def placesL (V : VP) : List Field → Option (List (Nat × Nat))
  | [] => some []
  | f :: r => match sizeT V f.type, placesL V r with
    | some n, some l => some ((f.offset, n) :: l)
    | _, _ => none

def repeatL (z : List LV) : Nat → List LV
  | 0 => []
  | n + 1 => z ++ repeatL z n

def keyEq (V : VP) (d : TypeDesc) (x y : LV) : Option Bool :=
  match d, x, y with
  | .string, .str a, .str b => Txt.eq? V.facts a b
  | .int _, .int k a, .int k' b => cond (kindBeq k k') (some (a == b)) none
  | _, _, _ => none
def findE (V : VP) (d : TypeDesc) (k : LV) : List (LV × LV) → Option (Option LV)
  | [] => some none
  | (k', v) :: r => match keyEq V d k k' with
    | some true => some (some v)
    | some false => findE V d k r
    | none => none
def setE (V : VP) (d : TypeDesc) (k v : LV) : List (LV × LV) → Option (List (LV × LV))
  | [] => some [(k, v)]
  | (k', v') :: r => match keyEq V d k k' with
    | some true => some ((k, v) :: r)
    | some false => match setE V d k v r with
      | some r => some ((k', v') :: r)
      | none => none
    | none => none
/-- A map asked for a key: none: it doesn't hold it. -/
def mapRead (V : VP) (σ : St) (d : TypeDesc) (x k : LV) : Option (Option LV) :=
  match x with
  | .nilm => some none
  | .map l => match σ.heap.get l with
    | some (.map es) => findE V d k es
    | _ => none
  | _ => none
def keyOk : TypeDesc → LV → Bool
  | .string, .str _ => true
  | .int _, .int _ _ => true
  | _, _ => false

def natOf : LV → Option Nat
  | .int .i64 (.ofNat n) => some n
  | _ => none

/-- What stands in a slice. -/
def cellsOf (σ : St) (size : Nat) : LV → Option (List LV)
  | .nils => some []
  | .slice l i esz len => cond (Nat.beq esz size) (match σ.heap.get l with
    | some (.row _ cs _) => sub cs (i * esz) (len * esz)
    | _ => none) none
  | _ => none

def lenL : LV → Nat
  | .slice _ _ _ n => n
  | _ => 0

def litCells : List UInt8 → List LV
  | [] => []
  | c :: r => .int .u8 c.toNat :: litCells r

/-- What is appended: its cells and how many elements they are. -/
def srcL (V : VP) (σ : St) (i : TI) (xt : TypeId) (x : LV) : Option (List LV × Nat) :=
  match V.ty.get xt with
  | some j => match j.und, x with
    | .slice _, x => match cellsOf σ i.size x with
      | some c => some (c, lenL x)
      | none => none
    | .string, .str t => match i.und, t.lit? with
      | .int .u8, some b => cond (Nat.beq i.size 1) (some (litCells b, b.length)) none
      | _, _ => none
    | _, _ => none
  | none => none

def appendL (V : VP) (σ : St) (elem xt : TypeId) (s x : LV) : Option (LV × St) :=
  match V.ty.get elem with
  | none => none
  | some i =>
    match srcL V σ i xt x with
    | none => none
    | some (_, 0) => match s with
      | .nils => some (.nils, σ)
      | .slice l k e n => some (.slice l k e n, σ)
      | _ => none
    | some (new, m + 1) =>
      cond (Nat.ble ((lenL s + (m + 1)) * (i.bytes + 1)) 1073741824 && allOne new && Nat.blt 0 i.size && Nat.beq i.zero.length i.size)
      (match s with
      | .nils => match newOb σ (.row elem new .spare) with
        | (l, σ) => some (.slice l 0 i.size (m + 1), σ)
      | .slice l k esz len =>
        match σ.heap.get l with
        | some (.row e cs kind) =>
          cond (Nat.beq ((k + len) * esz) cs.length && Nat.beq esz i.size && Nat.beq e elem)
            (match sub cs (k * esz) (len * esz) with
            | none => none
            | some old =>
              match kind with
              | .exact => match newOb σ (.row elem (old ++ new) .spare) with
                | (l, σ) => some (.slice l 0 esz (len + (m + 1)), σ)
              | .spare => cond (Nat.beq k 0)
                (match newOb (σ.del l) (.row elem (old ++ new) .spare) with
                | (l, σ) => some (.slice l 0 esz (len + (m + 1)), σ)) none
              | .marked => cond (Nat.beq k 0)
                (match newOb (σ.del l) (.row elem (old ++ new) .marked) with
                | (l, σ) => some (.slice l 0 esz (len + (m + 1)), σ)) none) none
        | _ => none
      | _ => none) none

def txtLen (t : Txt) : LV := match t.lit? with
  | some b => .int .i64 b.length
  | none => .len t

def builtinL (V : VP) (σ : St) (b : Builtin) (ats : List TypeId) (args : List LV) : Option (LV × St) :=
  match b, ats, args with
  | .len, t :: _, x :: [] => match V.ty.get t with
    | none => none
    | some i => match i.und, x with
      | .string, .str t => some (txtLen t, σ)
      | .slice _, .nils => some (.int .i64 0, σ)
      | .slice _, .slice _ _ _ n => some (.int .i64 n, σ)
      | .slice _, .bsl _ t => some (txtLen t, σ)
      | .map _ _, .nilm => some (.int .i64 0, σ)
      | .map _ _, .map l => match σ.heap.get l with
        | some (.map es) => some (.int .i64 es.length, σ)
        | _ => none
      | _, _ => none
  | .append, st :: xt :: [], s :: x :: [] => match V.ty.get st with
    | some i => match i.und with
      | .slice elem => appendL V σ elem xt s x
      | _ => none
    | none => none
  | .copy, t :: _ :: [], d :: s :: [] => match V.ty.get t with
    | some i => match i.und with
      | .slice e => match V.ty.get e with
        | none => none
        | some j =>
          match d with
          | .nils => match s with
            | .nils => some (.int .i64 0, σ)
            | .slice _ _ _ _ => some (.int .i64 0, σ)
            | _ => none
          | .slice ld id esz n =>
            match s with
            | .nils => some (.int .i64 0, σ)
            | .slice ls is esz' m =>
              match σ.heap.get ld, σ.heap.get ls with
              | some (.row e cd k), some (.row _ cs _) =>
                cond (Nat.beq esz j.size && Nat.beq esz' j.size && k.plain)
                (match sub cs (is * esz) (Nat.min m n * esz) with
                | some c => cond (allOne c) (match over cd (id * esz) c with
                  | some cd => some (.int .i64 (Nat.min m n : Nat), σ.set ld (.row e cd k))
                  | none => none) none
                | none => none) none
              | _, _ => none
            | _ => none
          | _ => none
      | _ => none
    | none => none
  | .clear, t :: [], x :: [] => match V.ty.get t with
    | some i => match i.und with
      | .slice e => match V.ty.get e with
        | none => none
        | some j =>
          match x with
          | .slice l k esz (n + 1) => match σ.heap.get l with
            | some (.row et cs kk) => cond (kk.plain && j.zv.one && Nat.beq esz 1)
              (match over cs k (repeatL [j.zv] (n + 1)) with
              | some cs => some (.tuple [], σ.set l (.row et cs kk))
              | none => none) none
            | _ => none
          | _ => none
      | _ => none
    | none => none
  | _, _, _ => none

def optNat (d : Nat) : Option LV → Option Nat
  | none => some d
  | some v => natOf v

def sliceL (V : VP) (t : TypeId) (x : LV) (lo hi : Option LV) : Option LV :=
  match V.ty.get t with
  | none => none
  | some i =>
  match i.und, x with
  | .slice e, .slice l i esz len =>
    match optNat 0 lo, optNat len hi, sizeT V e with
    | some a, some b, some s => cond (Nat.ble a b && Nat.ble b len && (Nat.blt a len || Nat.beq a 0) && Nat.beq s esz) (some (.slice l (i + a) esz (b - a))) none
    | _, _, _ => none
  | .slice e, .nils =>
    match optNat 0 lo, optNat 0 hi, sizeT V e with
    | some 0, some 0, some _ => some .nils
    | _, _, _ => none
  | .slice e, .bsl l t => match optNat 0 lo, hi, sizeT V e with
    | some 0, none, some _ => some (.bsl l t)
    | _, _, _ => none
  | .string, .str t => match t.lit? with
    | some b =>
      match optNat 0 lo, optNat b.length hi with
      | some a, some c => cond (Nat.ble a c && Nat.ble c b.length) (some (.str (Txt.ofBytes ((b.drop a).take (c - a))))) none
      | _, _ => none
    | none => none
  | _, _ => none

def bytesOf : List LV → Option (List UInt8)
  | [] => some []
  | .int .u8 (.ofNat n) :: r => cond (Nat.blt n 256) (match bytesOf r with
    | some l => some (UInt8.ofNat n :: l)
    | none => none) none
  | _ => none

def isU8 (V : VP) (e : TypeId) : Bool :=
  match V.ty.get e with
  | some u => match u.und with
    | .int .u8 => Nat.beq u.size 1
    | _ => false
  | none => false

def convL (V : VP) (σ : St) (src dst : TypeId) (x : LV) : Option (LV × St) :=
  match V.ty.get src, V.ty.get dst with
  | some i, some j =>
    match i.und, j.und, x with
    | .int _, .int k, .int _ n => some (.int k (k.wrap n), σ)
    | .string, .string, .str t => some (.str t, σ)
    | .slice e, .string, .bsl l _ => cond (isU8 V e) (match textAt σ l with
      | some t => some (.str t, σ)
      | none => none) none
    | .slice e, .string, .nils => cond (isU8 V e) (some (.str [], σ)) none
    | .slice e, .string, .slice l i esz n => cond (isU8 V e) (match cellsOf σ 1 (.slice l i esz n) with
      | some c => match bytesOf c with
        | some b => some (.str (Txt.ofBytes b), σ)
        | none => none
      | none => none) none
    | .string, .slice e, .str t => cond (isU8 V e)
      (match t.lit? with
      | some b => match newOb σ (.row e (litCells b) .marked) with
        | (l, σ) => some (.slice l 0 1 b.length, σ)
      | none => match newOb σ (.view t) with
        | (l, σ) => some (.bsl l t, σ)) none
    | .slice e, .slice _, .slice l i esz n => match σ.heap.get l with
      | some (.row e' cs _) => cond (isU8 V e && Nat.beq src dst) (some (.slice l i esz n, σ.set l (.row e' cs .marked))) none
      | _ => none
    | .int _, .string, .int _ n => some (.str (Txt.ofBytes (Utf8.encode n).data.toList), σ)
    | _, _, _ => none
  | _, _ => none

def nthV : List LV → Nat → Option LV
  | [], _ => none
  | v :: _, 0 => some v
  | _ :: r, n + 1 => nthV r n

def assertL (V : VP) (x : LV) (asserted : TypeId) (ok : Bool) : Option LV :=
  match V.ty.get asserted with
  | none => none
  | some i =>
    match i.und, x with
    | .interface _, .nili => cond ok (some (.tuple [i.zv, .bool false])) none
    | .interface want, .iface t v => match V.ty.get t with
      | some j => match Instr.missingMethod want j.info.methods with
        | none => some (cond ok (.tuple [.iface t v, .bool true]) (.iface t v))
        | some _ => cond ok (some (.tuple [i.zv, .bool false])) none
      | none => none
    | _, .nili => cond ok (some (.tuple [i.zv, .bool false])) none
    | _, .iface t v => cond (Nat.beq t asserted) (some (cond ok (.tuple [v, .bool true]) v)) (cond ok (some (.tuple [i.zv, .bool false])) none)
    | _, _ => none

def toVal (r : Option (LV × St)) : Option ORes := match r with
  | some (v, σ) => some (.val v σ)
  | none => none
def vOf (σ : St) (r : Option LV) : Option ORes := match r with
  | some v => some (.val v σ)
  | none => none

def splitL : Nat → List LV → Option (List LV × List LV)
  | 0, l => some ([], l)
  | n + 1, v :: r => match splitL n r with
    | some (a, b) => some (v :: a, b)
    | none => none
  | _ + 1, [] => none

/-- No nil pointer stands behind a method's receiver. -/
def aheadL (V : VP) (t : TypeId) (v : LV) (name : String) : Bool :=
  match V.ty.get t with
  | some i => match findM name i.info.methods.toList with
    | some m => m.path.toList.isEmpty && (match m.func with
      | some (_, true) => true
      | some (_, false) => (match i.und, v with
        | .pointer _, .ptr _ _ => true
        | .pointer _, _ => false
        | _, _ => true)
      | none => false)
    | none => false
  | none => false

def hasO : Option Operand → Bool
  | some _ => true
  | none => false

def doOp (V : VP) (σ : St) (op : Op) (vs : List LV) : Option ORes :=
  match op, vs with
  | .move _, v :: [] => some (.val v σ)
  | .assign _, v :: [] => some (.val v σ)
  | .pick .., .bool b :: x :: y :: [] => some (.val (cond b x y) σ)
  | .alloc e, [] => match V.ty.get e with
    | some i => match newOb σ (.row e i.zero .exact) with
      | (l, σ) => some (.val (.ptr l 0) σ)
    | none => none
  | .box e _, x :: [] => match newOb σ (.row e x.cells .exact) with
    | (l, σ) => some (.val (.ptr l 0) σ)
  | .build t parts, vs => match V.ty.get t with
    | some i =>
      match i.und with
      | .struct fs => match placesL V fs.toList with
        | some pl => match fillL (fun k => pl[k]?) i.zero (zipCells parts.toList vs) with
          | some cs => some (.val (.agg cs) σ)
          | none => none
        | none => none
      | _ => none
    | none => none
  | .buildSlice t len parts, vs => match V.ty.get t with
    | some j => match j.und with
      | .slice e => match V.ty.get e with
        | some i => cond (Nat.ble (len * i.size) 16777216 && Nat.blt 0 i.size && Nat.beq i.zero.length i.size)
          (match fillL (fun k => some (k * i.size, i.size)) (repeatL i.zero len) (zipCells parts.toList vs) with
          | some cs => match newOb σ (.row e cs .exact) with
            | (l, σ) => some (.val (.slice l 0 i.size len) σ)
          | none => none) none
        | none => none
      | _ => none
    | none => none
  | .load t _, p :: [] => vOf σ (loadV V σ t p)
  | .store t _ _, p :: x :: [] => match storeV V σ t p x with
    | some σ => some (.skip σ)
    | none => none
  | .nilCheck _, x :: [] => match x with
    | .ptr _ _ | .gptr _ _ | .slice _ _ _ _ | .iface _ _ => some (.val x σ)
    | .func (.func _) _ _ => some (.val x σ)
    | .func (.method name) (.iface t v :: _) _ => cond (aheadL V t v name) (some (.val x σ)) none
    | _ => none
  | .binOp op t x y _, a :: b :: [] => vOf σ (binL V σ op t (isConstO x || isConstO y) a b)
  | .unOp op _ _, x :: [] => match clo x with
    | some x => vOf σ (pureSem (Op.unary op x))
    | none => none
  | .convert s d _, x :: [] => toVal (convL V σ s d x)
  | .makeInterface t _, x :: [] => match V.ty.get t with
    | some i => match i.und with
      | .interface _ => none
      | _ => some (.val (.iface t x) σ)
    | none => none
  | .makeFunc fn first _, vs => match splitL first.size vs with
    | some (f, c) => some (.val (.func fn f c) σ)
    | none => none
  | .makeMap _ none, [] => match newOb σ (.map []) with
    | (l, σ) => some (.val (.map l) σ)
  | .makeSlice t _ _, n :: c :: [] => match V.ty.get t, natOf n, natOf c with
    | some j, some n, some c => match j.und with
      | .slice e => match V.ty.get e with
        | some i => cond (Nat.ble n c && Nat.ble (c * (i.bytes + 1)) 1073741824 && Nat.blt 0 i.size && Nat.beq i.zero.length i.size)
          (match newOb σ (.row e (repeatL i.zero n) (cond (Nat.beq n c) .exact .spare)) with
          | (l, σ) => some (.val (.slice l 0 i.size n) σ)) none
        | none => none
      | _ => none
    | _, _, _ => none
  | .slice t _ lo hi none, x :: vs => match hasO lo, hasO hi, vs with
    | false, false, [] => vOf σ (sliceL V t x none none)
    | true, false, a :: [] => vOf σ (sliceL V t x (some a) none)
    | false, true, b :: [] => vOf σ (sliceL V t x none (some b))
    | true, true, a :: b :: [] => vOf σ (sliceL V t x (some a) (some b))
    | _, _, _ => none
  | .fieldAddr s _ f, x :: [] => match fieldOf V s f with
    | some f => vOf σ (fieldP V x f)
    | none => none
  | .field t _ f, x :: [] => match x, fieldOf V t f with
    | .agg cs, some f => vOf σ (partL V f.type cs f.offset)
    | _, _ => none
  | .indexAddr t _ _, x :: ix :: [] => match V.ty.get t, natOf ix with
    | some j, some k => match j.und, x with
      | .slice e, .slice l i esz n => match sizeT V e with
        | some s => cond (Nat.blt k n && Nat.beq s esz) (some (.val (.ptr l ((i + k) * esz)) σ)) none
        | none => none
      | .array n e, .ptr l off => match sizeT V e with
        | some s => cond (Nat.blt k n) (some (.val (.ptr l (off + k * s)) σ)) none
        | none => none
      | _, _ => none
    | _, _ => none
  | .index t _ _, x :: ix :: [] => match V.ty.get t, natOf ix with
    | some j, some k => match j.und, x with
      | .string, .str t => match t with
        | .lit b :: _ => match b[k]? with
          | some c => some (.val (.int .u8 c.toNat) σ)
          | none => none
        | _ => none
      | .array n e, .agg cs => match sizeT V e with
        | some s => cond (Nat.blt k n) (vOf σ (partL V e cs (k * s))) none
        | none => none
      | _, _ => none
    | _, _ => none
  | .lookup t _ _ ok, x :: k :: [] => match V.ty.get t with
    | some j => match j.und with
      | .map kt e => match V.ty.get kt, V.ty.get e with
        | some kd, some i => cond (keyOk kd.und k)
          (match mapRead V σ kd.und x k with
          | none => none
          | some (some w) => some (.val (cond ok (.tuple [w, .bool true]) w) σ)
          | some none => some (.val (cond ok (.tuple [i.zv, .bool false]) i.zv) σ)) none
        | _, _ => none
      | _ => none
    | none => none
  | .mapUpdate t _ _ _, .map l :: k :: x :: [] => match V.ty.get t with
    | some j => match j.und with
      | .map kt _ => match V.ty.get kt, σ.heap.get l with
        | some kd, some (.map es) => cond (keyOk kd.und k) (match setE V kd.und k x es with
          | some es => some (.skip (σ.set l (.map es)))
          | none => none) none
        | _, _ => none
      | _ => none
    | none => none
  | .typeAssert _ _ t ok, x :: [] => vOf σ (assertL V x t ok)
  | .extract _ i, .tuple vs :: [] => vOf σ (nthV vs i)
  | .call c, vs => match c.callee, vs with
    | .builtin b, args => toVal (builtinL V σ b c.argTypes.toList args)
    | .invoke _ name, r :: args => invokeL V σ (.method name) [] (r :: args)
    | .value _, .func fn first captured :: args => invokeL V σ fn captured (first ++ args)
    | _, _ => none
  | .defer c, vs => match c.callee, vs with
    | .invoke _ name, r :: args => some (.defer ⟨.method name, [], r :: args⟩ σ)
    | .value _, .func fn first captured :: args => some (.defer ⟨fn, captured, first ++ args⟩ σ)
    | _, _ => none
  | _, _ => none

end Vx

/- The relation between the logical memory and the model's world, and what keeps it. -/
set_option linter.unusedVariables false
set_option linter.unusedSimpArgs false
namespace Vx
open Go Go.RowKit

/-! ## The trie -/
namespace Tr
variable {α : Type}
theorem get_lft (t : Tr α) (n : Nat) : t.lft.get n = t.get (2 * n + 1) := by
  cases t with
  | nil => simp [lft, get]
  | node l v r => simp only [lft, get]; rw [show 2 * n % 2 = 0 by omega, show 2 * n / 2 = n by omega]; rfl
theorem get_rgt (t : Tr α) (n : Nat) : t.rgt.get n = t.get (2 * n + 2) := by
  cases t with
  | nil => simp [rgt, get]
  | node l v r => simp only [rgt, get]; rw [show (2 * n + 1) % 2 = 1 by omega, show (2 * n + 1) / 2 = n by omega]; rfl
theorem get_mid (t : Tr α) : t.mid = t.get 0 := by cases t <;> simp [mid, get]

theorem get_setF (f : Nat) : ∀ (t : Tr α) (n : Nat) (a : Option α) (m : Nat), n < f → (setF f t n a).get m = if m = n then a else t.get m := by
  induction f with
  | zero => intro t n a m h; omega
  | succ f ih =>
    intro t n a m h
    cases n with
    | zero =>
      cases m with
      | zero => simp [setF, get]
      | succ m =>
        simp only [setF, get]
        rw [if_neg (by omega)]
        cases hb : Nat.beq (m % 2) 0 with
        | true => have : m % 2 = 0 := Nat.eq_of_beq_eq_true hb
                  simp only [cond_true]; rw [get_lft]; congr 1; omega
        | false => have : m % 2 ≠ 0 := Nat.ne_of_beq_eq_false hb
                   simp only [cond_false]; rw [get_rgt]; congr 1; omega
    | succ n =>
      simp only [setF]
      cases hb : Nat.beq (n % 2) 0 with
      | true =>
        have hn : n % 2 = 0 := Nat.eq_of_beq_eq_true hb
        simp only [cond_true]
        cases m with
        | zero => simp only [get]; rw [if_neg (by omega), get_mid]
        | succ m =>
          simp only [get]
          cases hc : Nat.beq (m % 2) 0 with
          | true =>
            have hm : m % 2 = 0 := Nat.eq_of_beq_eq_true hc
            simp only [cond_true]
            rw [ih _ _ _ _ (by omega)]
            by_cases e : m = n
            · subst e; simp
            · rw [if_neg (by omega), if_neg (by omega), get_lft]; congr 1; omega
          | false =>
            have hm : m % 2 ≠ 0 := Nat.ne_of_beq_eq_false hc
            simp only [cond_false]
            rw [if_neg (by omega), get_rgt]; congr 1; omega
      | false =>
        have hn : n % 2 ≠ 0 := Nat.ne_of_beq_eq_false hb
        simp only [cond_false]
        cases m with
        | zero => simp only [get]; rw [if_neg (by omega), get_mid]
        | succ m =>
          simp only [get]
          cases hc : Nat.beq (m % 2) 0 with
          | true =>
            have hm : m % 2 = 0 := Nat.eq_of_beq_eq_true hc
            simp only [cond_true]
            rw [if_neg (by omega), get_lft]; congr 1; omega
          | false =>
            have hm : m % 2 ≠ 0 := Nat.ne_of_beq_eq_false hc
            simp only [cond_false]
            rw [ih _ _ _ _ (by omega)]
            by_cases e : m = n
            · subst e; simp
            · rw [if_neg (by omega), if_neg (by omega), get_rgt]; congr 1; omega

theorem get_put (t : Tr α) (n : Nat) (a : α) (m : Nat) : (t.put n a).get m = if m = n then some a else t.get m :=
  get_setF (n + 1) t n (some a) m (by omega)
theorem get_del (t : Tr α) (n : Nat) (m : Nat) : (t.del n).get m = if m = n then none else t.get m :=
  get_setF (n + 1) t n none m (by omega)

theorem get_full (f : Nat → Option α) (d : Nat) : ∀ (a b n : Nat) (x : α), (full f d a b).get n = some x → f (a * n + b) = some x := by
  induction d with
  | zero => intro a b n x h; simp [full, get] at h
  | succ d ih =>
    intro a b n x h
    cases n with
    | zero => simpa [full, get] using h
    | succ n =>
      simp only [full, get] at h
      cases hb : Nat.beq (n % 2) 0 with
      | true =>
        have hn : n % 2 = 0 := Nat.eq_of_beq_eq_true hb
        rw [hb] at h
        have := ih _ _ _ _ h
        rw [← this]; congr 1
        have : n = 2 * (n / 2) := by omega
        rw [Nat.mul_succ]
        conv => lhs; rw [this]
        rw [Nat.mul_left_comm, Nat.mul_assoc]; omega
      | false =>
        have hn : n % 2 ≠ 0 := Nat.ne_of_beq_eq_false hb
        rw [hb] at h
        have := ih _ _ _ _ h
        rw [← this]; congr 1
        have : n = 2 * (n / 2) + 1 := by omega
        rw [Nat.mul_succ]
        conv => lhs; rw [this]
        rw [Nat.mul_add, Nat.mul_left_comm, Nat.mul_assoc]; omega
end Tr

/-! ## Texts -/
structure Atoms where
  txt : Nat → List UInt8
  tied : Nat → World → Prop

def den (s : Atoms) : Txt → List UInt8
  | [] => []
  | .lit b :: r => b ++ den s r
  | .atom i :: r => s.txt i ++ den s r

theorem beqBytes_eq : ∀ {a b : List UInt8}, beqBytes a b = true → a = b
  | [], [], _ => rfl
  | [], _ :: _, h => by simp [beqBytes] at h
  | _ :: _, [], h => by simp [beqBytes] at h
  | a :: x, b :: y, h => by
    simp only [beqBytes, Bool.and_eq_true] at h
    have h1 := Nat.eq_of_beq_eq_true h.1
    rw [UInt8.toNat_inj.1 h1, beqBytes_eq h.2]
theorem beqBytes_ne : ∀ {a b : List UInt8}, beqBytes a b = false → a ≠ b
  | [], [], h => by simp [beqBytes] at h
  | [], _ :: _, _ => by simp
  | _ :: _, [], _ => by simp
  | a :: x, b :: y, h => by
    simp only [beqBytes, Bool.and_eq_false_iff] at h
    intro e
    injection e with e1 e2
    rcases h with h | h
    · exact Nat.ne_of_beq_eq_false h (by rw [e1])
    · exact beqBytes_ne h e2
theorem Pc.beq_eq {a b : Pc} (h : a.beq b = true) : a = b := by
  cases a <;> cases b <;> simp only [Pc.beq] at h
  · rw [beqBytes_eq h]
  · cases h
  · cases h
  · rw [Nat.eq_of_beq_eq_true h]
theorem Txt.beq_eq : ∀ {a b : Txt}, Txt.beq a b = true → a = b
  | [], [], _ => rfl
  | [], _ :: _, h => by simp [Txt.beq] at h
  | _ :: _, [], h => by simp [Txt.beq] at h
  | a :: x, b :: y, h => by
    simp only [Txt.beq, Bool.and_eq_true] at h
    rw [Pc.beq_eq h.1, Txt.beq_eq h.2]

theorem den_cons (s : Atoms) (p : Pc) (r : Txt) : den s (p :: r) = den s [p] ++ den s r := by
  cases p <;> simp [den]

theorem den_cat (s : Atoms) : ∀ (x y : Txt), den s (x.cat y) = den s x ++ den s y
  | [], y => by simp [Txt.cat, den]
  | p :: x, y => by
    unfold Txt.cat
    split
    · simp [den]
    · rw [den_cons]
    · rw [den_cons, den_cat s x y, den_cons s p x, List.append_assoc]

theorem den_ofBytes (s : Atoms) (b : List UInt8) : den s (Txt.ofBytes b) = b := by
  unfold Txt.ofBytes; split <;> simp [den]

theorem den_lit {s : Atoms} {t : Txt} {b : List UInt8} (h : t.lit? = some b) : den s t = b := by
  unfold Txt.lit? at h
  split at h
  · simpa [den] using h
  · simpa [den] using h
  · cases h

structure Facts.Ok (F : Facts) (s : Atoms) : Prop where
  ne : ∀ i, memNat i F.nonempty = true → s.txt i ≠ []
  len : ∀ i, (s.txt i).length ≤ F.amax
  differ : ∀ a b, memPair a b F.differ = true → den s a ≠ den s b

theorem empty?_ok {F : Facts} {s : Atoms} (hF : F.Ok s) : ∀ {t : Txt} {b : Bool}, Txt.empty? F t = some b → (den s t).isEmpty = b
  | [], b, h => by simp [Txt.empty?] at h; subst h; rfl
  | .lit (c :: r) :: t, b, h => by simp [Txt.empty?] at h; subst h; simp [den]
  | .lit [] :: t, b, h => by
    simp only [Txt.empty?] at h
    have := empty?_ok hF h
    simpa [den] using this
  | .atom i :: t, b, h => by
    simp only [Txt.empty?] at h
    cases hm : memNat i F.nonempty with
    | true =>
      rw [hm] at h; simp at h; subst h
      have := hF.ne i hm
      simp [den, this]
    | false =>
      rw [hm] at h
      simp only [cond_false] at h
      split at h
      · rename_i he
        simp at h; subst h
        have := empty?_ok hF he
        simp only [den]
        cases hs : s.txt i <;> simp_all
      · cases h

theorem eq?_ok {F : Facts} {s : Atoms} (hF : F.Ok s) {a b : Txt} {r : Bool} (h : Txt.eq? F a b = some r) : decide (den s a = den s b) = r := by
  unfold Txt.eq? at h
  cases hb : a.beq b with
  | true => rw [hb] at h; simp at h; subst h; rw [Txt.beq_eq hb]; simp
  | false =>
    rw [hb] at h; simp only [cond_false] at h
    split at h
    · rename_i x y hx hy
      simp at h
      rw [den_lit hx, den_lit hy]
      cases hr : beqBytes x y with
      | true => rw [hr] at h; subst h; simp [beqBytes_eq hr]
      | false => rw [hr] at h; subst h; simp [beqBytes_ne hr]
    · split at h
      · have := empty?_ok hF h
        subst this
        simp only [den]
        cases den s b <;> simp
      · have := empty?_ok hF h
        subst this
        simp only [den]
        cases den s a <;> simp
      · cases hm : memPair a b F.differ with
        | true => rw [hm] at h; simp at h; subst h; simpa using hF.differ _ _ hm
        | false => rw [hm] at h; cases h

theorem bnd_ok {F : Facts} {s : Atoms} (hF : F.Ok s) : ∀ (t : Txt), (den s t).length ≤ Txt.bnd F t
  | [] => by simp [den]
  | .lit b :: r => by have := bnd_ok hF r; simp only [den, Txt.bnd, List.length_append]; omega
  | .atom i :: r => by have := bnd_ok hF r; have := hF.len i; simp only [den, Txt.bnd, List.length_append]; omega

/-! ## Values -/
inductive Bind where
  | row (b K : Nat)
  | val (v : Value)
abbrev Rho := List Bind

mutual
def RV (s : Atoms) (ρ : Rho) : LV → Value → Prop
  | .bool b, v => v = .bool b
  | .int k n, v => v = .int k n
  | .str t, v => ∃ b, v = .string b ∧ b.data.toList = den s t
  | .len t, v => v = .int .i64 (den s t).length
  | .nilp, v => v = .pointer none
  | .ptr l off, v => ∃ b K, ρ[l]? = some (.row b K) ∧ v = .pointer (some ⟨b, off, none⟩)
  | .gptr g off, v => v = .pointer (some ⟨g, off, none⟩)
  | .nils, v => v = .slice none 0 0
  | .slice l i esz len, v => ∃ b K, ρ[l]? = some (.row b K) ∧ i + len ≤ K ∧ v = .slice (some ⟨b, i * esz, none⟩) len (K - i)
  | .bsl l t, v => ρ[l]? = some (.val v) ∧ ∃ a n c, v = .slice a n c ∧ n = (den s t).length
  | .nilm, v => v = .map none
  | .map l, v => ∃ b K, ρ[l]? = some (.row b K) ∧ v = .map (some b)
  | .func fn f c, v => ∃ f' c', v = .func fn f' c' ∧ RVs s ρ f f'.toList ∧ RVs s ρ c c'.toList
  | .nilf, v => v = .nilFunc
  | .iface t x, v => ∃ v', v = .iface t v' ∧ RV s ρ x v'
  | .nili, v => v = .nilIface
  | .agg cs, v => ∃ a, v = .agg a ∧ RVs s ρ cs a.toList
  | .tuple vs, v => ∃ a, v = .tuple a ∧ RVs s ρ vs a.toList
def RVs (s : Atoms) (ρ : Rho) : List LV → List Value → Prop
  | [], vs => vs = []
  | x :: r, vs => ∃ v vs', vs = v :: vs' ∧ RV s ρ x v ∧ RVs s ρ r vs'
end

theorem get_ext {ρ : Rho} {x : Rho} {l : Nat} {b : Bind} (h : ρ[l]? = some b) : (ρ ++ x)[l]? = some b := by
  have := (List.getElem?_eq_some_iff.1 h).1
  rw [List.getElem?_append_left this]; exact h

mutual
theorem RV.ext {s : Atoms} {ρ : Rho} (x : Rho) : ∀ {l : LV} {v : Value}, RV s ρ l v → RV s (ρ ++ x) l v
  | .bool _, _, h => h
  | .int _ _, _, h => h
  | .str _, _, h => h
  | .len _, _, h => h
  | .nilp, _, h => h
  | .ptr _ _, _, h => by obtain ⟨b, K, h1, h2⟩ := h; exact ⟨b, K, get_ext h1, h2⟩
  | .gptr _ _, _, h => h
  | .nils, _, h => h
  | .slice _ _ _ _, _, h => by obtain ⟨b, K, h1, h2⟩ := h; exact ⟨b, K, get_ext h1, h2⟩
  | .bsl _ _, _, h => by obtain ⟨h1, h2⟩ := h; exact ⟨get_ext h1, h2⟩
  | .nilm, _, h => h
  | .map _, _, h => by obtain ⟨b, K, h1, h2⟩ := h; exact ⟨b, K, get_ext h1, h2⟩
  | .func _ _ _, _, h => by obtain ⟨f, c, h1, h2, h3⟩ := h; exact ⟨f, c, h1, RVs.ext x h2, RVs.ext x h3⟩
  | .nilf, _, h => h
  | .iface _ _, _, h => by obtain ⟨v, h1, h2⟩ := h; exact ⟨v, h1, RV.ext x h2⟩
  | .nili, _, h => h
  | .agg _, _, h => by obtain ⟨a, h1, h2⟩ := h; exact ⟨a, h1, RVs.ext x h2⟩
  | .tuple _, _, h => by obtain ⟨a, h1, h2⟩ := h; exact ⟨a, h1, RVs.ext x h2⟩
theorem RVs.ext {s : Atoms} {ρ : Rho} (x : Rho) : ∀ {l : List LV} {v : List Value}, RVs s ρ l v → RVs s (ρ ++ x) l v
  | [], _, h => h
  | _ :: _, _, h => by obtain ⟨v, vs, h1, h2, h3⟩ := h; exact ⟨v, vs, h1, RV.ext x h2, RVs.ext x h3⟩
end

mutual
theorem ofV_ok {s : Atoms} {ρ : Rho} : ∀ {v : Value} {l : LV}, ofV v = some l → RV s ρ l v
  | .bool _, _, h => by simp only [ofV, Option.some.injEq] at h; subst h; simp [RV]
  | .int _ _, _, h => by simp only [ofV, Option.some.injEq] at h; subst h; simp [RV]
  | .float _ _, _, h => by simp [ofV] at h
  | .complex _ _ _, _, h => by simp [ofV] at h
  | .string b, _, h => by simp only [ofV, Option.some.injEq] at h; subst h; exact ⟨b, rfl, (den_ofBytes _ _).symm⟩
  | .pointer none, _, h => by simp only [ofV, Option.some.injEq] at h; subst h; simp [RV]
  | .pointer (some _), _, h => by simp [ofV] at h
  | .slice none 0 0, _, h => by simp only [ofV, Option.some.injEq] at h; subst h; simp [RV]
  | .slice none (_ + 1) _, _, h => by simp [ofV] at h
  | .slice none 0 (_ + 1), _, h => by simp [ofV] at h
  | .slice (some _) _ _, _, h => by simp [ofV] at h
  | .map none, _, h => by simp only [ofV, Option.some.injEq] at h; subst h; simp [RV]
  | .map (some _), _, h => by simp [ofV] at h
  | .chan _, _, h => by simp [ofV] at h
  | .nilFunc, _, h => by simp only [ofV, Option.some.injEq] at h; subst h; simp [RV]
  | .nilIface, _, h => by simp only [ofV, Option.some.injEq] at h; subst h; simp [RV]
  | .func fn f c, l, h => by
    simp only [ofV] at h
    split at h
    · rename_i a b ha hb
      simp only [Option.some.injEq] at h; subst h
      exact ⟨f, c, rfl, ofVs_ok ha, ofVs_ok hb⟩
    · cases h
  | .iface t v, l, h => by
    simp only [ofV] at h
    split at h
    · rename_i a ha
      simp only [Option.some.injEq] at h; subst h
      exact ⟨v, rfl, ofV_ok ha⟩
    · cases h
  | .agg cs, l, h => by
    simp only [ofV] at h
    split at h
    · rename_i a ha
      simp only [Option.some.injEq] at h; subst h
      exact ⟨cs, rfl, ofVs_ok ha⟩
    · cases h
  | .tuple cs, l, h => by
    simp only [ofV] at h
    split at h
    · rename_i a ha
      simp only [Option.some.injEq] at h; subst h
      exact ⟨cs, rfl, ofVs_ok ha⟩
    · cases h
theorem ofVs_ok {s : Atoms} {ρ : Rho} : ∀ {v : List Value} {l : List LV}, ofVs v = some l → RVs s ρ l v
  | [], _, h => by simp only [ofVs, Option.some.injEq] at h; subst h; simp [RVs]
  | v :: r, l, h => by
    simp only [ofVs] at h
    split at h
    · rename_i a b ha hb
      simp only [Option.some.injEq] at h; subst h
      exact ⟨v, r, rfl, ofV_ok ha, ofVs_ok hb⟩
    · cases h
end

/-! ## Lists of cells -/
theorem RVs.length {s : Atoms} {ρ : Rho} : ∀ {l : List LV} {v : List Value}, RVs s ρ l v → v.length = l.length
  | [], _, h => by simp only [RVs] at h; subst h; rfl
  | _ :: _, _, h => by obtain ⟨v, vs, h1, _, h3⟩ := h; subst h1; simp [RVs.length h3]

theorem RVs.append {s : Atoms} {ρ : Rho} : ∀ {a b : List LV} {x y : List Value}, RVs s ρ a x → RVs s ρ b y → RVs s ρ (a ++ b) (x ++ y)
  | [], _, _, _, h, h' => by simp only [RVs] at h; subst h; exact h'
  | _ :: _, _, _, _, h, h' => by
    obtain ⟨v, vs, h1, h2, h3⟩ := h; subst h1
    exact ⟨v, _, rfl, h2, RVs.append h3 h'⟩

theorem RVs.dropN {s : Atoms} {ρ : Rho} : ∀ {n : Nat} {l : List LV} {v : List Value}, RVs s ρ l v → RVs s ρ (Vx.dropN n l) (v.drop n)
  | 0, _, _, h => by simpa [Vx.dropN] using h
  | n + 1, [], _, h => by simp only [RVs] at h; subst h; simp [Vx.dropN, RVs]
  | n + 1, _ :: _, _, h => by
    obtain ⟨v, vs, h1, _, h3⟩ := h; subst h1
    simpa [Vx.dropN] using RVs.dropN (n := n) h3

theorem RVs.takeN {s : Atoms} {ρ : Rho} : ∀ {n : Nat} {l c : List LV} {v : List Value}, RVs s ρ l v → Vx.takeN n l = some c → RVs s ρ c (v.take n) ∧ n ≤ v.length
  | 0, _, _, _, _, h' => by simp only [Vx.takeN, Option.some.injEq] at h'; subst h'; simp [RVs]
  | n + 1, [], _, _, _, h' => by simp [Vx.takeN] at h'
  | n + 1, _ :: _, _, _, h, h' => by
    obtain ⟨v, vs, h1, h2, h3⟩ := h; subst h1
    simp only [Vx.takeN] at h'
    split at h'
    · rename_i l hl
      simp only [Option.some.injEq] at h'; subst h'
      obtain ⟨g1, g2⟩ := RVs.takeN h3 hl
      exact ⟨⟨v, _, by simp, h2, g1⟩, by simp; omega⟩
    · cases h'

theorem RVs.sub {s : Atoms} {ρ : Rho} {l c : List LV} {v : List Value} {off n : Nat} (h : RVs s ρ l v) (h' : Vx.sub l off n = some c) :
    RVs s ρ c ((v.drop off).take n) ∧ (n = 0 ∨ off + n ≤ v.length) := by
  obtain ⟨g1, g2⟩ := RVs.takeN (RVs.dropN h) h'
  refine ⟨g1, ?_⟩
  simp at g2
  omega

/-- Cells written over others, in the model's values. -/
theorem RVs.over {s : Atoms} {ρ : Rho} : ∀ {l : List LV} {n : Nat} {vs c : List LV} {v w : List Value}, RVs s ρ l v → RVs s ρ vs w → Vx.over l n vs = some c →
    RVs s ρ c (v.take n ++ w ++ v.drop (n + w.length)) ∧ n + w.length ≤ v.length
  | l, 0, [], c, v, w, h, hw, h' => by
    simp only [RVs] at hw; subst hw
    have : c = l := by unfold Vx.over at h'; cases l <;> simpa using h'.symm
    subst this
    exact ⟨by simpa using h, by simp⟩
  | a :: r, n + 1, vs, c, v, w, h, hw, h' => by
    obtain ⟨x, xs, h1, h2, h3⟩ := h; subst h1
    simp only [Vx.over] at h'
    split at h'
    · rename_i c' hc
      simp only [Option.some.injEq] at h'; subst h'
      obtain ⟨g1, g2⟩ := RVs.over h3 hw hc
      refine ⟨⟨x, _, ?_, h2, g1⟩, by simp; omega⟩
      simp [Nat.add_right_comm]
    · cases h'
  | a :: r, 0, b :: vs, c, v, w, h, hw, h' => by
    obtain ⟨x, xs, h1, h2, h3⟩ := h; subst h1
    obtain ⟨y, ys, k1, k2, k3⟩ := hw; subst k1
    simp only [Vx.over] at h'
    split at h'
    · rename_i c' hc
      simp only [Option.some.injEq] at h'; subst h'
      obtain ⟨g1, g2⟩ := RVs.over h3 k3 hc
      refine ⟨⟨y, _, ?_, k2, g1⟩, by simp at g2 ⊢; omega⟩
      simp
    · cases h'
  | [], 0, _ :: _, _, _, _, _, _, h' => by simp [Vx.over] at h'
  | [], _ + 1, _, _, _, _, _, _, h' => by simp [Vx.over] at h'

theorem one_ok {s : Atoms} {ρ : Rho} {x : LV} {v : Value} (h : RV s ρ x v) (h1 : x.one = true) : (∀ a, v ≠ .agg a) ∧ (∀ a, v ≠ .tuple a) := by
  cases x <;> simp only [LV.one, Bool.false_eq_true] at h1 <;> simp only [RV] at h <;>
    first
    | (subst h; exact ⟨by simp, by simp⟩)
    | (obtain ⟨_, h, _⟩ := h; subst h; exact ⟨by simp, by simp⟩)
    | (obtain ⟨_, _, h, _⟩ := h; subst h; exact ⟨by simp, by simp⟩)
    | (obtain ⟨_, _, _, h⟩ := h; subst h; exact ⟨by simp, by simp⟩)
    | (obtain ⟨_, _, _, _, h⟩ := h; subst h; exact ⟨by simp, by simp⟩)
    | (obtain ⟨_, _, _, _, h, _⟩ := h; subst h; exact ⟨by simp, by simp⟩)

theorem cells_ok {s : Atoms} {ρ : Rho} {x : LV} {v : Value} (h : RV s ρ x v) : RVs s ρ x.cells v.cells.toList := by
  by_cases h1 : ∃ cs, x = .agg cs
  · obtain ⟨cs, rfl⟩ := h1
    obtain ⟨a, rfl, ha⟩ := h
    exact ha
  · have e : x.cells = [x] := by cases x <;> first | rfl | exact absurd ⟨_, rfl⟩ h1
    rw [e]
    have hv : v.cells = #[v] := by
      cases x <;> first | exact absurd ⟨_, rfl⟩ h1 | (simp only [RV] at h; first
        | (subst h; rfl)
        | (obtain ⟨_, h, _⟩ := h; subst h; rfl)
        | (obtain ⟨_, _, h, _⟩ := h; subst h; rfl)
        | (obtain ⟨_, _, _, h⟩ := h; subst h; rfl)
        | (obtain ⟨_, _, _, _, h⟩ := h; subst h; rfl)
        | (obtain ⟨_, _, _, _, h, _⟩ := h; subst h; rfl))
    rw [hv]
    exact ⟨v, [], rfl, h, rfl⟩

/-! ## The memory -/
/-- No cell of a row is frozen, and it bears no mark of a string; or only such a mark, behind its end. -/
def RK.frz (k : RK) (fr : Nat × Nat) (n : Nat) : Prop :=
  match k with
  | .marked => fr = (0, 0) ∨ n ≤ fr.1
  | _ => fr = (0, 0)

def bytesAt (w : World) (v : Value) (l : List UInt8) : Prop :=
  (l = [] ∧ ∃ c, v = .slice none 0 c) ∨
  ∃ b o c cs e fr, v = .slice (some ⟨b, o, none⟩) l.length c ∧ w.heap[b]? = some (.cells cs e fr) ∧ l.length ≤ c ∧ ∀ k, (h : k < l.length) → cs[o + k]? = some (.int .u8 (l[k]).toNat)

def REnts (s : Atoms) (ρ : Rho) : List (LV × LV) → List MapEntry → Prop
  | [], es => es = []
  | (k, v) :: r, es => ∃ e es', es = e :: es' ∧ RV s ρ k e.key ∧ RV s ρ v e.val ∧ REnts s ρ r es'

def ROb (V : VP) (s : Atoms) (ρ : Rho) (o : Ob) (bd : Bind) (w : World) : Prop :=
  match o with
  | .row e cs k => ∃ b K c sp fr, bd = .row b K ∧ w.heap[b]? = some (.cells (c ++ sp) e fr) ∧ RVs s ρ cs c.toList ∧
      (k = .exact → sp = #[]) ∧ k.frz fr (c ++ sp).size ∧ (∀ i, V.ty.get e = some i → K * i.size ≤ (c ++ sp).size)
  | .map es => ∃ b K ents clock, bd = .row b K ∧ w.heap[b]? = some (.map ents clock) ∧ REnts s ρ es ents.toList
  | .view t => ∃ v, bd = .val v ∧ bytesAt w v (den s t)
  | .bytes t => ∃ b cap cs, bd = .val (.slice (some ⟨b, 0, none⟩) (den s t).length cap) ∧ w.heap[b]? = some (.cells cs V.bty (0, 0)) ∧ cs.size = cap ∧
      (den s t).length ≤ cap ∧ cap ≤ maxLen ∧ 1 ≤ (den s t).length ∧ ∀ k, (h : k < (den s t).length) → cs[k]? = some (.int .u8 ((den s t)[k]).toNat)

def Bind.block : Bind → Option Nat
  | .row b _ => some b
  | .val (.slice (some a) _ _) => some a.block
  | _ => none

def Ob.isView : Ob → Bool
  | .view _ => true
  | _ => false

/-- The logical memory σ is what the world w holds from block 'base' on; below it w is as w0 was. -/
structure RW (V : VP) (s : Atoms) (base : Nat) (w0 : World) (ρ : Rho) (σ : St) (w : World) : Prop where
  len : ρ.length = σ.next
  ob : ∀ l o, σ.heap.get l = some o → ∃ bd, ρ[l]? = some bd ∧ ROb V s ρ o bd w
  low : ∀ l o bd b, σ.heap.get l = some o → ρ[l]? = some bd → bd.block = some b → base ≤ b ∧ b < w.heap.size
  apart : ∀ l l' o o' bd bd' b, l ≠ l' → σ.heap.get l = some o → σ.heap.get l' = some o' → ρ[l]? = some bd → ρ[l']? = some bd' → bd.block = some b → bd'.block = some b →
      o.isView = true ∧ o'.isView = true
  below : Below base w0 w
  base_le : base ≤ w.heap.size
  tied : s.tied base w0

theorem REnts.ext {s : Atoms} {ρ : Rho} (x : Rho) : ∀ {es : List (LV × LV)} {ents : List MapEntry}, REnts s ρ es ents → REnts s (ρ ++ x) es ents
  | [], _, h => h
  | (_, _) :: _, _, h => by
    obtain ⟨e, es', h1, h2, h3, h4⟩ := h
    exact ⟨e, es', h1, h2.ext x, h3.ext x, h4.ext x⟩

theorem ROb.ext {V : VP} {s : Atoms} {ρ : Rho} (x : Rho) {o : Ob} {bd : Bind} {w : World} (h : ROb V s ρ o bd w) : ROb V s (ρ ++ x) o bd w := by
  cases o with
  | row e cs k => obtain ⟨b, K, c, sp, fr, h1, h2, h3, h4⟩ := h; exact ⟨b, K, c, sp, fr, h1, h2, h3.ext x, h4⟩
  | map es => obtain ⟨b, K, ents, clock, h1, h2, h3⟩ := h; exact ⟨b, K, ents, clock, h1, h2, h3.ext x⟩
  | view t => exact h
  | bytes t => exact h

/-- What an object is hangs on its block alone. -/
theorem ROb.congr {V : VP} {s : Atoms} {ρ : Rho} {o : Ob} {bd : Bind} {w w' : World} (h : ROb V s ρ o bd w) (hb : ∀ b, bd.block = some b → w'.heap[b]? = w.heap[b]?) : ROb V s ρ o bd w' := by
  cases o with
  | row e cs k => obtain ⟨b, K, c, sp, fr, h1, h2, h3⟩ := h; subst h1; exact ⟨b, K, c, sp, fr, rfl, by rw [hb b rfl]; exact h2, h3⟩
  | map es => obtain ⟨b, K, ents, clock, h1, h2, h3⟩ := h; subst h1; exact ⟨b, K, ents, clock, rfl, by rw [hb b rfl]; exact h2, h3⟩
  | view t =>
    obtain ⟨v, h1, h2⟩ := h; subst h1
    refine ⟨v, rfl, ?_⟩
    rcases h2 with h2 | ⟨b, o, c, cs, e, fr, h3, h4, h5⟩
    · exact .inl h2
    · subst h3; exact .inr ⟨b, o, c, cs, e, fr, rfl, by rw [hb b rfl]; exact h4, h5⟩
  | bytes t =>
    obtain ⟨b, cap, cs, h1, h2, h3⟩ := h; subst h1
    exact ⟨b, cap, cs, rfl, by rw [hb b rfl]; exact h2, h3⟩

variable {V : VP} {s : Atoms} {base : Nat} {w0 : World} {ρ : Rho} {σ : St} {w : World}

theorem RW.fresh (h : RW V s base w0 ρ σ w) {l : Nat} {o : Ob} (hl : σ.heap.get l = some o) : l < σ.next := by
  obtain ⟨bd, h1, _⟩ := h.ob l o hl
  have := (List.getElem?_eq_some_iff.1 h1).1
  have := h.len
  omega

/-- A world that agrees on all blocks that were there. -/
theorem RW.world (h : RW V s base w0 ρ σ w) {w' : World} (hb : Below w.heap.size w w') : RW V s base w0 ρ σ w' :=
  { len := h.len
    ob := fun l o hl => by
      obtain ⟨bd, h1, h2⟩ := h.ob l o hl
      exact ⟨bd, h1, h2.congr fun b hbb => hb.block b (h.low l o bd b hl h1 hbb).2⟩
    low := fun l o bd b hl h1 hbb => ⟨(h.low l o bd b hl h1 hbb).1, Nat.lt_of_lt_of_le (h.low l o bd b hl h1 hbb).2 hb.size⟩
    apart := h.apart
    below := h.below.trans (hb.mono h.base_le)
    base_le := Nat.le_trans h.base_le hb.size
    tied := h.tied }

/-- A new object, in a new block. -/
theorem RW.allocTo (h : RW V s base w0 ρ σ w) {w' : World} (hbel : Below w.heap.size w w') (hs : w'.heap.size = w.heap.size + 1) (K : Nat) (o : Ob)
    (ho : ROb V s ρ o (.row w.heap.size K) w') : RW V s base w0 (ρ ++ [.row w.heap.size K]) (newOb σ o).2 w' := by
  have hblk : ∀ k, k < w.heap.size → w'.heap[k]? = w.heap[k]? := fun k hk => hbel.block k hk
  have hget : ∀ l o', (newOb σ o).2.heap.get l = some o' → (l = σ.next ∧ o' = o) ∨ (l ≠ σ.next ∧ σ.heap.get l = some o') := by
    intro l o' hl
    simp only [newOb, Tr.get_put] at hl
    by_cases e : l = σ.next
    · rw [if_pos e] at hl; exact .inl ⟨e, (Option.some.inj hl).symm⟩
    · rw [if_neg e] at hl; exact .inr ⟨e, hl⟩
  have hold : ∀ l o', σ.heap.get l = some o' → (ρ ++ [Bind.row w.heap.size K])[l]? = ρ[l]? := fun l o' hl =>
    List.getElem?_append_left (by have := h.fresh hl; have := h.len; omega)
  have hnew : (ρ ++ [Bind.row w.heap.size K])[σ.next]? = some (.row w.heap.size K) := by
    rw [← h.len]; simp
  refine { len := by simp [newOb, h.len], ob := ?_, low := ?_, apart := ?_, below := h.below.trans (hbel.mono h.base_le), base_le := by rw [hs]; have := h.base_le; omega, tied := h.tied }
  · intro l o' hl
    rcases hget l o' hl with ⟨rfl, rfl⟩ | ⟨_, hl⟩
    · exact ⟨_, hnew, ho.ext _⟩
    · obtain ⟨bd, h1, h2⟩ := h.ob l o' hl
      exact ⟨bd, by rw [hold l o' hl]; exact h1, (h2.ext _).congr fun b hbb => hblk b (h.low l o' bd b hl h1 hbb).2⟩
  · intro l o' bd b hl h1 hbb
    rcases hget l o' hl with ⟨rfl, rfl⟩ | ⟨_, hl⟩
    · rw [hnew] at h1; cases h1; cases hbb; rw [hs]; exact ⟨h.base_le, Nat.lt_succ_self _⟩
    · rw [hold l o' hl] at h1
      obtain ⟨g1, g2⟩ := h.low l o' bd b hl h1 hbb
      rw [hs]; exact ⟨g1, by omega⟩
  · intro l l' o1 o2 bd bd' b hne hl hl' h1 h2 hb1 hb2
    rcases hget l o1 hl with ⟨rfl, rfl⟩ | ⟨e1, gl⟩
    · rcases hget l' o2 hl' with ⟨rfl, rfl⟩ | ⟨e2, gl'⟩
      · exact absurd rfl hne
      · rw [hnew] at h1; cases h1; cases hb1
        rw [hold l' o2 gl'] at h2
        have := (h.low l' o2 bd' _ gl' h2 hb2).2
        omega
    · rcases hget l' o2 hl' with ⟨rfl, rfl⟩ | ⟨e2, gl'⟩
      · rw [hnew] at h2; cases h2; cases hb2
        rw [hold l o1 gl] at h1
        have := (h.low l o1 bd _ gl h1 hb1).2
        omega
      · rw [hold l o1 gl] at h1; rw [hold l' o2 gl'] at h2
        exact h.apart l l' o1 o2 bd bd' b hne gl gl' h1 h2 hb1 hb2

theorem RW.alloc (h : RW V s base w0 ρ σ w) (x : Obj) (K : Nat) (o : Ob)
    (ho : ROb V s ρ o (.row w.heap.size K) (w.alloc x)) : RW V s base w0 (ρ ++ [.row w.heap.size K]) (newOb σ o).2 (w.alloc x) :=
  h.allocTo ((Below.refl _ _).alloc (Nat.le_refl _) x) (by simp) K o ho

/-- A new view of bytes. -/
theorem RW.allocView (h : RW V s base w0 ρ σ w) {t : Txt} {v : Value} (hv : bytesAt w v (den s t))
    (hlow : ∀ b, (Bind.val v).block = some b → base ≤ b ∧ b < w.heap.size)
    (hap : ∀ l o bd b, σ.heap.get l = some o → ρ[l]? = some bd → bd.block = some b → (Bind.val v).block = some b → o.isView = true) :
    RW V s base w0 (ρ ++ [.val v]) (newOb σ (.view t)).2 w := by
  have hget : ∀ l o', (newOb σ (.view t)).2.heap.get l = some o' → (l = σ.next ∧ o' = .view t) ∨ (l ≠ σ.next ∧ σ.heap.get l = some o') := by
    intro l o' hl
    simp only [newOb, Tr.get_put] at hl
    by_cases e : l = σ.next
    · rw [if_pos e] at hl; exact .inl ⟨e, (Option.some.inj hl).symm⟩
    · rw [if_neg e] at hl; exact .inr ⟨e, hl⟩
  have hold : ∀ l o', σ.heap.get l = some o' → (ρ ++ [Bind.val v])[l]? = ρ[l]? := fun l o' hl =>
    List.getElem?_append_left (by have := h.fresh hl; have := h.len; omega)
  have hnew : (ρ ++ [Bind.val v])[σ.next]? = some (.val v) := by
    rw [← h.len]; simp
  refine { len := by simp [newOb, h.len], ob := ?_, low := ?_, apart := ?_, below := h.below, base_le := h.base_le, tied := h.tied }
  · intro l o' hl
    rcases hget l o' hl with ⟨rfl, rfl⟩ | ⟨_, hl⟩
    · exact ⟨_, hnew, ⟨v, rfl, hv⟩⟩
    · obtain ⟨bd, h1, h2⟩ := h.ob l o' hl
      exact ⟨bd, by rw [hold l o' hl]; exact h1, h2.ext _⟩
  · intro l o' bd b hl h1 hbb
    rcases hget l o' hl with ⟨rfl, rfl⟩ | ⟨_, hl⟩
    · rw [hnew] at h1; cases h1; exact hlow b hbb
    · rw [hold l o' hl] at h1
      exact h.low l o' bd b hl h1 hbb
  · intro l l' o1 o2 bd bd' b hne hl hl' h1 h2 hb1 hb2
    rcases hget l o1 hl with ⟨rfl, rfl⟩ | ⟨e1, gl⟩
    · rcases hget l' o2 hl' with ⟨rfl, rfl⟩ | ⟨e2, gl'⟩
      · exact absurd rfl hne
      · rw [hnew] at h1; cases h1
        rw [hold l' o2 gl'] at h2
        exact ⟨rfl, hap l' o2 bd' b gl' h2 hb2 hb1⟩
    · rcases hget l' o2 hl' with ⟨rfl, rfl⟩ | ⟨e2, gl'⟩
      · rw [hnew] at h2; cases h2
        rw [hold l o1 gl] at h1
        exact ⟨hap l o1 bd b gl h1 hb1 hb2, rfl⟩
      · rw [hold l o1 gl] at h1; rw [hold l' o2 gl'] at h2
        exact h.apart l l' o1 o2 bd bd' b hne gl gl' h1 h2 hb1 hb2

/-- An object that is no view turns, its block alone. -/
theorem RW.upd (h : RW V s base w0 ρ σ w) {l : Nat} {o o' : Ob} {bd : Bind} {b : Nat} {w' : World} (hl : σ.heap.get l = some o) (hv : o.isView = false) (hv' : o'.isView = false)
    (hbd : ρ[l]? = some bd) (hb : bd.block = some b) (hsz : w'.heap.size = w.heap.size) (hoth : ∀ k, k ≠ b → w'.heap[k]? = w.heap[k]?)
    (hos : w'.os = w.os) (htape : w'.tape = w.tape) (hout : w'.output = w.output) (ho : ROb V s ρ o' bd w') : RW V s base w0 ρ (σ.set l o') w' := by
  obtain ⟨hb1, hb2⟩ := h.low l o bd b hl hbd hb
  have hget : ∀ k x, (σ.set l o').heap.get k = some x → (k = l ∧ x = o') ∨ (k ≠ l ∧ σ.heap.get k = some x) := by
    intro k x hk
    simp only [St.set, Tr.get_put] at hk
    by_cases e : k = l
    · rw [if_pos e] at hk; exact .inl ⟨e, (Option.some.inj hk).symm⟩
    · rw [if_neg e] at hk; exact .inr ⟨e, hk⟩
  refine { len := h.len, ob := ?_, low := ?_, apart := ?_, below := ?_, base_le := by rw [hsz]; exact h.base_le, tied := h.tied }
  · intro k x hk
    rcases hget k x hk with ⟨rfl, rfl⟩ | ⟨hne, hk⟩
    · exact ⟨bd, hbd, ho⟩
    · obtain ⟨bd', g1, g2⟩ := h.ob k x hk
      refine ⟨bd', g1, g2.congr fun b' hb' => hoth b' fun e => ?_⟩
      subst e
      have := (h.apart k l x o bd' bd b' hne hk hl g1 hbd hb' hb).2
      rw [hv] at this; cases this
  · intro k x bd' b' hk g1 hb'
    rw [hsz]
    rcases hget k x hk with ⟨rfl, rfl⟩ | ⟨_, hk⟩
    · exact h.low k o bd' b' hl g1 hb'
    · exact h.low k x bd' b' hk g1 hb'
  · intro k k' x x' bd1 bd2 b' hne hk hk' g1 g2 hb1 hb2
    have hx : ∀ {k x}, (σ.set l o').heap.get k = some x → ∃ y, σ.heap.get k = some y ∧ (k = l → y = o ∧ x = o') ∧ (k ≠ l → y = x) := by
      intro k x hk
      rcases hget k x hk with ⟨rfl, rfl⟩ | ⟨hne, hk⟩
      · exact ⟨o, hl, fun _ => ⟨rfl, rfl⟩, fun h => absurd rfl h⟩
      · exact ⟨x, hk, fun e => absurd e hne, fun _ => rfl⟩
    obtain ⟨y, hy, hy1, hy2⟩ := hx hk
    obtain ⟨y', hy', hy1', hy2'⟩ := hx hk'
    obtain ⟨r1, r2⟩ := h.apart k k' y y' bd1 bd2 b' hne hy hy' g1 g2 hb1 hb2
    have e1 : k ≠ l := fun e => by rw [(hy1 e).1, hv] at r1; cases r1
    have e2 : k' ≠ l := fun e => by rw [(hy1' e).1, hv] at r2; cases r2
    rw [hy2 e1] at r1; rw [hy2' e2] at r2
    exact ⟨r1, r2⟩
  · exact h.below.trans ⟨hos, htape, hout, by rw [hsz]; exact Nat.le_refl _, fun k hk => hoth k (by omega)⟩

/-- The logical memory counts by what it answers. -/
theorem RW.same (h : RW V s base w0 ρ σ w) {σ' : St} (hn : σ'.next = σ.next) (hg : ∀ l, σ'.heap.get l = σ.heap.get l) : RW V s base w0 ρ σ' w :=
  { len := by rw [hn]; exact h.len
    ob := fun l o hl => h.ob l o (by rw [← hg]; exact hl)
    low := fun l o bd b hl => h.low l o bd b (by rw [← hg]; exact hl)
    apart := fun l l' o o' bd bd' b hne hl hl' => h.apart l l' o o' bd bd' b hne (by rw [← hg]; exact hl) (by rw [← hg]; exact hl')
    below := h.below
    base_le := h.base_le
    tied := h.tied }

/-- An object under a new number. -/
theorem RW.move (h : RW V s base w0 ρ σ w) {l : Nat} {o : Ob} {bd : Bind} (hl : σ.heap.get l = some o) (hb : ρ[l]? = some bd) :
    RW V s base w0 (ρ ++ [bd]) (newOb (σ.del l) o).2 w := by
  have hget : ∀ k x, (newOb (σ.del l) o).2.heap.get k = some x → (k = σ.next ∧ x = o) ∨ (k ≠ σ.next ∧ k ≠ l ∧ σ.heap.get k = some x) := by
    intro k x hk
    simp only [newOb, St.del, Tr.get_put, Tr.get_del] at hk
    by_cases e : k = σ.next
    · rw [if_pos e] at hk; exact .inl ⟨e, (Option.some.inj hk).symm⟩
    · rw [if_neg e] at hk
      by_cases e2 : k = l
      · rw [if_pos e2] at hk; cases hk
      · rw [if_neg e2] at hk; exact .inr ⟨e, e2, hk⟩
  have hold : ∀ k x, σ.heap.get k = some x → (ρ ++ [bd])[k]? = ρ[k]? := fun k x hk =>
    List.getElem?_append_left (by have := h.fresh hk; have := h.len; omega)
  have hnew : (ρ ++ [bd])[σ.next]? = some bd := by
    rw [← h.len]; simp
  obtain ⟨bd', q1, q2⟩ := h.ob l o hl
  rw [hb] at q1; cases q1
  refine { len := by simp [newOb, St.del, h.len], ob := ?_, low := ?_, apart := ?_, below := h.below, base_le := h.base_le, tied := h.tied }
  · intro k x hk
    rcases hget k x hk with ⟨rfl, rfl⟩ | ⟨_, _, hk⟩
    · exact ⟨_, hnew, q2.ext _⟩
    · obtain ⟨bd', h1, h2⟩ := h.ob k x hk
      exact ⟨bd', by rw [hold k x hk]; exact h1, h2.ext _⟩
  · intro k x bd' b hk h1 hbb
    rcases hget k x hk with ⟨rfl, rfl⟩ | ⟨_, _, hk⟩
    · rw [hnew] at h1; cases h1; exact h.low l x _ b hl hb hbb
    · rw [hold k x hk] at h1
      exact h.low k x bd' b hk h1 hbb
  · intro k k' x x' bd1 bd2 b hne hk hk' h1 h2 hb1 hb2
    rcases hget k x hk with ⟨rfl, rfl⟩ | ⟨e1, e1', gk⟩
    · rcases hget k' x' hk' with ⟨rfl, rfl⟩ | ⟨e2, e2', gk'⟩
      · exact absurd rfl hne
      · rw [hnew] at h1; cases h1
        rw [hold k' x' gk'] at h2
        exact h.apart l k' x x' _ bd2 b (Ne.symm e2') hl gk' hb h2 hb1 hb2
    · rcases hget k' x' hk' with ⟨rfl, rfl⟩ | ⟨e2, e2', gk'⟩
      · rw [hnew] at h2; cases h2
        rw [hold k x gk] at h1
        exact h.apart k l x x' bd1 _ b e1' gk hl h1 hb hb1 hb2
      · rw [hold k x gk] at h1; rw [hold k' x' gk'] at h2
        exact h.apart k k' x x' bd1 bd2 b hne gk gk' h1 h2 hb1 hb2

/-- An object forgotten. -/
theorem RW.del (h : RW V s base w0 ρ σ w) (l : Nat) : RW V s base w0 ρ (σ.del l) w := by
  have hget : ∀ k x, (σ.del l).heap.get k = some x → σ.heap.get k = some x := by
    intro k x hk
    simp only [St.del, Tr.get_del] at hk
    by_cases e : k = l
    · rw [if_pos e] at hk; cases hk
    · rw [if_neg e] at hk; exact hk
  exact { len := h.len, ob := fun k x hk => h.ob k x (hget k x hk), low := fun k x bd b hk => h.low k x bd b (hget k x hk),
          apart := fun k k' x x' bd bd' b hne hk hk' => h.apart k k' x x' bd bd' b hne (hget k x hk) (hget k' x' hk'), below := h.below, base_le := h.base_le, tied := h.tied }

/-- A value without memory, or whose memory nobody speaks of. -/
theorem RW.skip (h : RW V s base w0 ρ σ w) (bd : Bind) : RW V s base w0 (ρ ++ [bd]) { heap := σ.heap, next := σ.next + 1 } w := by
  have hold : ∀ k x, σ.heap.get k = some x → (ρ ++ [bd])[k]? = ρ[k]? := fun k x hk =>
    List.getElem?_append_left (by have := h.fresh hk; have := h.len; omega)
  refine { len := by simp [h.len], ob := ?_, low := ?_, apart := ?_, below := h.below, base_le := h.base_le, tied := h.tied }
  · intro k x hk
    obtain ⟨bd', h1, h2⟩ := h.ob k x hk
    exact ⟨bd', by rw [hold k x hk]; exact h1, h2.ext _⟩
  · intro k x bd' b hk h1 hbb
    rw [hold k x hk] at h1
    exact h.low k x bd' b hk h1 hbb
  · intro k k' x x' bd1 bd2 b hne hk hk' h1 h2 hb1 hb2
    rw [hold k x hk] at h1; rw [hold k' x' hk'] at h2
    exact h.apart k k' x x' bd1 bd2 b hne hk hk' h1 h2 hb1 hb2

/-- A new object, in a block that nobody speaks of. -/
theorem RW.adopt (h : RW V s base w0 ρ σ w) {o : Ob} {bd : Bind} (ho : ROb V s (ρ ++ [bd]) o bd w) (hlow : ∀ b, bd.block = some b → base ≤ b ∧ b < w.heap.size)
    (hap : ∀ l o' bd' b, σ.heap.get l = some o' → ρ[l]? = some bd' → bd'.block = some b → bd.block = some b → False) : RW V s base w0 (ρ ++ [bd]) (newOb σ o).2 w := by
  have hget : ∀ l o', (newOb σ o).2.heap.get l = some o' → (l = σ.next ∧ o' = o) ∨ (l ≠ σ.next ∧ σ.heap.get l = some o') := by
    intro l o' hl
    simp only [newOb, Tr.get_put] at hl
    by_cases e : l = σ.next
    · rw [if_pos e] at hl; exact .inl ⟨e, (Option.some.inj hl).symm⟩
    · rw [if_neg e] at hl; exact .inr ⟨e, hl⟩
  have hold : ∀ l o', σ.heap.get l = some o' → (ρ ++ [bd])[l]? = ρ[l]? := fun l o' hl =>
    List.getElem?_append_left (by have := h.fresh hl; have := h.len; omega)
  have hnew : (ρ ++ [bd])[σ.next]? = some bd := by
    rw [← h.len]; simp
  refine { len := by simp [newOb, h.len], ob := ?_, low := ?_, apart := ?_, below := h.below, base_le := h.base_le, tied := h.tied }
  · intro l o' hl
    rcases hget l o' hl with ⟨rfl, rfl⟩ | ⟨_, hl⟩
    · exact ⟨_, hnew, ho⟩
    · obtain ⟨bd', h1, h2⟩ := h.ob l o' hl
      exact ⟨bd', by rw [hold l o' hl]; exact h1, h2.ext _⟩
  · intro l o' bd' b hl h1 hbb
    rcases hget l o' hl with ⟨rfl, rfl⟩ | ⟨_, hl⟩
    · rw [hnew] at h1; cases h1; exact hlow b hbb
    · rw [hold l o' hl] at h1
      exact h.low l o' bd' b hl h1 hbb
  · intro l l' o1 o2 bd1 bd2 b hne hl hl' h1 h2 hb1 hb2
    rcases hget l o1 hl with ⟨rfl, rfl⟩ | ⟨e1, gl⟩
    · rcases hget l' o2 hl' with ⟨rfl, rfl⟩ | ⟨e2, gl'⟩
      · exact absurd rfl hne
      · rw [hnew] at h1; cases h1
        rw [hold l' o2 gl'] at h2
        exact (hap l' o2 bd2 b gl' h2 hb2 hb1).elim
    · rcases hget l' o2 hl' with ⟨rfl, rfl⟩ | ⟨e2, gl'⟩
      · rw [hnew] at h2; cases h2
        rw [hold l o1 gl] at h1
        exact (hap l o1 bd1 b gl h1 hb1 hb2).elim
      · rw [hold l o1 gl] at h1; rw [hold l' o2 gl'] at h2
        exact h.apart l l' o1 o2 bd1 bd2 b hne gl gl' h1 h2 hb1 hb2

/-- What is bytes of one's own is bytes to be read. -/
theorem RW.weaken (h : RW V s base w0 ρ σ w) {l : Nat} {o : Ob} {t : Txt} {v : Value} (hl : σ.heap.get l = some o) (hb : ρ[l]? = some (.val v)) (hv : bytesAt w v (den s t)) :
    RW V s base w0 ρ (σ.set l (.view t)) w := by
  have hget : ∀ k x, (σ.set l (.view t)).heap.get k = some x → (k = l ∧ x = .view t) ∨ (k ≠ l ∧ σ.heap.get k = some x) := by
    intro k x hk
    simp only [St.set, Tr.get_put] at hk
    by_cases e : k = l
    · rw [if_pos e] at hk; exact .inl ⟨e, (Option.some.inj hk).symm⟩
    · rw [if_neg e] at hk; exact .inr ⟨e, hk⟩
  refine { len := h.len, ob := ?_, low := ?_, apart := ?_, below := h.below, base_le := h.base_le, tied := h.tied }
  · intro k x hk
    rcases hget k x hk with ⟨rfl, rfl⟩ | ⟨hne, hk⟩
    · exact ⟨_, hb, v, rfl, hv⟩
    · exact h.ob k x hk
  · intro k x bd' b' hk g1 hb'
    rcases hget k x hk with ⟨rfl, rfl⟩ | ⟨_, hk⟩
    · exact h.low k o bd' b' hl g1 hb'
    · exact h.low k x bd' b' hk g1 hb'
  · intro k k' x x' bd1 bd2 b' hne hk hk' g1 g2 hb1 hb2
    rcases hget k x hk with ⟨rfl, rfl⟩ | ⟨e1, gk⟩
    · rcases hget k' x' hk' with ⟨rfl, rfl⟩ | ⟨e2, gk'⟩
      · exact absurd rfl hne
      · exact ⟨rfl, (h.apart k k' o x' bd1 bd2 b' hne hl gk' g1 g2 hb1 hb2).2⟩
    · rcases hget k' x' hk' with ⟨rfl, rfl⟩ | ⟨e2, gk'⟩
      · exact ⟨(h.apart k k' x o bd1 bd2 b' hne gk hl g1 g2 hb1 hb2).1, rfl⟩
      · exact h.apart k k' x x' bd1 bd2 b' hne gk gk' g1 g2 hb1 hb2

end Vx

/- What each operation of the executor does, against the model. -/
set_option linter.unusedVariables false
set_option linter.unusedSimpArgs false
namespace Vx
open Go Go.RowKit

structure VP.Ok (V : VP) (P : Program) (s : Atoms) : Prop where
  ty : ∀ t i, V.ty.get t = some i → tyOf P t = some i
  fn : ∀ f g, V.fn.get f = some g → P.funcs[f]? = some g ∧ (g.name == "runtime.NumGoroutine") = false
  facts : V.facts.Ok s

section
variable {V : VP} {P : Program} {s : Atoms}

theorem info_of (hV : V.Ok P s) {t : TypeId} {i : TI} (h : V.ty.get t = some i) : P.info? t = some i.info ∧ P.underlying t = some i.und ∧ ∃ z, i.info.zero = some z ∧ ofV z = some i.zv := by
  have h := hV.ty t i h
  unfold tyOf at h
  split at h
  · cases h
  · rename_i i0 h0
    have hi : P.info? t = some i0 := by
      unfold Tables.info?
      have := (Array.getElem?_eq_some_iff.1 h0).1
      rw [if_pos this]; exact h0
    split at h
    · rename_i u z hu hz
      split at h
      · rename_i z' hz'
        cases h
        refine ⟨hi, ?_, z, hz, hz'⟩
        unfold Program.underlying
        rw [hi]
        cases hd : i0.desc with
        | named n u' =>
          rw [hd] at hu
          simp only at hu
          have h2 : P.info? u' = some u := by
            unfold Tables.info?
            have := (Array.getElem?_eq_some_iff.1 hu).1
            rw [if_pos this]; exact hu
          cases i0; simp only at hd; subst hd; simp [h2]
        | _ => rw [hd] at hu; simp only at hu; cases hu; cases i0; simp only at hd; subst hd; rfl
      · cases h
    · cases h

theorem run_isAgg' (hV : V.Ok P s) {t : TypeId} {i : TI} (h : V.ty.get t = some i) (w : World) : (isAgg t).run P w = .ok (isAggD i.und) w := by
  obtain ⟨_, h2, _⟩ := info_of hV h
  unfold isAgg
  simp only [Sem.run_bind, run_underlying h2, Result.andThen_ok]
  cases i.und <;> rfl

theorem run_sizeOf' (hV : V.Ok P s) {t : TypeId} {i : TI} (h : V.ty.get t = some i) (w : World) : (Go.sizeOf t).run P w = .ok i.size w := by
  obtain ⟨h1, _, _⟩ := info_of hV h
  simp [Go.sizeOf, typeInfo, h1, TI.size]

theorem run_und' (hV : V.Ok P s) {t : TypeId} {i : TI} (h : V.ty.get t = some i) (w : World) : (underlying t).run P w = .ok i.und w := run_underlying (info_of hV h).2.1 w

theorem run_zero' (hV : V.Ok P s) {t : TypeId} {i : TI} (h : V.ty.get t = some i) : ∃ z, (∀ w, (zeroValue t).run P w = .ok z w) ∧ ofV z = some i.zv ∧ i.info.zero = some z := by
  obtain ⟨h1, _, z, h2, h3⟩ := info_of hV h
  exact ⟨z, fun w => by simp [zeroValue, typeInfo, h1, h2], h3, h2⟩

theorem mkVar_ok {ρ : Rho} {d : TypeDesc} {cs : List LV} {v : LV} {vs : List Value} (h : mkVar d cs = some v) (hc : RVs s ρ cs vs) :
    (isAggD d = true ∧ RV s ρ v (.agg vs.toArray)) ∨ (isAggD d = false ∧ ∃ x, vs = [x] ∧ RV s ρ v x) := by
  unfold mkVar at h
  cases hd : isAggD d with
  | true => rw [hd] at h; simp at h; subst h; exact .inl ⟨rfl, vs.toArray, rfl, by simpa using hc⟩
  | false =>
    rw [hd] at h
    simp only [cond_false] at h
    split at h
    · rename_i v'
      cases h
      obtain ⟨x, xs, h1, h2, h3⟩ := hc
      simp only [RVs] at h3
      subst h3; exact .inr ⟨rfl, x, h1, h2⟩
    · cases h

/-- A row's cells, as the world holds them. -/
theorem row_cell {w : World} {b : Nat} {c : Array Value} {e : TypeId} {fr : Nat × Nat} (h : w.heap[b]? = some (.cells c e fr)) (o : Nat) : w.cell? ⟨b, o, none⟩ = c[o]? := by
  simp [World.cell?, h]

theorem addr_add (b o n : Nat) : (⟨b, o, none⟩ : Addr).add n = ⟨b, o + n, none⟩ := by unfold Addr.add; split <;> simp_all

/-- The cells of a stretch of a row. -/
theorem stretch {ρ : Rho} {cs c : List LV} {a sp : Array Value} {off n : Nat} (hc : RVs s ρ cs a.toList) (h : sub cs off n = some c) :
    ∃ vs : List Value, RVs s ρ c vs ∧ vs.length = n ∧ vs = (a.toList.drop off).take n ∧ (n = 0 ∨ off + n ≤ a.size) ∧ (∀ j v, vs[j]? = some v → (a ++ sp)[off + j]? = some v) := by
  obtain ⟨h1, h2⟩ := hc.sub h
  simp only [Array.length_toList] at h2
  refine ⟨_, h1, ?_, rfl, h2, ?_⟩
  · simp; omega
  · intro j v hj
    rw [List.getElem?_take] at hj
    split at hj
    · rw [List.getElem?_drop] at hj
      have hlt := (List.getElem?_eq_some_iff.1 hj).1
      simp only [Array.length_toList] at hlt
      rw [Array.getElem?_append_left hlt]
      simpa using hj
    · cases hj

theorem row_of {base : Nat} {w0 : World} {ρ : Rho} {σ : St} {w : World} (hw : RW V s base w0 ρ σ w) {l : Nat} {e : TypeId} {cs : List LV} {k : RK} (hl : σ.heap.get l = some (.row e cs k))
    {b K : Nat} (hb : ρ[l]? = some (.row b K)) : ∃ c sp fr, w.heap[b]? = some (.cells (c ++ sp) e fr) ∧ RVs s ρ cs c.toList ∧
      (k = .exact → sp = #[]) ∧ k.frz fr (c ++ sp).size ∧ (∀ i, V.ty.get e = some i → K * i.size ≤ (c ++ sp).size) := by
  obtain ⟨bd, h1, h2⟩ := hw.ob l _ hl
  rw [hb] at h1; cases h1
  obtain ⟨b', K', c, sp, fr, h3, h4⟩ := h2
  cases h3
  exact ⟨c, sp, fr, h4⟩

theorem loadV_ok (hV : V.Ok P s) {base : Nat} {w0 : World} {ρ : Rho} {σ : St} {w : World} (hw : RW V s base w0 ρ σ w) {t : TypeId} {p v : LV} {x : Value} (hp : RV s ρ p x) (h : loadV V σ t p = some v) :
    ∃ a v', x = .pointer (some a) ∧ (loadVar t a).run P w = .ok v' w ∧ RV s ρ v v' := by
  unfold loadV at h
  split at h
  case h_2 => cases h
  rename_i l off
  split at h
  case h_2 => cases h
  rename_i i e cs k hi hl
  split at h
  case h_2 => cases h
  rename_i c hc
  obtain ⟨b, K, hb, rfl⟩ := hp
  obtain ⟨a, sp, fr, h1, h2, _⟩ := row_of hw hl hb
  obtain ⟨vs, g1, g2, _, _, g3⟩ := stretch (sp := sp) h2 hc
  refine ⟨⟨b, off, none⟩, ?_⟩
  rcases mkVar_ok h g1 with ⟨hd, hv⟩ | ⟨hd, x, rfl, hv⟩
  · refine ⟨_, rfl, ?_, hv⟩
    unfold loadVar
    have hload := run_loadCells_list (P := P) w ⟨b, off, none⟩ vs (fun j v hj => by rw [addr_add, row_cell h1]; exact g3 j v hj)
    rw [g2] at hload
    simp only [Sem.run_bind, run_isAgg' hV hi, hd, Result.andThen_ok, if_true, run_sizeOf' hV hi, hload, Sem.run_pure]
  · refine ⟨_, rfl, ?_, hv⟩
    unfold loadVar
    have hcell : w.cell? ⟨b, off, none⟩ = some x := by rw [row_cell h1]; exact g3 0 x rfl
    simp [run_isAgg' hV hi, hd, hcell]

theorem allOne_ok {ρ : Rho} : ∀ {l : List LV} {vs : List Value}, RVs s ρ l vs → allOne l = true → ∀ v ∈ vs, v.oneCell' = true
  | [], _, h, _ => by simp only [RVs] at h; subst h; simp
  | x :: r, _, h, h1 => by
    obtain ⟨v, vs, rfl, h2, h3⟩ := h
    simp only [allOne, Bool.and_eq_true] at h1
    intro u hu
    rcases List.mem_cons.1 hu with rfl | hu
    · have := one_ok h2 h1.1
      cases u <;> first | rfl | exact absurd rfl (this.1 _) | exact absurd rfl (this.2 _)
    · exact allOne_ok h3 h1.2 u hu

theorem plain_frz {k : RK} (h : k.plain = true) {fr : Nat × Nat} {n : Nat} (hf : k.frz fr n) : fr = (0, 0) := by
  cases k <;> first | exact hf | cases h

/-- Cells of a row written over, by values that are one cell each. -/
theorem RW.write {base : Nat} {w0 : World} {ρ : Rho} {σ : St} {w : World} (hw : RW V s base w0 ρ σ w) {l : Nat} {e : TypeId} {cs cs' : List LV} {k : RK} (hl : σ.heap.get l = some (.row e cs k))
    (hk : k.plain = true) {b K : Nat} (hb : ρ[l]? = some (.row b K)) {off : Nat} {nv : List LV} {vs : List Value} (hvs : RVs s ρ nv vs) (h1 : allOne nv = true) (ho : over cs off nv = some cs') :
    ∃ w', (storeCells ⟨b, off, none⟩ vs).run P w = .ok () w' ∧ RW V s base w0 ρ (σ.set l (.row e cs' k)) w' := by
  obtain ⟨c, sp, fr, g1, g2, g3, g4, g5⟩ := row_of hw hl hb
  have hfr := plain_frz hk g4
  subst hfr
  obtain ⟨o1, o2⟩ := g2.over hvs ho
  simp only [Array.length_toList] at o2
  have hst := run_storeCells_at P b off e vs 0 (c ++ sp) w g1 (by simp; omega) (allOne_ok hvs h1)
  refine ⟨_, hst, ?_⟩
  have hsz : ∀ x : Array Value, (w.setRow b x).heap.size = w.heap.size := fun x => setRow_size w b x
  have e1 : ((c ++ sp).toList.take (off + 0) ++ vs ++ (c ++ sp).toList.drop (off + 0 + vs.length)).toArray = (c.toList.take off ++ vs ++ c.toList.drop (off + vs.length)).toArray ++ sp := by
    apply Array.ext'
    simp only [Nat.add_zero, Array.toList_append]
    rw [List.take_append_of_le_length (by simp; omega), List.drop_append_of_le_length (by simp; omega)]
    simp
  rw [e1]
  refine hw.upd (bd := .row b K) (b := b) hl rfl rfl hb rfl (hsz _) (fun j hj => setRow_other w b j _ hj) rfl rfl rfl ?_
  refine ⟨b, K, _, sp, (0, 0), rfl, setRow_heap w b _ _ e (0, 0) g1, ?_, g3, ?_, ?_⟩
  · simpa using o1
  · cases k <;> first | rfl | exact .inl rfl
  · intro i hi
    have := g5 i hi
    simp at this ⊢
    omega

theorem storeV_ok (hV : V.Ok P s) {base : Nat} {w0 : World} {ρ : Rho} {σ σ' : St} {w : World} (hw : RW V s base w0 ρ σ w) {t : TypeId} {p v : LV} {x y : Value} (hp : RV s ρ p x) (hv : RV s ρ v y)
    (h : storeV V σ t p v = some σ') : ∃ a w', x = .pointer (some a) ∧ (storeVar t a y).run P w = .ok () w' ∧ RW V s base w0 ρ σ' w' := by
  unfold storeV at h
  split at h
  case h_2 => cases h
  rename_i l off
  split at h
  case h_2 => cases h
  rename_i i e cs k hi hl
  cases hc : (Nat.beq v.cells.length i.size && allOne v.cells && k.plain) with
  | false => rw [hc] at h; cases h
  | true =>
    rw [hc] at h
    simp only [Bool.and_eq_true] at hc
    obtain ⟨⟨c1, c2⟩, c3⟩ := hc
    simp only [cond_true] at h
    split at h
    case h_2 => cases h
    rename_i cs' hcs
    cases h
    obtain ⟨b, K, hb, rfl⟩ := hp
    have hcells := cells_ok hv
    obtain ⟨w', r1, r2⟩ := RW.write (P := P) hw hl c3 hb hcells c2 hcs
    refine ⟨_, w', rfl, ?_, r2⟩
    unfold storeVar
    have hlen : y.cells.size = i.size := by
      have := hcells.length
      simp at this
      rw [this]; exact Nat.eq_of_beq_eq_true c1
    simp [run_sizeOf' hV hi, hlen, r1]

/-- A new row. -/
theorem RW.newRow {base : Nat} {w0 : World} {ρ : Rho} {σ : St} {w : World} (hw : RW V s base w0 ρ σ w) {e : TypeId} {cs : List LV} {k : RK} {c sp : Array Value} (K : Nat)
    (hc : RVs s ρ cs c.toList) (hx : k = .exact → sp = #[]) (hK : ∀ i, V.ty.get e = some i → K * i.size ≤ (c ++ sp).size) :
    RW V s base w0 (ρ ++ [.row w.heap.size K]) (newOb σ (.row e cs k)).2 (w.alloc (.cells (c ++ sp) e)) := by
  refine hw.alloc _ K _ ⟨_, K, c, sp, (0, 0), rfl, ?_, hc, hx, ?_, hK⟩
  · simp [World.alloc, -World.alloc_eq]
  · cases k <;> first | rfl | exact .inl rfl

theorem new_ptr {ρ : Rho} {σ : St} {n K : Nat} (hl : ρ.length = σ.next) (o : Ob) : RV s (ρ ++ [.row n K]) (.ptr (newOb σ o).1 0) (.pointer (some ⟨n, 0, none⟩)) :=
  ⟨n, K, by simp [newOb, ← hl], rfl⟩

theorem new_slice {ρ : Rho} {σ : St} {n K esz len : Nat} (hl : ρ.length = σ.next) (hle : len ≤ K) (o : Ob) : RV s (ρ ++ [.row n K]) (.slice (newOb σ o).1 0 esz len) (.slice (some ⟨n, 0, none⟩) len K) :=
  ⟨n, K, by simp [newOb, ← hl], by omega, by simp⟩

theorem foldl_set (off : Nat) : ∀ (vs : List Value) (k : Nat) (arr : Array Value), off + k + vs.length ≤ arr.size →
    (vs.zipIdx k).foldl (fun cs (x : Value × Nat) => cs.setIfInBounds (off + x.2) x.1) arr = (arr.toList.take (off + k) ++ vs ++ arr.toList.drop (off + k + vs.length)).toArray
  | [], k, arr, _ => by simp
  | v :: r, k, arr, h => by
    simp only [List.length_cons] at h
    rw [List.zipIdx_cons, List.foldl_cons, foldl_set off r (k + 1) _ (by simp; omega)]
    apply Array.ext'
    have := list_seg_step arr.toList (off + k) v r (by simp; omega)
    simpa [Array.toList_setIfInBounds, Nat.add_assoc] using this

/-- Parts laid into cells. -/
theorem fill_ok {ρ : Rho} {placeL : Nat → Option (Nat × Nat)} {place : Nat → Option (Nat × Nat)} (hpl : ∀ k x, placeL k = some x → place k = some x) :
    ∀ {ps : List (Nat × LV)} {qs : List (Nat × Value)} {cells out : List LV} {c : Array Value}, RVs s ρ (ps.map (·.2)) (qs.map (·.2)) → ps.map (·.1) = qs.map (·.1) → RVs s ρ cells c.toList →
      fillL placeL cells ps = some out → ∃ c', Instr.fill place c qs = some c' ∧ RVs s ρ out c'.toList ∧ c'.size = c.size
  | [], qs, cells, out, c, h1, h2, hc, h => by
    cases qs with
    | nil => simp only [fillL, Option.some.injEq] at h; subst h; exact ⟨c, rfl, hc, rfl⟩
    | cons q qs => simp at h2
  | (i, v) :: ps, qs, cells, out, c, h1, h2, hc, h => by
    cases qs with
    | nil => simp at h2
    | cons q qs =>
      obtain ⟨j, u⟩ := q
      simp only [List.map_cons, List.cons.injEq] at h2
      obtain ⟨rfl, h2⟩ := h2
      obtain ⟨x, xs, e1, r1, r2⟩ := h1
      simp only [List.map_cons, List.cons.injEq] at e1
      obtain ⟨rfl, rfl⟩ := e1
      simp only [fillL] at h
      split at h
      · cases h
      · rename_i off size hp
        cases hb : Nat.beq v.cells.length size with
        | false => rw [hb] at h; cases h
        | true =>
          rw [hb] at h; simp only [cond_true] at h
          split at h
          case h_2 => cases h
          rename_i cs' hcs
          have hce := cells_ok r1
          obtain ⟨o1, o2⟩ := hc.over hce hcs
          have hl := hce.length
          simp only [Array.length_toList] at hl o1 o2
          have hsz : v.cells.length = size := Nat.eq_of_beq_eq_true hb
          obtain ⟨c', g1, g2, g3⟩ := fill_ok (c := (c.toList.take off ++ u.cells.toList ++ c.toList.drop (off + u.cells.size)).toArray) hpl r2 h2 (by simpa using o1) h
          refine ⟨c', ?_, g2, by rw [g3]; simp; omega⟩
          simp only [Instr.fill, hpl _ _ hp]
          rw [if_neg (by simp; omega)]
          rw [← g1]
          congr 1
          have := foldl_set off u.cells.toList 0 c (by simpa using o2)
          simp only [Nat.add_zero, Array.length_toList] at this
          rw [← this]
          simp only [← Array.toList_zipIdx, Array.foldl_toList]
end
end Vx

/- Equality, arithmetic and methods of the executor, against the model. -/
set_option linter.unusedVariables false
set_option linter.unusedSimpArgs false
namespace Vx
open Go Go.RowKit

section
variable {V : VP} {P : Program} {s : Atoms}

theorem beqB (a b : ByteArray) : (a == b) = decide (a.data.toList = b.data.toList) := by
  have : (a == b) = (a.data == b.data) := rfl
  rw [this]
  by_cases h : a.data.toList = b.data.toList
  · have := Array.ext' h; simp [this]
  · have h2 : a.data ≠ b.data := fun e => h (by rw [e])
    simpa [h] using h2

theorem kindBeq_ok {a b : IntKind} (h : kindBeq a b = true) : a = b := by cases a <;> cases b <;> first | rfl | cases h

theorem textAt_ok {base : Nat} {w0 : World} {ρ : Rho} {σ : St} {w : World} (hw : RW V s base w0 ρ σ w) {l : Nat} {t t' : Txt} {x : Value} (hl : textAt σ l = some t') (hx : RV s ρ (.bsl l t) x) :
    bytesAt w x (den s t') := by
  obtain ⟨h1, _⟩ := hx
  unfold textAt at hl
  split at hl
  · rename_i t0 ho
    cases hl
    obtain ⟨bd, g1, g2⟩ := hw.ob l _ ho
    rw [h1] at g1; cases g1
    obtain ⟨v, e, h⟩ := g2; cases e; exact h
  · rename_i t0 ho
    cases hl
    obtain ⟨bd, g1, g2⟩ := hw.ob l _ ho
    rw [h1] at g1; cases g1
    obtain ⟨b, cap, cs, e, q1, q2, q3, q4, q5, q6⟩ := g2
    cases e
    exact .inr ⟨b, 0, cap, cs, V.bty, (0, 0), rfl, q1, q3, fun k hk => by rw [Nat.zero_add]; exact q6 k hk⟩
  · cases hl

set_option maxHeartbeats 2000000 in
theorem eqV_ok (hV : V.Ok P s) {base : Nat} {w0 : World} {ρ : Rho} {σ : St} {w : World} (hw : RW V s base w0 ρ σ w) : ∀ (d D : Nat) (t : TypeId) (x y : LV) (a b : Value) (r : Bool), d ≤ D → RV s ρ x a → RV s ρ y b →
    eqV V σ d t x y = some r → (Op.equalIn D t a b).run P w = .ok r w
  | 0, _, _, _, _, _, _, _, _, _, _, h => by simp [eqV] at h
  | d + 1, 0, _, _, _, _, _, _, hd, _, _, _ => by omega
  | d + 1, D + 1, t, x, y, a, b, r, hd, ha, hb, h => by
    simp only [eqV] at h
    split at h
    · cases h
    rename_i i hi
    have hu := run_und' hV hi w
    split at h
    · rename_i heq; simp only [RV] at ha hb; subst ha hb; cases h
      simp [Op.equalIn, hu, heq]
    · rename_i k' k a' k2 b' heq
      simp only [RV] at ha hb; subst ha hb
      cases hk : kindBeq k k2 with
      | false => rw [hk] at h; cases h
      | true =>
        rw [hk] at h; simp only [cond_true, Option.some.injEq] at h
        have := kindBeq_ok hk; subst this; subst h
        simp [Op.equalIn, hu, heq]
    · rename_i k' tx n heq
      simp only [RV] at ha hb; subst ha hb
      cases hn : decide (n = 0) with
      | false => rw [hn] at h; cases h
      | true =>
        rw [hn] at h; simp only [cond_true] at h
        have := of_decide_eq_true hn; subst this
        have he := empty?_ok hV.facts h
        simp only [Op.equalIn, hu, heq, Sem.run_bind, Result.andThen_ok]
        subst he
        cases den s tx <;> simp <;> omega
    · rename_i ta tb heq
      obtain ⟨xa, rfl, hxa⟩ := ha
      obtain ⟨xb, rfl, hxb⟩ := hb
      have he := eq?_ok hV.facts h
      simp only [Op.equalIn, hu, heq, Sem.run_bind, Result.andThen_ok, Sem.run_pure]
      rw [beqB, hxa, hxb, he]
    · rename_i heq; simp only [RV] at ha hb; subst ha hb; cases h
      simp [Op.equalIn, hu, heq]
    · rename_i l o heq; obtain ⟨_, _, _, rfl⟩ := hb; simp only [RV] at ha; subst ha; cases h
      simp [Op.equalIn, hu, heq]
    · rename_i l o heq; obtain ⟨_, _, _, rfl⟩ := ha; simp only [RV] at hb; subst hb; cases h
      simp [Op.equalIn, hu, heq]
    · rename_i e l o l' o' heq
      obtain ⟨b1, K1, h1, rfl⟩ := ha
      obtain ⟨b2, K2, h2, rfl⟩ := hb
      unfold sizeT at h
      split at h
      case h_2 => cases h
      rename_i n hn
      split at hn
      case h_2 => cases hn
      rename_i j hj
      simp only [Option.some.injEq] at hn
      have hsz := run_sizeOf' hV hj w
      have hne : j.size ≠ 0 := by omega
      have hgo : ∀ p q : Addr, (Op.equalIn (D + 1) t (.pointer (some p)) (.pointer (some q))).run P w = (sameAddr p q).run P w := by
        intro p q
        simp [Op.equalIn, hu, heq, hsz, hne]
      rw [hgo]
      cases hl : Nat.beq l l' with
      | true =>
        rw [hl] at h; simp only [cond_true, Option.some.injEq] at h
        have := Nat.eq_of_beq_eq_true hl; subst this
        rw [h1] at h2; cases h2
        by_cases ho : o = o'
        · subst ho
          have : r = true := by rw [← h]; exact Nat.beq_refl o
          subst this
          exact run_sameAddr_same _ _
        · have : r = false := by
            rw [← h]
            cases hb : Nat.beq o o' with
            | true => exact absurd (Nat.eq_of_beq_eq_true hb) ho
            | false => rfl
          subst this
          simp [sameAddr, ho]
      | false =>
        rw [hl] at h; simp only [cond_false] at h
        split at h
        case h_2 => cases h
        rename_i e1 c1 k1 e2 c2 k2 g1 g2
        cases hk : (k1.plain && k2.plain) with
        | false => rw [hk] at h; cases h
        | true =>
          rw [hk] at h; simp only [cond_true, Option.some.injEq] at h; subst h
          simp only [Bool.and_eq_true] at hk
          obtain ⟨q1, sp1, fr1, r1, _, _, f1, _⟩ := row_of hw g1 h1
          obtain ⟨q2, sp2, fr2, r2, _, _, f2, _⟩ := row_of hw g2 h2
          have := plain_frz hk.1 f1; subst this
          have := plain_frz hk.2 f2; subst this
          have hb : b1 ≠ b2 := by
            intro e; subst e
            have := (hw.apart l l' _ _ _ _ b1 (Nat.ne_of_beq_eq_false hl) g1 g2 h1 h2 rfl rfl).1
            cases this
          exact run_sameAddr_other w (by simp [hb]) r1 r2
    · rename_i heq; simp only [RV] at ha hb; subst ha hb; cases h
      simp [Op.equalIn, hu, heq]
    · rename_i heq; obtain ⟨_, rfl, _⟩ := hb; simp only [RV] at ha; subst ha; cases h
      simp [Op.equalIn, hu, heq]
    · rename_i heq; obtain ⟨_, rfl, _⟩ := ha; simp only [RV] at hb; subst hb; cases h
      simp [Op.equalIn, hu, heq]
    · rename_i t1 v1 t2 v2 heq
      obtain ⟨a', rfl, ha⟩ := ha
      obtain ⟨b', rfl, hb⟩ := hb
      cases ht : Nat.beq t1 t2 with
      | false =>
        rw [ht] at h; simp only [cond_false, Option.some.injEq] at h; subst h
        have := Nat.ne_of_beq_eq_false ht
        simp [Op.equalIn, hu, heq, this]
      | true =>
        rw [ht] at h; simp only [cond_true] at h
        have := Nat.eq_of_beq_eq_true ht; subst this
        split at h
        case h_2 => cases h
        rename_i j hj
        cases hc : j.info.comparable with
        | false => rw [hc] at h; cases h
        | true =>
          rw [hc] at h; simp only [cond_true] at h
          have hrec := eqV_ok hV hw d D t1 v1 v2 a' b' r (by omega) ha hb h
          have hti := (info_of hV hj).1
          simp [Op.equalIn, hu, heq, typeInfo, hti, hc, hrec]
    · rename_i heq; simp only [RV] at ha hb; subst ha hb; cases h
      simp [Op.equalIn, hu, heq]
    · rename_i heq; obtain ⟨_, _, _, _, rfl⟩ := hb; simp only [RV] at ha; subst ha; cases h
      simp [Op.equalIn, hu, heq]
    · rename_i heq; obtain ⟨_, _, _, _, rfl⟩ := ha; simp only [RV] at hb; subst hb; cases h
      simp [Op.equalIn, hu, heq]
    · rename_i l tx heq
      split at h
      case h_2 => cases h
      rename_i u hu2
      split at h
      case h_2 => cases h
      rename_i he
      simp only [RV] at hb; subst hb; cases h
      have hne := empty?_ok hV.facts he
      rcases textAt_ok hw hu2 ha with ⟨h0, _⟩ | ⟨b', o, c, cs, e, fr, rfl, _⟩
      · rw [h0] at hne; cases hne
      · simp [Op.equalIn, hu, heq]
    · rename_i heq; simp only [RV] at ha hb; subst ha hb; cases h
      simp [Op.equalIn, hu, heq]
    · rename_i heq; obtain ⟨_, _, _, rfl⟩ := hb; simp only [RV] at ha; subst ha; cases h
      simp [Op.equalIn, hu, heq]
    · rename_i heq; obtain ⟨_, _, _, rfl⟩ := ha; simp only [RV] at hb; subst hb; cases h
      simp [Op.equalIn, hu, heq]
    · rename_i heq; simp only [RV] at ha hb; subst ha hb; cases h
      simp [Op.equalIn, hu, heq]
    · rename_i heq; obtain ⟨_, _, rfl, _⟩ := hb; simp only [RV] at ha; subst ha; cases h
      simp [Op.equalIn, hu, heq]
    · rename_i heq; obtain ⟨_, _, rfl, _⟩ := ha; simp only [RV] at hb; subst hb; cases h
      simp [Op.equalIn, hu, heq]
    · cases h

theorem clo_ok {ρ : Rho} {x : LV} {a b : Value} (h : clo x = some a) (hx : RV s ρ x b) : b = a := by
  cases x <;> simp only [clo] at h <;> first | cases h | skip
  · exact hx
  · exact hx
  · split at h
    · rename_i t c hc
      cases h
      obtain ⟨c', rfl, e⟩ := hx
      rw [den_lit hc] at e
      congr 1
      cases c'; simp only [ByteArray.mk.injEq]; exact Array.ext' (by simpa using e)
    · cases h

theorem pureSem_ok {ρ : Rho} {m : Sem Value} {x : LV} (h : pureSem m = some x) : ∃ v, (∀ w, m.run P w = .ok v w) ∧ RV s ρ x v := by
  unfold pureSem at h
  split at h
  · exact ⟨_, fun w => rfl, ofV_ok h⟩
  · cases h

theorem eqGuard_ok (hV : V.Ok P s) {ρ : Rho} {op : BinOp} {t : TypeId} {xo yo : Operand} {x y : LV} {a b : Value} (ha : RV s ρ x a) (hb : RV s ρ y b) (h : eqOk V t (isConstO xo || isConstO yo) x y = true) (w : World) :
    (eqGuard op t xo yo a b).run P w = .ok () w := by
  have core : (eqGuard .eql t xo yo a b).run P w = .ok () w := by
    unfold eqGuard
    rw [if_neg (by simp)]
    split
    · -- two nil values
      have hx : x = .nili := by
        cases x <;> simp only [RV] at ha <;> first | rfl | (cases ha; done) | (obtain ⟨_, ha, _⟩ := ha; cases ha; done) | (obtain ⟨_, _, ha, _⟩ := ha; cases ha; done) | (obtain ⟨_, _, _, ha⟩ := ha; cases ha; done) | (obtain ⟨_, _, _, _, ha⟩ := ha; cases ha; done) | (obtain ⟨_, _, _, _, ha, _⟩ := ha; cases ha; done)
      have hy : y = .nili := by
        cases y <;> simp only [RV] at hb <;> first | rfl | (cases hb; done) | (obtain ⟨_, hb, _⟩ := hb; cases hb; done) | (obtain ⟨_, _, hb, _⟩ := hb; cases hb; done) | (obtain ⟨_, _, _, hb⟩ := hb; cases hb; done) | (obtain ⟨_, _, _, _, hb⟩ := hb; cases hb; done) | (obtain ⟨_, _, _, _, hb, _⟩ := hb; cases hb; done)
      subst hx hy
      simp only [eqOk] at h
      cases hcst : (isConstO xo || isConstO yo) with
      | true => cases xo <;> cases yo <;> first | rfl | cases hcst
      | false =>
        rw [hcst, Bool.false_or] at h
        have hgo : (Op.eqGuardIn Op.maxDepth t .nilIface .nilIface).run P w = .ok false w := by
          split at h
          case h_2 => cases h
          rename_i i hi
          split at h
          case h_2 => cases h
          rename_i ms hms
          have hu := run_und' hV hi w
          rw [hms] at hu
          have : ms = #[] := by simpa using h
          subst this
          have hd : ∀ d : Nat, (Op.eqGuardIn (d + 1) t .nilIface .nilIface).run P w = .ok false w := fun d => by simp [Op.eqGuardIn, hu]
          exact hd 9999
        cases xo <;> cases yo <;> first | (cases hcst; done) | (simp only [Sem.run_bind, hgo, Result.andThen_ok, Bool.false_eq_true, if_false, Bool.or_self, Sem.run_pure])
    · -- structs
      rename_i c1 c2
      have hx : ∃ cs, x = .agg cs := by
        cases x <;> simp only [RV] at ha <;> first | exact ⟨_, rfl⟩ | (cases ha; done) | (obtain ⟨_, ha, _⟩ := ha; cases ha; done) | (obtain ⟨_, _, ha, _⟩ := ha; cases ha; done) | (obtain ⟨_, _, _, ha⟩ := ha; cases ha; done) | (obtain ⟨_, _, _, _, ha⟩ := ha; cases ha; done) | (obtain ⟨_, _, _, _, ha, _⟩ := ha; cases ha; done)
      obtain ⟨cs, rfl⟩ := hx
      simp only [eqOk] at h
      cases y <;> cases h
    · rfl
  cases op <;> first | rfl | exact core

set_option maxHeartbeats 2000000 in
theorem binL_ok (hV : V.Ok P s) {base : Nat} {w0 : World} {ρ : Rho} {σ : St} {w : World} (hw : RW V s base w0 ρ σ w) {op : BinOp} {t : TypeId} {xo yo : Operand} {x y r : LV} {a b : Value} (ha : RV s ρ x a) (hb : RV s ρ y b)
    (h : binL V σ op t (isConstO xo || isConstO yo) x y = some r) : ∃ v, (do eqGuard op t xo yo a b; binOp op t a b : Sem Value).run P w = .ok v w ∧ RV s ρ r v := by
  have key : ∀ e : Bool, eqV V σ 50 t x y = some e → (binOp .eql t a b).run P w = .ok (.bool e) w ∧ (binOp .neq t a b).run P w = .ok (.bool (!e)) w := by
    intro e he
    have h0 := eqV_ok hV hw 50 10000 t x y a b e (by omega) ha hb he
    have hq : (Op.equal t a b).run P w = .ok e w := h0
    have plain1 : (do pure (Value.bool (← Op.equal t a b)) : Sem Value).run P w = .ok (.bool e) w := by simp [hq]
    have plain2 : (do pure (Value.bool (!(← Op.equal t a b))) : Sem Value).run P w = .ok (.bool (!e)) w := by simp [hq]
    change eqV V σ (49 + 1) t x y = some e at he
    rw [eqV] at he
    split at he
    · cases he
    rename_i i hi
    split at he <;> first | (cases he; done) | skip
    · rename_i heq; simp only [RV] at ha hb; subst ha hb; exact ⟨plain1, plain2⟩
    · rename_i k' k a' k2 b' heq
      simp only [RV] at ha hb; subst ha hb
      cases hk : kindBeq k k2 with
      | false => rw [hk] at he; cases he
      | true =>
        rw [hk] at he; simp only [cond_true, Option.some.injEq] at he
        have := kindBeq_ok hk; subst this; subst he
        simp [binOp, Op.intCmp]
        rfl
    · rename_i k' tx n heq
      simp only [RV] at ha hb; subst ha hb
      have hu := run_und' hV hi w
      have hd : ∀ d : Nat, (Op.equalIn (d + 1) t (.int .i64 (den s tx).length) (.int .i64 n)).run P w = .ok (((den s tx).length : Int) == n) w := fun d => by simp [Op.equalIn, hu, heq]
      have h1 := (hd 9999).symm.trans h0
      simp only [Result.ok.injEq, and_true] at h1
      rw [binOp_eql, binOp_neq, ← h1]
      exact ⟨rfl, rfl⟩
    · rename_i ta tb heq
      obtain ⟨xa, rfl, hxa⟩ := ha
      obtain ⟨xb, rfl, hxb⟩ := hb
      have e1 := eq?_ok hV.facts he
      have e2 : (xa.toList == xb.toList) = e := by
        rw [ByteArray.toList_eq, ByteArray.toList_eq, hxa, hxb, ← e1]
        by_cases q : den s ta = den s tb <;> simp [q]
      rw [binOp_string_eql, binOp_string_neq, e2]
      exact ⟨rfl, rfl⟩
    · simp only [RV] at ha hb; subst ha hb; exact ⟨plain1, plain2⟩
    · obtain ⟨_, _, _, rfl⟩ := hb; simp only [RV] at ha; subst ha; exact ⟨plain1, plain2⟩
    · obtain ⟨_, _, _, rfl⟩ := ha; simp only [RV] at hb; subst hb; exact ⟨plain1, plain2⟩
    · obtain ⟨_, _, _, rfl⟩ := ha; obtain ⟨_, _, _, rfl⟩ := hb; exact ⟨plain1, plain2⟩
    · simp only [RV] at ha hb; subst ha hb; exact ⟨plain1, plain2⟩
    · obtain ⟨_, rfl, _⟩ := hb; simp only [RV] at ha; subst ha; exact ⟨plain1, plain2⟩
    · obtain ⟨_, rfl, _⟩ := ha; simp only [RV] at hb; subst hb; exact ⟨plain1, plain2⟩
    · obtain ⟨_, rfl, _⟩ := ha; obtain ⟨_, rfl, _⟩ := hb; exact ⟨plain1, plain2⟩
    · simp only [RV] at ha hb; subst ha hb; exact ⟨plain1, plain2⟩
    · obtain ⟨_, _, _, _, rfl⟩ := hb; simp only [RV] at ha; subst ha; exact ⟨plain1, plain2⟩
    · obtain ⟨_, _, _, _, rfl⟩ := ha; simp only [RV] at hb; subst hb; exact ⟨plain1, plain2⟩
    · obtain ⟨_, _, _, _, rfl, _⟩ := ha; simp only [RV] at hb; subst hb; exact ⟨plain1, plain2⟩
    · simp only [RV] at ha hb; subst ha hb; exact ⟨plain1, plain2⟩
    · obtain ⟨_, _, _, rfl⟩ := hb; simp only [RV] at ha; subst ha; exact ⟨plain1, plain2⟩
    · obtain ⟨_, _, _, rfl⟩ := ha; simp only [RV] at hb; subst hb; exact ⟨plain1, plain2⟩
    · simp only [RV] at ha hb; subst ha hb; exact ⟨plain1, plain2⟩
    · obtain ⟨_, _, rfl, _⟩ := hb; simp only [RV] at ha; subst ha; exact ⟨plain1, plain2⟩
    · obtain ⟨_, _, rfl, _⟩ := ha; simp only [RV] at hb; subst hb; exact ⟨plain1, plain2⟩
  have noguard : op ≠ .eql → op ≠ .neq → eqGuard op t xo yo a b = pure () := by
    intro h1 h2
    unfold eqGuard
    cases op <;> first | rfl | exact absurd rfl h1 | exact absurd rfl h2
  have closed : ∀ a' b' : Value, clo x = some a' → clo y = some b' → pureSem (binOp op t a' b') = some r → ∃ v, (binOp op t a b).run P w = .ok v w ∧ RV s ρ r v := by
    intro a' b' h1 h2 h3
    rw [clo_ok h1 ha, clo_ok h2 hb]
    obtain ⟨v, g1, g2⟩ := pureSem_ok (P := P) (ρ := ρ) h3
    exact ⟨v, g1 w, g2⟩
  unfold binL at h
  split at h
  · cases hg : eqOk V t (isConstO xo || isConstO yo) x y with
    | false => rw [hg] at h; cases h
    | true =>
      rw [hg] at h; simp only [cond_true] at h
      split at h
      case h_2 => cases h
      rename_i e he
      cases h
      exact ⟨_, by rw [Sem.run_bind, eqGuard_ok hV ha hb hg w]; exact (key e he).1, rfl⟩
  · cases hg : eqOk V t (isConstO xo || isConstO yo) x y with
    | false => rw [hg] at h; cases h
    | true =>
      rw [hg] at h; simp only [cond_true] at h
      split at h
      case h_2 => cases h
      rename_i e he
      cases h
      exact ⟨_, by rw [Sem.run_bind, eqGuard_ok hV ha hb hg w]; exact (key e he).2, rfl⟩
  · rename_i n1 n2
    rw [noguard n1 n2, Sem.run_bind, Sem.run_pure, Result.andThen_ok]
    split at h
    · rename_i ta tb
      obtain ⟨xa, rfl, hxa⟩ := ha
      obtain ⟨xb, rfl, hxb⟩ := hb
      cases hle : Nat.ble (Txt.bnd V.facts ta + Txt.bnd V.facts tb) 9223372036854775807 with
      | false => rw [hle] at h; cases h
      | true =>
        rw [hle] at h; simp only [cond_true, Option.some.injEq] at h; subst h
        have hle := Nat.le_of_ble_eq_true hle
        have l1 := bnd_ok hV.facts ta
        have l2 := bnd_ok hV.facts tb
        have s1 : xa.size = (den s ta).length := by rw [← hxa]; rfl
        have s2 : xb.size = (den s tb).length := by rw [← hxb]; rfl
        refine ⟨.string (xa ++ xb), ?_, xa ++ xb, rfl, ?_⟩
        · rw [binOp_string_add]; exact run_string_add_sum w xa xb (by omega)
        · rw [den_cat, ← hxa, ← hxb]; simp
    · rename_i tx n
      simp only [RV] at ha hb; subst ha hb
      have l1 := bnd_ok hV.facts tx
      cases hle : decide (((Txt.bnd V.facts tx : Nat) : Int) ≤ n) with
      | true =>
        rw [hle] at h; simp only [cond_true, Option.some.injEq] at h; subst h
        have := of_decide_eq_true hle
        refine ⟨_, by rw [binOp_gtr]; rfl, ?_⟩
        simp only [RV, Value.bool.injEq]
        simp; omega
      | false =>
        rw [hle] at h; simp only [cond_false] at h
        cases hn : decide (n = 0) with
        | false => rw [hn] at h; cases h
        | true =>
          rw [hn] at h; simp only [cond_true] at h
          have := of_decide_eq_true hn; subst this
          split at h
          case h_2 => cases h
          rename_i e he
          cases h
          have he := empty?_ok hV.facts he
          refine ⟨_, by rw [binOp_gtr]; rfl, ?_⟩
          simp only [RV, Value.bool.injEq]
          subst he
          cases den s tx <;> simp <;> omega
    · rename_i n tx
      simp only [RV] at ha hb; subst ha hb
      cases hn : decide (n = 0) with
      | false => rw [hn] at h; cases h
      | true =>
        rw [hn] at h; simp only [cond_true] at h
        have := of_decide_eq_true hn; subst this
        split at h
        case h_2 => cases h
        rename_i e he
        cases h
        have he := empty?_ok hV.facts he
        refine ⟨_, by rw [binOp_lss]; rfl, ?_⟩
        simp only [RV, Value.bool.injEq]
        subst he
        cases den s tx <;> simp <;> omega
    · split at h
      case h_2 => cases h
      rename_i a' b' h1 h2
      exact closed a' b' h1 h2 h
end
end Vx
