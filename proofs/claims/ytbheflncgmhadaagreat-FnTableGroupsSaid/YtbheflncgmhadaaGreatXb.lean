/- A symbolic executor for the model. Conditions: those in each statement. -/
import Derived.Defers
import Derived.Below
import Derived.Laws.CopyRow
import Derived.Laws.AppendOwn
import Derived.Laws.Entries
import Derived.LaidEql
import Derived.Laws.Strings
import Derived.Laws.Concat
import Derived.Carry
import Derived.Lib.ConvBytes
import Derived.Laws.BytesString
import Derived.Laws.Strings2
import Derived.Lib.Strings
import Derived.Deep.Upon
import Derived.MapKept
set_option linter.unusedVariables false
set_option linter.unusedSimpArgs false
set_option maxHeartbeats 40000000
set_option maxRecDepth 100000
namespace Vx
open Go
inductive Tr (α:Type) where
 |nil
 |node (l:Tr α) (v:Option α) (r:Tr α)
namespace Tr
variable {α:Type}
def get:Tr α→Nat→Option α
 |.nil,_=>none
 |.node l v r,n=>match n with
  |0=>v
  |n+1=>cond (Nat.beq (n % 2) 0) (l.get (n / 2)) (r.get (n / 2))
def lft:Tr α→Tr α|.nil=>.nil|.node l _ _=>l
def mid:Tr α→Option α|.nil=>none|.node _ v _=>v
def rgt:Tr α→Tr α|.nil=>.nil|.node _ _ r=>r
def setF:Nat→Tr α→Nat→Option α→Tr α
 |0,t,_,_=>t
 |f+1,t,n,a=>match n with
  |0=>.node t.lft a t.rgt
  |n+1=>cond (Nat.beq (n % 2) 0) (.node (setF f t.lft (n / 2) a) t.mid t.rgt) (.node t.lft t.mid (setF f t.rgt (n / 2) a))
def put (t:Tr α) (n:Nat) (a:α):Tr α:=setF (n+1) t n (some a)
def del (t:Tr α) (n:Nat):Tr α:=setF (n+1) t n none
def full (f:Nat→Option α):Nat→Nat→Nat→Tr α
 |0,_,_=>.nil
 |d+1,a,b=>.node (full f d (2 * a) (a+b)) (f b) (full f d (2 * a) (2 * a+b))
end Tr
inductive Pc where
 |lit (b:List UInt8)
 |atom (i:Nat)
abbrev Txt:=List Pc
def beqBytes:List UInt8→List UInt8→Bool
 |[],[]=>true
 |a::x,b::y=>Nat.beq a.toNat b.toNat&&beqBytes x y
 |_,_=>false
def Pc.beq:Pc→Pc→Bool
 |.lit a,.lit b=>beqBytes a b
 |.atom i,.atom j=>Nat.beq i j
 |_,_=>false
def Txt.beq:Txt→Txt→Bool
 |[],[]=>true
 |a::x,b::y=>a.beq b&&Txt.beq x y
 |_,_=>false
def Txt.cat:Txt→Txt→Txt
 |[],y=>y
 |p::x,y=>
  match x,p,y with
  |[],.lit a,.lit b::y=>.lit (a++b)::y
  |[],p,y=>p::y
  |x,p,y=>p::Txt.cat x y
def Txt.ofBytes (b:List UInt8):Txt:=match b with|[]=>[]|c::r=>[.lit (c::r)]
def Txt.lit?:Txt→Option (List UInt8)
 |[]=>some []
 |.lit b::[]=>some b
 |_=>none
inductive LV where
 |bool (b:Bool)
 |int (k:IntKind) (n:Int)
 |str (t:Txt)
 |len (t:Txt)
 |nilp
 |ptr (l off:Nat)
 |gptr (g off:Nat)
 |nils
 |slice (l i esz len:Nat)
 |bsl (l:Nat) (t:Txt)
 |nilm
 |map (l:Nat)
 |func (fn:Fn) (first captured:List LV)
 |nilf
 |iface (t:TypeId) (v:LV)
 |nili
 |agg (cs:List LV)
 |tuple (vs:List LV)
 deriving Inhabited
def LV.cells:LV→List LV
 |.agg cs=>cs
 |v=>[v]
def LV.one:LV→Bool
 |.agg _|.tuple _=>false
 |_=>true
inductive RK where
 |exact|spare|marked
def RK.plain:RK→Bool
 |.marked=>false
 |_=>true
inductive Ob where
 |row (e:TypeId) (cs:List LV) (k:RK)
 |map (es:List (LV×LV))
 |view (t:Txt)
 |bytes (t:Txt)
structure St where
 heap:Tr Ob
 next:Nat
structure Dfr where
 fn:Fn
 captured:List LV
 args:List LV
structure LAct where
 n:Nat
 tmps:Tr LV
 defers:List Dfr
def undef:LV:=.tuple []
def LAct.get (a:LAct) (t:Nat):LV:=match a.tmps.get t with|some v=>v|none=>undef
def LAct.put (a:LAct) (d:Nat) (v:LV):Option LAct:=cond (Nat.blt d a.n) (some { n:=a.n,tmps:=a.tmps.put d v,defers:=a.defers }) none
mutual
def ofV:Value→Option LV
 |.bool b=>some (.bool b)
 |.int k n=>some (.int k n)
 |.string s=>some (.str (Txt.ofBytes s.data.toList))
 |.pointer none=>some .nilp
 |.slice none 0 0=>some .nils
 |.map none=>some .nilm
 |.nilFunc=>some .nilf
 |.nilIface=>some .nili
 |.func fn first captured=>
  match ofVs first.toList,ofVs captured.toList with
  |some a,some b=>some (.func fn a b)
  |_,_=>none
 |.iface t v=>match ofV v with
  |some v=>some (.iface t v)
  |none=>none
 |.agg cs=>match ofVs cs.toList with
  |some cs=>some (.agg cs)
  |none=>none
 |.tuple vs=>match ofVs vs.toList with
  |some vs=>some (.tuple vs)
  |none=>none
 |_=>none
def ofVs:List Value→Option (List LV)
 |[]=>some []
 |v::r=>match ofV v,ofVs r with
  |some a,some b=>some (a::b)
  |_,_=>none
end
def evalO (a:LAct):Operand→Option LV
 |.tmp t=>some (a.get t)
 |.const v=>ofV v
 |.global g=>some (.gptr g 0)
 |.func f=>some (.func (.func f) [] [])
def evals (a:LAct):List Operand→Option (List LV)
 |[]=>some []
 |o::r=>match evalO a o,evals a r with
  |some v,some vs=>some (v::vs)
  |_,_=>none
def isAggD:TypeDesc→Bool
 |.struct _|.array _ _=>true
 |_=>false
structure TI where
 info:TypeInfo
 und:TypeDesc
 zv:LV
def TI.size (i:TI):Nat:=i.info.size
def TI.bytes (i:TI):Nat:=i.info.bytes
def TI.zero (i:TI):List LV:=i.zv.cells
def tyOf (P:Program) (t:Nat):Option TI:=
 match P.types[t]? with
 |none=>none
 |some i=>
  match (match i.desc with|.named _ u=>P.types[u]?|_=>some i),i.zero with
  |some u,some z=>match ofV z with
   |some z=>some ⟨i,u.desc,z⟩
   |none=>none
  |_,_=>none
structure Facts where
 nonempty:List Nat
 amax:Nat
 differ:List (Txt×Txt)
structure VP where
 ty:Tr TI
 fn:Tr Func
 facts:Facts
 sums:FuncId→List LV→St→Option (LV×St)
 exts:FuncId→List LV→St→Option (LV×St)
 guard:FuncId
 gty:TypeId
 bty:TypeId
def memNat (n:Nat):List Nat→Bool
 |[]=>false
 |a::l=>Nat.beq n a||memNat n l
def Txt.empty? (F:Facts):Txt→Option Bool
 |[]=>some true
 |.lit (_::_)::_=>some false
 |.lit []::r=>Txt.empty? F r
 |.atom i::r=>cond (memNat i F.nonempty) (some false) (match Txt.empty? F r with|some false=>some false|_=>none)
def memPair (a b:Txt):List (Txt×Txt)→Bool
 |[]=>false
 |(x,y)::r=>(x.beq a&&y.beq b)||(x.beq b&&y.beq a)||memPair a b r
def Txt.eq? (F:Facts) (a b:Txt):Option Bool:=
 cond (a.beq b) (some true)
  (match a.lit?,b.lit? with
  |some x,some y=>some (beqBytes x y)
  |_,_=>
   match a,b with
   |[],b=>Txt.empty? F b
   |a,[]=>Txt.empty? F a
   |a,b=>cond (memPair a b F.differ) (some false) none)
def Txt.bnd (F:Facts):Txt→Nat
 |[]=>0
 |.lit b::r=>b.length+Txt.bnd F r
 |.atom _::r=>F.amax+Txt.bnd F r
def newOb (σ:St) (o:Ob):Nat×St:=(σ.next,{ heap:=σ.heap.put σ.next o,next:=σ.next+1 })
def St.set (σ:St) (l:Nat) (o:Ob):St:={ heap:=σ.heap.put l o,next:=σ.next }
def St.del (σ:St) (l:Nat):St:={ heap:=σ.heap.del l,next:=σ.next }
def takeN:Nat→List LV→Option (List LV)
 |0,_=>some []
 |n+1,v::r=>match takeN n r with
  |some l=>some (v::l)
  |none=>none
 |_+1,[]=>none
def dropN:Nat→List LV→List LV
 |0,l=>l
 |_+1,[]=>[]
 |n+1,_::r=>dropN n r
def sub (l:List LV) (off n:Nat):Option (List LV):=takeN n (dropN off l)
def over:List LV→Nat→List LV→Option (List LV)
 |l,0,[]=>some l
 |a::r,n+1,vs=>match over r n vs with
  |some r=>some (a::r)
  |none=>none
 |_::r,0,v::vs=>match over r 0 vs with
  |some r=>some (v::r)
  |none=>none
 |[],0,_::_=>none
 |[],_+1,_=>none
def mkVar (d:TypeDesc) (cs:List LV):Option LV:=
 cond (isAggD d) (some (.agg cs)) (match cs with|v::[]=>some v|_=>none)
def loadV (V:VP) (σ:St) (t:TypeId) (p:LV):Option LV:=
 match p with
 |.ptr l off=>
  match V.ty.get t,σ.heap.get l with
  |some i,some (.row _ cs _)=>match sub cs off i.size with
   |some c=>mkVar i.und c
   |none=>none
  |_,_=>none
 |_=>none
def allOne:List LV→Bool
 |[]=>true
 |v::r=>v.one&&allOne r
def storeV (V:VP) (σ:St) (t:TypeId) (p v:LV):Option St:=
 match p with
 |.ptr l off=>
  match V.ty.get t,σ.heap.get l with
  |some i,some (.row e cs k)=>
   cond (Nat.beq v.cells.length i.size&&allOne v.cells&&k.plain)
    (match over cs off v.cells with
    |some cs=>some (σ.set l (.row e cs k))
    |none=>none) none
  |_,_=>none
 |_=>none
def fieldOf (V:VP) (t:TypeId) (f:Nat):Option Field:=
 match V.ty.get t with
 |some i=>match i.und with
  |.struct fs=>fs[f]?
  |_=>none
 |none=>none
def sizeT (V:VP) (t:TypeId):Option Nat:=match V.ty.get t with|some i=>some i.size|none=>none
def kindBeq (a b:IntKind):Bool:=
 match a,b with
 |.i8,.i8|.i16,.i16|.i32,.i32|.i64,.i64|.u8,.u8|.u16,.u16|.u32,.u32|.u64,.u64=>true
 |_,_=>false
def clo:LV→Option Value
 |.bool b=>some (.bool b)
 |.int k n=>some (.int k n)
 |.str t=>match t.lit? with
  |some b=>some (.string ⟨b.toArray⟩)
  |none=>none
 |_=>none
def pureSem:Sem Value→Option LV
 |.pure v=>ofV v
 |_=>none
def textAt (σ:St) (l:Nat):Option Txt:=
 match σ.heap.get l with
 |some (.view t)=>some t
 |some (.bytes t)=>some t
 |_=>none
def eqV (V:VP) (σ:St):Nat→TypeId→LV→LV→Option Bool
 |0,_,_,_=>none
 |d+1,t,x,y=>
  match V.ty.get t with
  |none=>none
  |some i=>
   match i.und,x,y with
   |.bool,.bool a,.bool b=>some (a==b)
   |.int _,.int k a,.int k' b=>cond (kindBeq k k') (some (a==b)) none
   |.int _,.len t,.int .i64 n=>cond (decide (n=0)) (Txt.empty? V.facts t) none
   |.string,.str a,.str b=>Txt.eq? V.facts a b
   |.pointer _,.nilp,.nilp=>some true
   |.pointer _,.nilp,.ptr _ _=>some false
   |.pointer _,.ptr _ _,.nilp=>some false
   |.pointer e,.ptr l o,.ptr l' o'=>
    match sizeT V e with
    |some (_+1)=>cond (Nat.beq l l') (some (Nat.beq o o')) (match σ.heap.get l,σ.heap.get l' with
     |some (.row _ _ k),some (.row _ _ k')=>cond (k.plain&&k'.plain) (some false) none
     |_,_=>none)
    |_=>none
   |.interface _,.nili,.nili=>some true
   |.interface _,.nili,.iface _ _=>some false
   |.interface _,.iface _ _,.nili=>some false
   |.interface _,.iface t v,.iface u w=>
    cond (Nat.beq t u)
     (match V.ty.get t with
     |some j=>cond j.info.comparable (eqV V σ d t v w) none
     |none=>none) (some false)
   |.slice _,.nils,.nils=>some true
   |.slice _,.nils,.slice _ _ _ _=>some false
   |.slice _,.slice _ _ _ _,.nils=>some false
   |.slice _,.bsl l _,.nils=>match textAt σ l with
    |some u=>match Txt.empty? V.facts u with
     |some false=>some false
     |_=>none
    |none=>none
   |.map _ _,.nilm,.nilm=>some true
   |.map _ _,.nilm,.map _=>some false
   |.map _ _,.map _,.nilm=>some false
   |.func _ _ _,.nilf,.nilf=>some true
   |.func _ _ _,.nilf,.func _ _ _=>some false
   |.func _ _ _,.func _ _ _,.nilf=>some false
   |_,_,_=>none
def isConstO:Operand→Bool
 |.const _=>true
 |_=>false
def eqOk (V:VP) (t:TypeId) (c:Bool) (x y:LV):Bool:=
 match x,y with
 |.nili,.nili=>c||(match V.ty.get t with|some i=>(match i.und with|.interface ms=>ms.isEmpty|_=>false)|none=>false)
 |.agg _,_=>false
 |_,.agg _=>false
 |_,_=>true
def binL (V:VP) (σ:St) (op:BinOp) (t:TypeId) (c:Bool) (x y:LV):Option LV:=
 match op with
 |.eql=>cond (eqOk V t c x y) (match eqV V σ 50 t x y with|some b=>some (.bool b)|none=>none) none
 |.neq=>cond (eqOk V t c x y) (match eqV V σ 50 t x y with|some b=>some (.bool (!b))|none=>none) none
 |op=>
  match op,x,y with
  |.add,.str a,.str b=>cond (Nat.ble (Txt.bnd V.facts a+Txt.bnd V.facts b) 9223372036854775807) (some (.str (a.cat b))) none
  |.gtr,.len t,.int .i64 n=>cond (decide (((Txt.bnd V.facts t:Nat):Int)≤n)) (some (.bool false))
    (cond (decide (n=0)) (match Txt.empty? V.facts t with|some b=>some (.bool (!b))|none=>none) none)
  |.lss,.int .i64 n,.len t=>cond (decide (n=0)) (match Txt.empty? V.facts t with|some b=>some (.bool (!b))|none=>none) none
  |op,x,y=>match clo x,clo y with
   |some a,some b=>pureSem (binOp op t a b)
   |_,_=>none
def findM (name:String):List Method→Option Method
 |[]=>none
 |m::r=>cond (m.name==name) (some m) (findM name r)
inductive Pl where
 |val (v:LV)
 |var (p:LV)
def Pl.get (V:VP) (σ:St) (t:TypeId):Pl→Option LV
 |.val v=>some v
 |.var p=>loadV V σ t p
def fieldP (V:VP) (p:LV) (f:Field):Option LV:=
 match p with
 |.ptr l off=>match sizeT V f.type with
  |some (_+1)=>some (.ptr l (off+f.offset))
  |_=>none
 |_=>none
def partL (V:VP) (t:TypeId) (cs:List LV) (off:Nat):Option LV:=
 match V.ty.get t with
 |some i=>match sub cs off i.size with
  |some c=>mkVar i.und c
  |none=>none
 |none=>none
def followL (V:VP) (σ:St):List FieldStep→TypeId→Pl→Option (TypeId×Pl)
 |[],t,x=>some (t,x)
 |s::rest,t,x=>
  match fieldOf V s.struct s.index with
  |none=>none
  |some f=>
   match s.deref with
   |true=>match x.get V σ t with
    |some p=>match fieldP V p f with
     |some q=>followL V σ rest f.type (.var q)
     |none=>none
    |none=>none
   |false=>match x with
    |.var p=>match fieldP V p f with
     |some q=>followL V σ rest f.type (.var q)
     |none=>none
    |.val (.agg cs)=>match partL V f.type cs f.offset with
     |some v=>followL V σ rest f.type (.val v)
     |none=>none
    |.val _=>none
def recvAt (V:VP) (σ:St) (xt:TypeId) (x:Pl) (ptrRecv:Bool):Option LV:=
 match V.ty.get xt with
 |none=>none
 |some i=>
  match i.und,ptrRecv,x with
  |.pointer _,true,x=>x.get V σ xt
  |.pointer elem,false,x=>match x.get V σ xt with
   |some (.ptr l off)=>loadV V σ elem (.ptr l off)
   |_=>none
  |_,true,.var p=>match p with|.ptr l off=>some (.ptr l off)|_=>none
  |_,true,.val _=>none
  |_,false,x=>x.get V σ xt
def methodL (V:VP) (σ:St):Nat→TypeId→LV→String→Option (FuncId×LV)
 |0,_,_,_=>none
 |d+1,t,v,name=>
  match V.ty.get t with
  |none=>none
  |some i=>
   match findM name i.info.methods.toList with
   |none=>none
   |some m=>
    match followL V σ m.path.toList t (.val v) with
    |none=>none
    |some (xt,x)=>
     match m.func with
     |none=>match x.get V σ xt with
      |some (.iface t' v')=>methodL V σ d t' v' name
      |_=>none
     |some (f,p)=>match recvAt V σ xt x p with
      |some r=>some (f,r)
      |none=>none
inductive ORes where
 |val (v:LV) (σ:St)
 |skip (σ:St)
 |enter (f:FuncId) (args:List LV) (σ:St)
 |defer (d:Dfr) (σ:St)
def enterL (V:VP) (σ:St) (f:FuncId) (args:List LV):Option ORes:=
 match V.fn.get f with
 |some fn=>match fn.body with
  |some _=>some (.enter f args σ)
  |none=>match V.exts f args σ with
   |some (v,σ)=>some (.val v σ)
   |none=>none
 |none=>none
def invokeL (V:VP) (σ:St) (fn:Fn) (captured args:List LV):Option ORes:=
 match fn with
 |.func f=>enterL V σ f (args++captured)
 |.method name=>
  match args with
  |.iface t v::rest=>match methodL V σ 60 t v name with
   |some (f,r)=>enterL V σ f (r::rest)
   |none=>none
  |_=>none
 |.methodOf _ _=>none
 |.via t path f pointer=>
  match args with
  |x::rest=>match followL V σ path.toList t (.val x) with
   |some (xt,y)=>match recvAt V σ xt y pointer with
    |some r=>enterL V σ f (r::rest)
    |none=>none
   |none=>none
  |_=>none
 |.yield _=>none
def zipCells:List (Nat×Operand)→List LV→List (Nat×LV)
 |(i,_)::r,v::vs=>(i,v)::zipCells r vs
 |_,_=>[]
def fillL (place:Nat→Option (Nat×Nat)) (cells:List LV):List (Nat×LV)→Option (List LV)
 |[]=>some cells
 |(i,v)::rest=>
  match place i with
  |none=>none
  |some (off,size)=>cond (Nat.beq v.cells.length size)
   (match over cells off v.cells with
   |some cs=>fillL place cs rest
   |none=>none) none
def placesL (V:VP):List Field→Option (List (Nat×Nat))
 |[]=>some []
 |f::r=>match sizeT V f.type,placesL V r with
  |some n,some l=>some ((f.offset,n)::l)
  |_,_=>none
def repeatL (z:List LV):Nat→List LV
 |0=>[]
 |n+1=>z++repeatL z n
def keyEq (V:VP) (d:TypeDesc) (x y:LV):Option Bool:=
 match d,x,y with
 |.string,.str a,.str b=>Txt.eq? V.facts a b
 |.int _,.int k a,.int k' b=>cond (kindBeq k k') (some (a==b)) none
 |_,_,_=>none
def findE (V:VP) (d:TypeDesc) (k:LV):List (LV×LV)→Option (Option LV)
 |[]=>some none
 |(k',v)::r=>match keyEq V d k k' with
  |some true=>some (some v)
  |some false=>findE V d k r
  |none=>none
def setE (V:VP) (d:TypeDesc) (k v:LV):List (LV×LV)→Option (List (LV×LV))
 |[]=>some [(k,v)]
 |(k',v')::r=>match keyEq V d k k' with
  |some true=>some ((k,v)::r)
  |some false=>match setE V d k v r with
   |some r=>some ((k',v')::r)
   |none=>none
  |none=>none
def mapRead (V:VP) (σ:St) (d:TypeDesc) (x k:LV):Option (Option LV):=
 match x with
 |.nilm=>some none
 |.map l=>match σ.heap.get l with
  |some (.map es)=>findE V d k es
  |_=>none
 |_=>none
def keyOk:TypeDesc→LV→Bool
 |.string,.str _=>true
 |.int _,.int _ _=>true
 |_,_=>false
def natOf:LV→Option Nat
 |.int .i64 (.ofNat n)=>some n
 |_=>none
def cellsOf (σ:St) (size:Nat):LV→Option (List LV)
 |.nils=>some []
 |.slice l i esz len=>cond (Nat.beq esz size) (match σ.heap.get l with
  |some (.row _ cs _)=>sub cs (i * esz) (len * esz)
  |_=>none) none
 |_=>none
def lenL:LV→Nat
 |.slice _ _ _ n=>n
 |_=>0
def litCells:List UInt8→List LV
 |[]=>[]
 |c::r=>.int .u8 c.toNat::litCells r
def srcL (V:VP) (σ:St) (i:TI) (xt:TypeId) (x:LV):Option (List LV×Nat):=
 match V.ty.get xt with
 |some j=>match j.und,x with
  |.slice _,x=>match cellsOf σ i.size x with
   |some c=>some (c,lenL x)
   |none=>none
  |.string,.str t=>match i.und,t.lit? with
   |.int .u8,some b=>cond (Nat.beq i.size 1) (some (litCells b,b.length)) none
   |_,_=>none
  |_,_=>none
 |none=>none
def appendL (V:VP) (σ:St) (elem xt:TypeId) (s x:LV):Option (LV×St):=
 match V.ty.get elem with
 |none=>none
 |some i=>
  match srcL V σ i xt x with
  |none=>none
  |some (_,0)=>match s with
   |.nils=>some (.nils,σ)
   |.slice l k e n=>some (.slice l k e n,σ)
   |_=>none
  |some (new,m+1)=>
   cond (Nat.ble ((lenL s+(m+1)) * (i.bytes+1)) 1073741824&&allOne new&&Nat.blt 0 i.size&&Nat.beq i.zero.length i.size)
   (match s with
   |.nils=>match newOb σ (.row elem new .spare) with
    |(l,σ)=>some (.slice l 0 i.size (m+1),σ)
   |.slice l k esz len=>
    match σ.heap.get l with
    |some (.row e cs kind)=>
     cond (Nat.beq ((k+len) * esz) cs.length&&Nat.beq esz i.size&&Nat.beq e elem)
      (match sub cs (k * esz) (len * esz) with
      |none=>none
      |some old=>
       match kind with
       |.exact=>match newOb σ (.row elem (old++new) .spare) with
        |(l,σ)=>some (.slice l 0 esz (len+(m+1)),σ)
       |.spare=>cond (Nat.beq k 0)
        (match newOb (σ.del l) (.row elem (old++new) .spare) with
        |(l,σ)=>some (.slice l 0 esz (len+(m+1)),σ)) none
       |.marked=>cond (Nat.beq k 0)
        (match newOb (σ.del l) (.row elem (old++new) .marked) with
        |(l,σ)=>some (.slice l 0 esz (len+(m+1)),σ)) none) none
    |_=>none
   |_=>none) none
def txtLen (t:Txt):LV:=match t.lit? with
 |some b=>.int .i64 b.length
 |none=>.len t
def builtinL (V:VP) (σ:St) (b:Builtin) (ats:List TypeId) (args:List LV):Option (LV×St):=
 match b,ats,args with
 |.len,t::_,x::[]=>match V.ty.get t with
  |none=>none
  |some i=>match i.und,x with
   |.string,.str t=>some (txtLen t,σ)
   |.slice _,.nils=>some (.int .i64 0,σ)
   |.slice _,.slice _ _ _ n=>some (.int .i64 n,σ)
   |.slice _,.bsl _ t=>some (txtLen t,σ)
   |.map _ _,.nilm=>some (.int .i64 0,σ)
   |.map _ _,.map l=>match σ.heap.get l with
    |some (.map es)=>some (.int .i64 es.length,σ)
    |_=>none
   |_,_=>none
 |.append,st::xt::[],s::x::[]=>match V.ty.get st with
  |some i=>match i.und with
   |.slice elem=>appendL V σ elem xt s x
   |_=>none
  |none=>none
 |.copy,t::_::[],d::s::[]=>match V.ty.get t with
  |some i=>
        match i.und with
   |.slice e=>match V.ty.get e with
    |none=>none
    |some j=>
     match d with
     |.nils=>match s with
      |.nils=>some (.int .i64 0,σ)
      |.slice _ _ _ _=>some (.int .i64 0,σ)
      |_=>none
     |.slice ld id esz n=>
      match s with
      |.nils=>some (.int .i64 0,σ)
      |.slice ls is esz' m=>
       match σ.heap.get ld,σ.heap.get ls with
       |some (.row e cd k),some (.row _ cs _)=>
        cond (Nat.beq esz j.size&&Nat.beq esz' j.size&&k.plain)
        (match sub cs (is * esz) (Nat.min m n * esz) with
        |some c=>cond (allOne c) (match over cd (id * esz) c with
         |some cd=>some (.int .i64 (Nat.min m n:Nat),σ.set ld (.row e cd k))
         |none=>none) none
        |none=>none) none
       |_,_=>none
      |_=>none
     |_=>none
   |_=>none
  |none=>none
 |.clear,t::[],x::[]=>match V.ty.get t with
  |some i=>match i.und with
   |.slice e=>match V.ty.get e with
    |none=>none
    |some j=>
     match x with
     |.slice l k esz (n+1)=>match σ.heap.get l with
      |some (.row et cs kk)=>cond (kk.plain&&j.zv.one&&Nat.beq esz 1)
       (match over cs k (repeatL [j.zv] (n+1)) with
       |some cs=>some (.tuple [],σ.set l (.row et cs kk))
       |none=>none) none
      |_=>none
     |_=>none
   |_=>none
  |none=>none
 |_,_,_=>none
def optNat (d:Nat):Option LV→Option Nat
 |none=>some d
 |some v=>natOf v
def sliceL (V:VP) (t:TypeId) (x:LV) (lo hi:Option LV):Option LV:=
 match V.ty.get t with
 |none=>none
 |some i=>
 match i.und,x with
 |.slice e,.slice l i esz len=>
  match optNat 0 lo,optNat len hi,sizeT V e with
  |some a,some b,some s=>cond (Nat.ble a b&&Nat.ble b len&&(Nat.blt a len||Nat.beq a 0)&&Nat.beq s esz) (some (.slice l (i+a) esz (b - a))) none
  |_,_,_=>none
 |.slice e,.nils=>
  match optNat 0 lo,optNat 0 hi,sizeT V e with
  |some 0,some 0,some _=>some .nils
  |_,_,_=>none
 |.slice e,.bsl l t=>match optNat 0 lo,hi,sizeT V e with
  |some 0,none,some _=>some (.bsl l t)
  |_,_,_=>none
 |.string,.str t=>match t.lit? with
  |some b=>
   match optNat 0 lo,optNat b.length hi with
   |some a,some c=>cond (Nat.ble a c&&Nat.ble c b.length) (some (.str (Txt.ofBytes ((b.drop a).take (c - a))))) none
   |_,_=>none
  |none=>none
 |_,_=>none
def bytesOf:List LV→Option (List UInt8)
 |[]=>some []
 |.int .u8 (.ofNat n)::r=>cond (Nat.blt n 256) (match bytesOf r with
  |some l=>some (UInt8.ofNat n::l)
  |none=>none) none
 |_=>none
def isU8 (V:VP) (e:TypeId):Bool:=
 match V.ty.get e with
 |some u=>match u.und with
  |.int .u8=>Nat.beq u.size 1
  |_=>false
 |none=>false
def convL (V:VP) (σ:St) (src dst:TypeId) (x:LV):Option (LV×St):=
 match V.ty.get src,V.ty.get dst with
 |some i,some j=>
  match i.und,j.und,x with
  |.int _,.int k,.int _ n=>some (.int k (k.wrap n),σ)
  |.string,.string,.str t=>some (.str t,σ)
  |.slice e,.string,.bsl l _=>cond (isU8 V e) (match textAt σ l with
   |some t=>some (.str t,σ)
   |none=>none) none
  |.slice e,.string,.nils=>cond (isU8 V e) (some (.str [],σ)) none
  |.slice e,.string,.slice l i esz n=>cond (isU8 V e) (match cellsOf σ 1 (.slice l i esz n) with
   |some c=>match bytesOf c with
    |some b=>some (.str (Txt.ofBytes b),σ)
    |none=>none
   |none=>none) none
  |.string,.slice e,.str t=>cond (isU8 V e)
   (match t.lit? with
   |some b=>match newOb σ (.row e (litCells b) .marked) with
    |(l,σ)=>some (.slice l 0 1 b.length,σ)
   |none=>match newOb σ (.view t) with
    |(l,σ)=>some (.bsl l t,σ)) none
  |.slice e,.slice _,.slice l i esz n=>match σ.heap.get l with
   |some (.row e' cs _)=>cond (isU8 V e&&Nat.beq src dst) (some (.slice l i esz n,σ.set l (.row e' cs .marked))) none
   |_=>none
  |.int _,.string,.int _ n=>some (.str (Txt.ofBytes (Utf8.encode n).data.toList),σ)
  |_,_,_=>none
 |_,_=>none
def nthV:List LV→Nat→Option LV
 |[],_=>none
 |v::_,0=>some v
 |_::r,n+1=>nthV r n
def assertL (V:VP) (x:LV) (asserted:TypeId) (ok:Bool):Option LV:=
 match V.ty.get asserted with
 |none=>none
 |some i=>
  match i.und,x with
  |.interface _,.nili=>cond ok (some (.tuple [i.zv,.bool false])) none
  |.interface want,.iface t v=>match V.ty.get t with
   |some j=>match Instr.missingMethod want j.info.methods with
    |none=>some (cond ok (.tuple [.iface t v,.bool true]) (.iface t v))
    |some _=>cond ok (some (.tuple [i.zv,.bool false])) none
   |none=>none
  |_,.nili=>cond ok (some (.tuple [i.zv,.bool false])) none
  |_,.iface t v=>cond (Nat.beq t asserted) (some (cond ok (.tuple [v,.bool true]) v)) (cond ok (some (.tuple [i.zv,.bool false])) none)
  |_,_=>none
def toVal (r:Option (LV×St)):Option ORes:=match r with
 |some (v,σ)=>some (.val v σ)
 |none=>none
def vOf (σ:St) (r:Option LV):Option ORes:=match r with
 |some v=>some (.val v σ)
 |none=>none
def splitL:Nat→List LV→Option (List LV×List LV)
 |0,l=>some ([],l)
 |n+1,v::r=>match splitL n r with
  |some (a,b)=>some (v::a,b)
  |none=>none
 |_+1,[]=>none
def aheadL (V:VP) (t:TypeId) (v:LV) (name:String):Bool:=
 match V.ty.get t with
 |some i=>match findM name i.info.methods.toList with
  |some m=>m.path.toList.isEmpty&&(match m.func with
   |some (_,true)=>true
   |some (_,false)=>(match i.und,v with
    |.pointer _,.ptr _ _=>true
    |.pointer _,_=>false
    |_,_=>true)
   |none=>false)
  |none=>false
 |none=>false
def hasO:Option Operand→Bool
 |some _=>true
 |none=>false
def doOp (V:VP) (σ:St) (op:Op) (vs:List LV):Option ORes:=
 match op,vs with
 |.move _,v::[]=>some (.val v σ)
 |.assign _,v::[]=>some (.val v σ)
 |.pick ..,.bool b::x::y::[]=>some (.val (cond b x y) σ)
 |.alloc e,[]=>match V.ty.get e with
  |some i=>match newOb σ (.row e i.zero .exact) with
   |(l,σ)=>some (.val (.ptr l 0) σ)
  |none=>none
 |.box e _,x::[]=>match newOb σ (.row e x.cells .exact) with
  |(l,σ)=>some (.val (.ptr l 0) σ)
 |.build t parts,vs=>match V.ty.get t with
  |some i=>
   match i.und with
   |.struct fs=>match placesL V fs.toList with
    |some pl=>match fillL (fun k=>pl[k]?) i.zero (zipCells parts.toList vs) with
     |some cs=>some (.val (.agg cs) σ)
     |none=>none
    |none=>none
   |_=>none
  |none=>none
 |.buildSlice t len parts,vs=>match V.ty.get t with
  |some j=>match j.und with
   |.slice e=>match V.ty.get e with
    |some i=>cond (Nat.ble (len * i.size) 16777216&&Nat.blt 0 i.size&&Nat.beq i.zero.length i.size)
     (match fillL (fun k=>some (k * i.size,i.size)) (repeatL i.zero len) (zipCells parts.toList vs) with
     |some cs=>match newOb σ (.row e cs .exact) with
      |(l,σ)=>some (.val (.slice l 0 i.size len) σ)
     |none=>none) none
    |none=>none
   |_=>none
  |none=>none
 |.load t _,p::[]=>vOf σ (loadV V σ t p)
 |.store t _ _,p::x::[]=>match storeV V σ t p x with
  |some σ=>some (.skip σ)
  |none=>none
 |.nilCheck _,x::[]=>match x with
  |.ptr _ _|.gptr _ _|.slice _ _ _ _|.iface _ _=>some (.val x σ)
  |.func (.func _) _ _=>some (.val x σ)
  |.func (.method name) (.iface t v::_) _=>cond (aheadL V t v name) (some (.val x σ)) none
  |_=>none
 |.binOp op t x y _,a::b::[]=>vOf σ (binL V σ op t (isConstO x||isConstO y) a b)
 |.unOp op _ _,x::[]=>match clo x with
  |some x=>vOf σ (pureSem (Op.unary op x))
  |none=>none
 |.convert s d _,x::[]=>toVal (convL V σ s d x)
 |.makeInterface t _,x::[]=>match V.ty.get t with
  |some i=>match i.und with
   |.interface _=>none
   |_=>some (.val (.iface t x) σ)
  |none=>none
 |.makeFunc fn first _,vs=>match splitL first.size vs with
  |some (f,c)=>some (.val (.func fn f c) σ)
  |none=>none
 |.makeMap _ none,[]=>match newOb σ (.map []) with
  |(l,σ)=>some (.val (.map l) σ)
 |.makeSlice t _ _,n::c::[]=>match V.ty.get t,natOf n,natOf c with
  |some j,some n,some c=>match j.und with
   |.slice e=>match V.ty.get e with
    |some i=>cond (Nat.ble n c&&Nat.ble (c * (i.bytes+1)) 1073741824&&Nat.blt 0 i.size&&Nat.beq i.zero.length i.size)
     (match newOb σ (.row e (repeatL i.zero n) (cond (Nat.beq n c) .exact .spare)) with
     |(l,σ)=>some (.val (.slice l 0 i.size n) σ)) none
    |none=>none
   |_=>none
  |_,_,_=>none
 |.slice t _ lo hi none,x::vs=>match hasO lo,hasO hi,vs with
  |false,false,[]=>vOf σ (sliceL V t x none none)
  |true,false,a::[]=>vOf σ (sliceL V t x (some a) none)
  |false,true,b::[]=>vOf σ (sliceL V t x none (some b))
  |true,true,a::b::[]=>vOf σ (sliceL V t x (some a) (some b))
  |_,_,_=>none
 |.fieldAddr s _ f,x::[]=>match fieldOf V s f with
  |some f=>vOf σ (fieldP V x f)
  |none=>none
 |.field t _ f,x::[]=>match x,fieldOf V t f with
  |.agg cs,some f=>vOf σ (partL V f.type cs f.offset)
  |_,_=>none
 |.indexAddr t _ _,x::ix::[]=>match V.ty.get t,natOf ix with
  |some j,some k=>match j.und,x with
   |.slice e,.slice l i esz n=>match sizeT V e with
    |some s=>cond (Nat.blt k n&&Nat.beq s esz) (some (.val (.ptr l ((i+k) * esz)) σ)) none
    |none=>none
   |.array n e,.ptr l off=>match sizeT V e with
    |some s=>cond (Nat.blt k n) (some (.val (.ptr l (off+k * s)) σ)) none
    |none=>none
   |_,_=>none
  |_,_=>none
 |.index t _ _,x::ix::[]=>match V.ty.get t,natOf ix with
  |some j,some k=>match j.und,x with
   |.string,.str t=>match t with
    |.lit b::_=>match b[k]? with
     |some c=>some (.val (.int .u8 c.toNat) σ)
     |none=>none
    |_=>none
   |.array n e,.agg cs=>match sizeT V e with
    |some s=>cond (Nat.blt k n) (vOf σ (partL V e cs (k * s))) none
    |none=>none
   |_,_=>none
  |_,_=>none
 |.lookup t _ _ ok,x::k::[]=>match V.ty.get t with
  |some j=>match j.und with
   |.map kt e=>match V.ty.get kt,V.ty.get e with
    |some kd,some i=>cond (keyOk kd.und k)
     (match mapRead V σ kd.und x k with
     |none=>none
     |some (some w)=>some (.val (cond ok (.tuple [w,.bool true]) w) σ)
     |some none=>some (.val (cond ok (.tuple [i.zv,.bool false]) i.zv) σ)) none
    |_,_=>none
   |_=>none
  |none=>none
 |.mapUpdate t _ _ _,.map l::k::x::[]=>match V.ty.get t with
  |some j=>match j.und with
   |.map kt _=>match V.ty.get kt,σ.heap.get l with
    |some kd,some (.map es)=>cond (keyOk kd.und k) (match setE V kd.und k x es with
     |some es=>some (.skip (σ.set l (.map es)))
     |none=>none) none
    |_,_=>none
   |_=>none
  |none=>none
 |.typeAssert _ _ t ok,x::[]=>vOf σ (assertL V x t ok)
 |.extract _ i,.tuple vs::[]=>vOf σ (nthV vs i)
 |.call c,vs=>match c.callee,vs with
  |.builtin b,args=>toVal (builtinL V σ b c.argTypes.toList args)
  |.invoke _ name,r::args=>invokeL V σ (.method name) [] (r::args)
  |.value _,.func fn first captured::args=>invokeL V σ fn captured (first++args)
  |_,_=>none
 |.defer c,vs=>match c.callee,vs with
  |.invoke _ name,r::args=>some (.defer ⟨.method name,[],r::args⟩ σ)
  |.value _,.func fn first captured::args=>some (.defer ⟨fn,captured,first++args⟩ σ)
  |_,_=>none
 |_,_=>none
end Vx
set_option linter.unusedVariables false
set_option linter.unusedSimpArgs false
namespace Vx
open Go Go.RowKit
namespace Tr
variable {α:Type}
theorem get_lft (t:Tr α) (n:Nat):t.lft.get n=t.get (2 * n+1):=by
 cases t with
 |nil=>simp [lft,get]
 |node l v r=>simp only [lft,get];rw [show 2 * n % 2=0 by omega,show 2 * n / 2=n by omega];rfl
theorem get_rgt (t:Tr α) (n:Nat):t.rgt.get n=t.get (2 * n+2):=by
 cases t with
 |nil=>simp [rgt,get]
 |node l v r=>simp only [rgt,get];rw [show (2 * n+1) % 2=1 by omega,show (2 * n+1) / 2=n by omega];rfl
theorem get_mid (t:Tr α):t.mid=t.get 0:=by cases t <;> simp [mid,get]
theorem get_setF (f:Nat):∀ (t:Tr α) (n:Nat) (a:Option α) (m:Nat),n < f→(setF f t n a).get m=if m=n then a else t.get m:=by
 induction f with
 |zero=>intro t n a m h;omega
 |succ f ih=>
  intro t n a m h
  cases n with
  |zero=>
   cases m with
   |zero=>simp [setF,get]
   |succ m=>
    simp only [setF,get]
    rw [if_neg (by omega)]
    cases hb:Nat.beq (m % 2) 0 with
    |true=>
        have:m % 2=0:=Nat.eq_of_beq_eq_true hb
        simp only [cond_true];rw [get_lft];congr 1;omega
    |false=>
         have:m % 2≠0:=Nat.ne_of_beq_eq_false hb
         simp only [cond_false];rw [get_rgt];congr 1;omega
  |succ n=>
   simp only [setF]
   cases hb:Nat.beq (n % 2) 0 with
   |true=>
    have hn:n % 2=0:=Nat.eq_of_beq_eq_true hb
    simp only [cond_true]
    cases m with
    |zero=>simp only [get];rw [if_neg (by omega),get_mid]
    |succ m=>
     simp only [get]
     cases hc:Nat.beq (m % 2) 0 with
     |true=>
      have hm:m % 2=0:=Nat.eq_of_beq_eq_true hc
      simp only [cond_true]
      rw [ih _ _ _ _ (by omega)]
      by_cases e:m=n
      ·subst e;simp
      ·rw [if_neg (by omega),if_neg (by omega),get_lft];congr 1;omega
     |false=>
      have hm:m % 2≠0:=Nat.ne_of_beq_eq_false hc
      simp only [cond_false]
      rw [if_neg (by omega),get_rgt];congr 1;omega
   |false=>
    have hn:n % 2≠0:=Nat.ne_of_beq_eq_false hb
    simp only [cond_false]
    cases m with
    |zero=>simp only [get];rw [if_neg (by omega),get_mid]
    |succ m=>
     simp only [get]
     cases hc:Nat.beq (m % 2) 0 with
     |true=>
      have hm:m % 2=0:=Nat.eq_of_beq_eq_true hc
      simp only [cond_true]
      rw [if_neg (by omega),get_lft];congr 1;omega
     |false=>
      have hm:m % 2≠0:=Nat.ne_of_beq_eq_false hc
      simp only [cond_false]
      rw [ih _ _ _ _ (by omega)]
      by_cases e:m=n
      ·subst e;simp
      ·rw [if_neg (by omega),if_neg (by omega),get_rgt];congr 1;omega
theorem get_put (t:Tr α) (n:Nat) (a:α) (m:Nat):(t.put n a).get m=if m=n then some a else t.get m:=
 get_setF (n+1) t n (some a) m (by omega)
theorem get_del (t:Tr α) (n:Nat) (m:Nat):(t.del n).get m=if m=n then none else t.get m:=
 get_setF (n+1) t n none m (by omega)
theorem get_full (f:Nat→Option α) (d:Nat):∀ (a b n:Nat) (x:α),(full f d a b).get n=some x→f (a * n+b)=some x:=by
 induction d with
 |zero=>intro a b n x h;simp [full,get] at h
 |succ d ih=>
  intro a b n x h
  cases n with
  |zero=>simpa [full,get] using h
  |succ n=>
   simp only [full,get] at h
   cases hb:Nat.beq (n % 2) 0 with
   |true=>
    have hn:n % 2=0:=Nat.eq_of_beq_eq_true hb
    rw [hb] at h
    have:=ih _ _ _ _ h
    rw [← this];congr 1
    have:n=2 * (n / 2):=by omega
    rw [Nat.mul_succ]
    conv=>lhs;rw [this]
    rw [Nat.mul_left_comm,Nat.mul_assoc];omega
   |false=>
    have hn:n % 2≠0:=Nat.ne_of_beq_eq_false hb
    rw [hb] at h
    have:=ih _ _ _ _ h
    rw [← this];congr 1
    have:n=2 * (n / 2)+1:=by omega
    rw [Nat.mul_succ]
    conv=>lhs;rw [this]
    rw [Nat.mul_add,Nat.mul_left_comm,Nat.mul_assoc];omega
end Tr
structure Atoms where
 txt:Nat→List UInt8
 tied:Nat→World→Prop
def den (s:Atoms):Txt→List UInt8
 |[]=>[]
 |.lit b::r=>b++den s r
 |.atom i::r=>s.txt i++den s r
theorem beqBytes_eq:∀ {a b:List UInt8},beqBytes a b=true→a=b
 |[],[],_=>rfl
 |[],_::_,h=>by simp [beqBytes] at h
 |_::_,[],h=>by simp [beqBytes] at h
 |a::x,b::y,h=>by
  simp only [beqBytes,Bool.and_eq_true] at h
  have h1:=Nat.eq_of_beq_eq_true h.1
  rw [UInt8.toNat_inj.1 h1,beqBytes_eq h.2]
theorem beqBytes_ne:∀ {a b:List UInt8},beqBytes a b=false→a≠b
 |[],[],h=>by simp [beqBytes] at h
 |[],_::_,_=>by simp
 |_::_,[],_=>by simp
 |a::x,b::y,h=>by
  simp only [beqBytes,Bool.and_eq_false_iff] at h
  intro e
  injection e with e1 e2
  rcases h with h|h
  ·exact Nat.ne_of_beq_eq_false h (by rw [e1])
  ·exact beqBytes_ne h e2
theorem Pc.beq_eq {a b:Pc} (h:a.beq b=true):a=b:=by
 cases a <;> cases b <;> simp only [Pc.beq] at h
 ·rw [beqBytes_eq h]
 ·cases h
 ·cases h
 ·rw [Nat.eq_of_beq_eq_true h]
theorem Txt.beq_eq:∀ {a b:Txt},Txt.beq a b=true→a=b
 |[],[],_=>rfl
 |[],_::_,h=>by simp [Txt.beq] at h
 |_::_,[],h=>by simp [Txt.beq] at h
 |a::x,b::y,h=>by
  simp only [Txt.beq,Bool.and_eq_true] at h
  rw [Pc.beq_eq h.1,Txt.beq_eq h.2]
theorem den_cons (s:Atoms) (p:Pc) (r:Txt):den s (p::r)=den s [p]++den s r:=by
 cases p <;> simp [den]
theorem den_cat (s:Atoms):∀ (x y:Txt),den s (x.cat y)=den s x++den s y
 |[],y=>by simp [Txt.cat,den]
 |p::x,y=>by
  unfold Txt.cat
  split
  ·simp [den]
  ·rw [den_cons]
  ·rw [den_cons,den_cat s x y,den_cons s p x,List.append_assoc]
theorem den_ofBytes (s:Atoms) (b:List UInt8):den s (Txt.ofBytes b)=b:=by
 unfold Txt.ofBytes;split <;> simp [den]
theorem den_lit {s:Atoms} {t:Txt} {b:List UInt8} (h:t.lit?=some b):den s t=b:=by
 unfold Txt.lit? at h
 split at h
 ·simpa [den] using h
 ·simpa [den] using h
 ·cases h
structure Facts.Ok (F:Facts) (s:Atoms):Prop where
 ne:∀ i,memNat i F.nonempty=true→s.txt i≠[]
 len:∀ i,(s.txt i).length≤F.amax
 differ:∀ a b,memPair a b F.differ=true→den s a≠den s b
theorem empty?_ok {F:Facts} {s:Atoms} (hF:F.Ok s):∀ {t:Txt} {b:Bool},Txt.empty? F t=some b→(den s t).isEmpty=b
 |[],b,h=>by simp [Txt.empty?] at h;subst h;rfl
 |.lit (c::r)::t,b,h=>by simp [Txt.empty?] at h;subst h;simp [den]
 |.lit []::t,b,h=>by
  simp only [Txt.empty?] at h
  have:=empty?_ok hF h
  simpa [den] using this
 |.atom i::t,b,h=>by
  simp only [Txt.empty?] at h
  cases hm:memNat i F.nonempty with
  |true=>
   rw [hm] at h;simp at h;subst h
   have:=hF.ne i hm
   simp [den,this]
  |false=>
   rw [hm] at h
   simp only [cond_false] at h
   split at h
   ·rename_i he
    simp at h;subst h
    have:=empty?_ok hF he
    simp only [den]
    cases hs:s.txt i <;> simp_all
   ·cases h
theorem eq?_ok {F:Facts} {s:Atoms} (hF:F.Ok s) {a b:Txt} {r:Bool} (h:Txt.eq? F a b=some r):decide (den s a=den s b)=r:=by
 unfold Txt.eq? at h
 cases hb:a.beq b with
 |true=>rw [hb] at h;simp at h;subst h;rw [Txt.beq_eq hb];simp
 |false=>
  rw [hb] at h;simp only [cond_false] at h
  split at h
  ·rename_i x y hx hy
   simp at h
   rw [den_lit hx,den_lit hy]
   cases hr:beqBytes x y with
   |true=>rw [hr] at h;subst h;simp [beqBytes_eq hr]
   |false=>rw [hr] at h;subst h;simp [beqBytes_ne hr]
  ·split at h
   ·have:=empty?_ok hF h
    subst this
    simp only [den]
    cases den s b <;> simp
   ·have:=empty?_ok hF h
    subst this
    simp only [den]
    cases den s a <;> simp
   ·cases hm:memPair a b F.differ with
    |true=>rw [hm] at h;simp at h;subst h;simpa using hF.differ _ _ hm
    |false=>rw [hm] at h;cases h
theorem bnd_ok {F:Facts} {s:Atoms} (hF:F.Ok s):∀ (t:Txt),(den s t).length≤Txt.bnd F t
 |[]=>by simp [den]
 |.lit b::r=>by have:=bnd_ok hF r;simp only [den,Txt.bnd,List.length_append];omega
 |.atom i::r=>by have:=bnd_ok hF r;have:=hF.len i;simp only [den,Txt.bnd,List.length_append];omega
inductive Bind where
 |row (b K:Nat)
 |val (v:Value)
abbrev Rho:=List Bind
mutual
def RV (s:Atoms) (ρ:Rho):LV→Value→Prop
 |.bool b,v=>v=.bool b
 |.int k n,v=>v=.int k n
 |.str t,v=>∃ b,v=.string b∧b.data.toList=den s t
 |.len t,v=>v=.int .i64 (den s t).length
 |.nilp,v=>v=.pointer none
 |.ptr l off,v=>∃ b K,ρ[l]?=some (.row b K)∧v=.pointer (some ⟨b,off,none⟩)
 |.gptr g off,v=>v=.pointer (some ⟨g,off,none⟩)
 |.nils,v=>v=.slice none 0 0
 |.slice l i esz len,v=>∃ b K,ρ[l]?=some (.row b K)∧i+len≤K∧v=.slice (some ⟨b,i * esz,none⟩) len (K - i)
 |.bsl l t,v=>ρ[l]?=some (.val v)∧∃ a n c,v=.slice a n c∧n=(den s t).length
 |.nilm,v=>v=.map none
 |.map l,v=>∃ b K,ρ[l]?=some (.row b K)∧v=.map (some b)
 |.func fn f c,v=>∃ f' c',v=.func fn f' c'∧RVs s ρ f f'.toList∧RVs s ρ c c'.toList
 |.nilf,v=>v=.nilFunc
 |.iface t x,v=>∃ v',v=.iface t v'∧RV s ρ x v'
 |.nili,v=>v=.nilIface
 |.agg cs,v=>∃ a,v=.agg a∧RVs s ρ cs a.toList
 |.tuple vs,v=>∃ a,v=.tuple a∧RVs s ρ vs a.toList
def RVs (s:Atoms) (ρ:Rho):List LV→List Value→Prop
 |[],vs=>vs=[]
 |x::r,vs=>∃ v vs',vs=v::vs'∧RV s ρ x v∧RVs s ρ r vs'
end
theorem get_ext {ρ:Rho} {x:Rho} {l:Nat} {b:Bind} (h:ρ[l]?=some b):(ρ++x)[l]?=some b:=by
 have:=(List.getElem?_eq_some_iff.1 h).1
 rw [List.getElem?_append_left this];exact h
mutual
theorem RV.ext {s:Atoms} {ρ:Rho} (x:Rho):∀ {l:LV} {v:Value},RV s ρ l v→RV s (ρ++x) l v
 |.bool _,_,h=>h
 |.int _ _,_,h=>h
 |.str _,_,h=>h
 |.len _,_,h=>h
 |.nilp,_,h=>h
 |.ptr _ _,_,h=>by obtain ⟨b,K,h1,h2⟩:=h;exact ⟨b,K,get_ext h1,h2⟩
 |.gptr _ _,_,h=>h
 |.nils,_,h=>h
 |.slice _ _ _ _,_,h=>by obtain ⟨b,K,h1,h2⟩:=h;exact ⟨b,K,get_ext h1,h2⟩
 |.bsl _ _,_,h=>by obtain ⟨h1,h2⟩:=h;exact ⟨get_ext h1,h2⟩
 |.nilm,_,h=>h
 |.map _,_,h=>by obtain ⟨b,K,h1,h2⟩:=h;exact ⟨b,K,get_ext h1,h2⟩
 |.func _ _ _,_,h=>by obtain ⟨f,c,h1,h2,h3⟩:=h;exact ⟨f,c,h1,RVs.ext x h2,RVs.ext x h3⟩
 |.nilf,_,h=>h
 |.iface _ _,_,h=>by obtain ⟨v,h1,h2⟩:=h;exact ⟨v,h1,RV.ext x h2⟩
 |.nili,_,h=>h
 |.agg _,_,h=>by obtain ⟨a,h1,h2⟩:=h;exact ⟨a,h1,RVs.ext x h2⟩
 |.tuple _,_,h=>by obtain ⟨a,h1,h2⟩:=h;exact ⟨a,h1,RVs.ext x h2⟩
theorem RVs.ext {s:Atoms} {ρ:Rho} (x:Rho):∀ {l:List LV} {v:List Value},RVs s ρ l v→RVs s (ρ++x) l v
 |[],_,h=>h
 |_::_,_,h=>by obtain ⟨v,vs,h1,h2,h3⟩:=h;exact ⟨v,vs,h1,RV.ext x h2,RVs.ext x h3⟩
end
mutual
theorem ofV_ok {s:Atoms} {ρ:Rho}:∀ {v:Value} {l:LV},ofV v=some l→RV s ρ l v
 |.bool _,_,h=>by simp only [ofV,Option.some.injEq] at h;subst h;simp [RV]
 |.int _ _,_,h=>by simp only [ofV,Option.some.injEq] at h;subst h;simp [RV]
 |.float _ _,_,h=>by simp [ofV] at h
 |.complex _ _ _,_,h=>by simp [ofV] at h
 |.string b,_,h=>by simp only [ofV,Option.some.injEq] at h;subst h;exact ⟨b,rfl,(den_ofBytes _ _).symm⟩
 |.pointer none,_,h=>by simp only [ofV,Option.some.injEq] at h;subst h;simp [RV]
 |.pointer (some _),_,h=>by simp [ofV] at h
 |.slice none 0 0,_,h=>by simp only [ofV,Option.some.injEq] at h;subst h;simp [RV]
 |.slice none (_+1) _,_,h=>by simp [ofV] at h
 |.slice none 0 (_+1),_,h=>by simp [ofV] at h
 |.slice (some _) _ _,_,h=>by simp [ofV] at h
 |.map none,_,h=>by simp only [ofV,Option.some.injEq] at h;subst h;simp [RV]
 |.map (some _),_,h=>by simp [ofV] at h
 |.chan _,_,h=>by simp [ofV] at h
 |.nilFunc,_,h=>by simp only [ofV,Option.some.injEq] at h;subst h;simp [RV]
 |.nilIface,_,h=>by simp only [ofV,Option.some.injEq] at h;subst h;simp [RV]
 |.func fn f c,l,h=>by
  simp only [ofV] at h
  split at h
  ·rename_i a b ha hb
   simp only [Option.some.injEq] at h;subst h
   exact ⟨f,c,rfl,ofVs_ok ha,ofVs_ok hb⟩
  ·cases h
 |.iface t v,l,h=>by
  simp only [ofV] at h
  split at h
  ·rename_i a ha
   simp only [Option.some.injEq] at h;subst h
   exact ⟨v,rfl,ofV_ok ha⟩
  ·cases h
 |.agg cs,l,h=>by
  simp only [ofV] at h
  split at h
  ·rename_i a ha
   simp only [Option.some.injEq] at h;subst h
   exact ⟨cs,rfl,ofVs_ok ha⟩
  ·cases h
 |.tuple cs,l,h=>by
  simp only [ofV] at h
  split at h
  ·rename_i a ha
   simp only [Option.some.injEq] at h;subst h
   exact ⟨cs,rfl,ofVs_ok ha⟩
  ·cases h
theorem ofVs_ok {s:Atoms} {ρ:Rho}:∀ {v:List Value} {l:List LV},ofVs v=some l→RVs s ρ l v
 |[],_,h=>by simp only [ofVs,Option.some.injEq] at h;subst h;simp [RVs]
 |v::r,l,h=>by
  simp only [ofVs] at h
  split at h
  ·rename_i a b ha hb
   simp only [Option.some.injEq] at h;subst h
   exact ⟨v,r,rfl,ofV_ok ha,ofVs_ok hb⟩
  ·cases h
end
theorem RVs.length {s:Atoms} {ρ:Rho}:∀ {l:List LV} {v:List Value},RVs s ρ l v→v.length=l.length
 |[],_,h=>by simp only [RVs] at h;subst h;rfl
 |_::_,_,h=>by obtain ⟨v,vs,h1,_,h3⟩:=h;subst h1;simp [RVs.length h3]
theorem RVs.append {s:Atoms} {ρ:Rho}:∀ {a b:List LV} {x y:List Value},RVs s ρ a x→RVs s ρ b y→RVs s ρ (a++b) (x++y)
 |[],_,_,_,h,h'=>by simp only [RVs] at h;subst h;exact h'
 |_::_,_,_,_,h,h'=>by
  obtain ⟨v,vs,h1,h2,h3⟩:=h;subst h1
  exact ⟨v,_,rfl,h2,RVs.append h3 h'⟩
theorem RVs.dropN {s:Atoms} {ρ:Rho}:∀ {n:Nat} {l:List LV} {v:List Value},RVs s ρ l v→RVs s ρ (Vx.dropN n l) (v.drop n)
 |0,_,_,h=>by simpa [Vx.dropN] using h
 |n+1,[],_,h=>by simp only [RVs] at h;subst h;simp [Vx.dropN,RVs]
 |n+1,_::_,_,h=>by
  obtain ⟨v,vs,h1,_,h3⟩:=h;subst h1
  simpa [Vx.dropN] using RVs.dropN (n:=n) h3
theorem RVs.takeN {s:Atoms} {ρ:Rho}:∀ {n:Nat} {l c:List LV} {v:List Value},RVs s ρ l v→Vx.takeN n l=some c→RVs s ρ c (v.take n)∧n≤v.length
 |0,_,_,_,_,h'=>by simp only [Vx.takeN,Option.some.injEq] at h';subst h';simp [RVs]
 |n+1,[],_,_,_,h'=>by simp [Vx.takeN] at h'
 |n+1,_::_,_,_,h,h'=>by
  obtain ⟨v,vs,h1,h2,h3⟩:=h;subst h1
  simp only [Vx.takeN] at h'
  split at h'
  ·rename_i l hl
   simp only [Option.some.injEq] at h';subst h'
   obtain ⟨g1,g2⟩:=RVs.takeN h3 hl
   exact ⟨⟨v,_,by simp,h2,g1⟩,by simp;omega⟩
  ·cases h'
theorem RVs.sub {s:Atoms} {ρ:Rho} {l c:List LV} {v:List Value} {off n:Nat} (h:RVs s ρ l v) (h':Vx.sub l off n=some c):
  RVs s ρ c ((v.drop off).take n)∧(n=0∨off+n≤v.length):=by
 obtain ⟨g1,g2⟩:=RVs.takeN (RVs.dropN h) h'
 refine ⟨g1,?_⟩
 simp at g2
 omega
theorem RVs.over {s:Atoms} {ρ:Rho}:∀ {l:List LV} {n:Nat} {vs c:List LV} {v w:List Value},RVs s ρ l v→RVs s ρ vs w→Vx.over l n vs=some c →
  RVs s ρ c (v.take n++w++v.drop (n+w.length))∧n+w.length≤v.length
 |l,0,[],c,v,w,h,hw,h'=>by
  simp only [RVs] at hw;subst hw
  have:c=l:=by unfold Vx.over at h';cases l <;> simpa using h'.symm
  subst this
  exact ⟨by simpa using h,by simp⟩
 |a::r,n+1,vs,c,v,w,h,hw,h'=>by
  obtain ⟨x,xs,h1,h2,h3⟩:=h;subst h1
  simp only [Vx.over] at h'
  split at h'
  ·rename_i c' hc
   simp only [Option.some.injEq] at h';subst h'
   obtain ⟨g1,g2⟩:=RVs.over h3 hw hc
   refine ⟨⟨x,_,?_,h2,g1⟩,by simp;omega⟩
   simp [Nat.add_right_comm]
  ·cases h'
 |a::r,0,b::vs,c,v,w,h,hw,h'=>by
  obtain ⟨x,xs,h1,h2,h3⟩:=h;subst h1
  obtain ⟨y,ys,k1,k2,k3⟩:=hw;subst k1
  simp only [Vx.over] at h'
  split at h'
  ·rename_i c' hc
   simp only [Option.some.injEq] at h';subst h'
   obtain ⟨g1,g2⟩:=RVs.over h3 k3 hc
   refine ⟨⟨y,_,?_,k2,g1⟩,by simp at g2 ⊢;omega⟩
   simp
  ·cases h'
 |[],0,_::_,_,_,_,_,_,h'=>by simp [Vx.over] at h'
 |[],_+1,_,_,_,_,_,_,h'=>by simp [Vx.over] at h'
theorem one_ok {s:Atoms} {ρ:Rho} {x:LV} {v:Value} (h:RV s ρ x v) (h1:x.one=true):(∀ a,v≠.agg a)∧(∀ a,v≠.tuple a):=by
 cases x <;> simp only [LV.one,Bool.false_eq_true] at h1 <;> simp only [RV] at h <;>
  first
  |(subst h;exact ⟨by simp,by simp⟩)
  |(obtain ⟨_,h,_⟩:=h;subst h;exact ⟨by simp,by simp⟩)
  |(obtain ⟨_,_,h,_⟩:=h;subst h;exact ⟨by simp,by simp⟩)
  |(obtain ⟨_,_,_,h⟩:=h;subst h;exact ⟨by simp,by simp⟩)
  |(obtain ⟨_,_,_,_,h⟩:=h;subst h;exact ⟨by simp,by simp⟩)
  |(obtain ⟨_,_,_,_,h,_⟩:=h;subst h;exact ⟨by simp,by simp⟩)
theorem cells_ok {s:Atoms} {ρ:Rho} {x:LV} {v:Value} (h:RV s ρ x v):RVs s ρ x.cells v.cells.toList:=by
 by_cases h1:∃ cs,x=.agg cs
 ·obtain ⟨cs,rfl⟩:=h1
  obtain ⟨a,rfl,ha⟩:=h
  exact ha
 ·have e:x.cells=[x]:=by cases x <;> first|rfl|exact absurd ⟨_,rfl⟩ h1
  rw [e]
  have hv:v.cells=#[v]:=by
   cases x <;> first|exact absurd ⟨_,rfl⟩ h1|(simp only [RV] at h;first
    |(subst h;rfl)
    |(obtain ⟨_,h,_⟩:=h;subst h;rfl)
    |(obtain ⟨_,_,h,_⟩:=h;subst h;rfl)
    |(obtain ⟨_,_,_,h⟩:=h;subst h;rfl)
    |(obtain ⟨_,_,_,_,h⟩:=h;subst h;rfl)
    |(obtain ⟨_,_,_,_,h,_⟩:=h;subst h;rfl))
  rw [hv]
  exact ⟨v,[],rfl,h,rfl⟩
def RK.frz (k:RK) (fr:Nat×Nat) (n:Nat):Prop:=
 match k with
 |.marked=>fr=(0,0)∨n≤fr.1
 |_=>fr=(0,0)
def bytesAt (w:World) (v:Value) (l:List UInt8):Prop:=
 (l=[]∧∃ c,v=.slice none 0 c) ∨
 ∃ b o c cs e fr,v=.slice (some ⟨b,o,none⟩) l.length c∧w.heap[b]?=some (.cells cs e fr)∧l.length≤c∧∀ k,(h:k < l.length)→cs[o+k]?=some (.int .u8 (l[k]).toNat)
def REnts (s:Atoms) (ρ:Rho):List (LV×LV)→List MapEntry→Prop
 |[],es=>es=[]
 |(k,v)::r,es=>∃ e es',es=e::es'∧RV s ρ k e.key∧RV s ρ v e.val∧REnts s ρ r es'
def ROb (V:VP) (s:Atoms) (ρ:Rho) (o:Ob) (bd:Bind) (w:World):Prop:=
 match o with
 |.row e cs k=>∃ b K c sp fr,bd=.row b K∧w.heap[b]?=some (.cells (c++sp) e fr)∧RVs s ρ cs c.toList ∧
  (k=.exact→sp=#[])∧k.frz fr (c++sp).size∧(∀ i,V.ty.get e=some i→K * i.size≤(c++sp).size)
 |.map es=>∃ b K ents clock,bd=.row b K∧w.heap[b]?=some (.map ents clock)∧REnts s ρ es ents.toList
 |.view t=>∃ v,bd=.val v∧bytesAt w v (den s t)
 |.bytes t=>∃ b cap cs,bd=.val (.slice (some ⟨b,0,none⟩) (den s t).length cap)∧w.heap[b]?=some (.cells cs V.bty (0,0))∧cs.size=cap ∧
  (den s t).length≤cap∧cap≤maxLen∧1≤(den s t).length∧∀ k,(h:k < (den s t).length)→cs[k]?=some (.int .u8 ((den s t)[k]).toNat)
def Bind.block:Bind→Option Nat
 |.row b _=>some b
 |.val (.slice (some a) _ _)=>some a.block
 |_=>none
def Ob.isView:Ob→Bool
 |.view _=>true
 |_=>false
structure RW (V:VP) (s:Atoms) (base:Nat) (w0:World) (ρ:Rho) (σ:St) (w:World):Prop where
 len:ρ.length=σ.next
 ob:∀ l o,σ.heap.get l=some o→∃ bd,ρ[l]?=some bd∧ROb V s ρ o bd w
 low:∀ l o bd b,σ.heap.get l=some o→ρ[l]?=some bd→bd.block=some b→base≤b∧b < w.heap.size
 apart:∀ l l' o o' bd bd' b,l≠l'→σ.heap.get l=some o→σ.heap.get l'=some o'→ρ[l]?=some bd→ρ[l']?=some bd'→bd.block=some b→bd'.block=some b →
  o.isView=true∧o'.isView=true
 below:Below base w0 w
 base_le:base≤w.heap.size
 tied:s.tied base w0
theorem REnts.ext {s:Atoms} {ρ:Rho} (x:Rho):∀ {es:List (LV×LV)} {ents:List MapEntry},REnts s ρ es ents→REnts s (ρ++x) es ents
 |[],_,h=>h
 |(_,_)::_,_,h=>by
  obtain ⟨e,es',h1,h2,h3,h4⟩:=h
  exact ⟨e,es',h1,h2.ext x,h3.ext x,h4.ext x⟩
theorem ROb.ext {V:VP} {s:Atoms} {ρ:Rho} (x:Rho) {o:Ob} {bd:Bind} {w:World} (h:ROb V s ρ o bd w):ROb V s (ρ++x) o bd w:=by
 cases o with
 |row e cs k=>obtain ⟨b,K,c,sp,fr,h1,h2,h3,h4⟩:=h;exact ⟨b,K,c,sp,fr,h1,h2,h3.ext x,h4⟩
 |map es=>obtain ⟨b,K,ents,clock,h1,h2,h3⟩:=h;exact ⟨b,K,ents,clock,h1,h2,h3.ext x⟩
 |view t=>exact h
 |bytes t=>exact h
theorem ROb.congr {V:VP} {s:Atoms} {ρ:Rho} {o:Ob} {bd:Bind} {w w':World} (h:ROb V s ρ o bd w) (hb:∀ b,bd.block=some b→w'.heap[b]?=w.heap[b]?):ROb V s ρ o bd w':=by
 cases o with
 |row e cs k=>obtain ⟨b,K,c,sp,fr,h1,h2,h3⟩:=h;subst h1;exact ⟨b,K,c,sp,fr,rfl,by rw [hb b rfl];exact h2,h3⟩
 |map es=>obtain ⟨b,K,ents,clock,h1,h2,h3⟩:=h;subst h1;exact ⟨b,K,ents,clock,rfl,by rw [hb b rfl];exact h2,h3⟩
 |view t=>
  obtain ⟨v,h1,h2⟩:=h;subst h1
  refine ⟨v,rfl,?_⟩
  rcases h2 with h2|⟨b,o,c,cs,e,fr,h3,h4,h5⟩
  ·exact .inl h2
  ·subst h3;exact .inr ⟨b,o,c,cs,e,fr,rfl,by rw [hb b rfl];exact h4,h5⟩
 |bytes t=>
  obtain ⟨b,cap,cs,h1,h2,h3⟩:=h;subst h1
  exact ⟨b,cap,cs,rfl,by rw [hb b rfl];exact h2,h3⟩
variable {V:VP} {s:Atoms} {base:Nat} {w0:World} {ρ:Rho} {σ:St} {w:World}
theorem RW.fresh (h:RW V s base w0 ρ σ w) {l:Nat} {o:Ob} (hl:σ.heap.get l=some o):l < σ.next:=by
 obtain ⟨bd,h1,_⟩:=h.ob l o hl
 have:=(List.getElem?_eq_some_iff.1 h1).1
 have:=h.len
 omega
theorem RW.world (h:RW V s base w0 ρ σ w) {w':World} (hb:Below w.heap.size w w'):RW V s base w0 ρ σ w':=
 {
  len:=h.len
  ob:=fun l o hl=>by
   obtain ⟨bd,h1,h2⟩:=h.ob l o hl
   exact ⟨bd,h1,h2.congr fun b hbb=>hb.block b (h.low l o bd b hl h1 hbb).2⟩
  low:=fun l o bd b hl h1 hbb=>⟨(h.low l o bd b hl h1 hbb).1,Nat.lt_of_lt_of_le (h.low l o bd b hl h1 hbb).2 hb.size⟩
  apart:=h.apart
  below:=h.below.trans (hb.mono h.base_le)
  base_le:=Nat.le_trans h.base_le hb.size
  tied:=h.tied }
theorem RW.allocTo (h:RW V s base w0 ρ σ w) {w':World} (hbel:Below w.heap.size w w') (hs:w'.heap.size=w.heap.size+1) (K:Nat) (o:Ob)
  (ho:ROb V s ρ o (.row w.heap.size K) w'):RW V s base w0 (ρ++[.row w.heap.size K]) (newOb σ o).2 w':=by
 have hblk:∀ k,k < w.heap.size→w'.heap[k]?=w.heap[k]?:=fun k hk=>hbel.block k hk
 have hget:∀ l o',(newOb σ o).2.heap.get l=some o'→(l=σ.next∧o'=o)∨(l≠σ.next∧σ.heap.get l=some o'):=by
  intro l o' hl
  simp only [newOb,Tr.get_put] at hl
  by_cases e:l=σ.next
  ·rw [if_pos e] at hl;exact .inl ⟨e,(Option.some.inj hl).symm⟩
  ·rw [if_neg e] at hl;exact .inr ⟨e,hl⟩
 have hold:∀ l o',σ.heap.get l=some o'→(ρ++[Bind.row w.heap.size K])[l]?=ρ[l]?:=fun l o' hl=>
  List.getElem?_append_left (by have:=h.fresh hl;have:=h.len;omega)
 have hnew:(ρ++[Bind.row w.heap.size K])[σ.next]?=some (.row w.heap.size K):=by
  rw [← h.len];simp
 refine { len:=by simp [newOb,h.len],ob:=?_,low:=?_,apart:=?_,below:=h.below.trans (hbel.mono h.base_le),base_le:=by rw [hs];have:=h.base_le;omega,tied:=h.tied }
 ·intro l o' hl
  rcases hget l o' hl with ⟨rfl,rfl⟩|⟨_,hl⟩
  ·exact ⟨_,hnew,ho.ext _⟩
  ·obtain ⟨bd,h1,h2⟩:=h.ob l o' hl
   exact ⟨bd,by rw [hold l o' hl];exact h1,(h2.ext _).congr fun b hbb=>hblk b (h.low l o' bd b hl h1 hbb).2⟩
 ·intro l o' bd b hl h1 hbb
  rcases hget l o' hl with ⟨rfl,rfl⟩|⟨_,hl⟩
  ·rw [hnew] at h1;cases h1;cases hbb;rw [hs];exact ⟨h.base_le,Nat.lt_succ_self _⟩
  ·rw [hold l o' hl] at h1
   obtain ⟨g1,g2⟩:=h.low l o' bd b hl h1 hbb
   rw [hs];exact ⟨g1,by omega⟩
 ·intro l l' o1 o2 bd bd' b hne hl hl' h1 h2 hb1 hb2
  rcases hget l o1 hl with ⟨rfl,rfl⟩|⟨e1,gl⟩
  ·rcases hget l' o2 hl' with ⟨rfl,rfl⟩|⟨e2,gl'⟩
   ·exact absurd rfl hne
   ·rw [hnew] at h1;cases h1;cases hb1
    rw [hold l' o2 gl'] at h2
    have:=(h.low l' o2 bd' _ gl' h2 hb2).2
    omega
  ·rcases hget l' o2 hl' with ⟨rfl,rfl⟩|⟨e2,gl'⟩
   ·rw [hnew] at h2;cases h2;cases hb2
    rw [hold l o1 gl] at h1
    have:=(h.low l o1 bd _ gl h1 hb1).2
    omega
   ·rw [hold l o1 gl] at h1;rw [hold l' o2 gl'] at h2
    exact h.apart l l' o1 o2 bd bd' b hne gl gl' h1 h2 hb1 hb2
theorem RW.alloc (h:RW V s base w0 ρ σ w) (x:Obj) (K:Nat) (o:Ob)
  (ho:ROb V s ρ o (.row w.heap.size K) (w.alloc x)):RW V s base w0 (ρ++[.row w.heap.size K]) (newOb σ o).2 (w.alloc x):=
 h.allocTo ((Below.refl _ _).alloc (Nat.le_refl _) x) (by simp) K o ho
theorem RW.allocView (h:RW V s base w0 ρ σ w) {t:Txt} {v:Value} (hv:bytesAt w v (den s t))
  (hlow:∀ b,(Bind.val v).block=some b→base≤b∧b < w.heap.size)
  (hap:∀ l o bd b,σ.heap.get l=some o→ρ[l]?=some bd→bd.block=some b→(Bind.val v).block=some b→o.isView=true):
  RW V s base w0 (ρ++[.val v]) (newOb σ (.view t)).2 w:=by
 have hget:∀ l o',(newOb σ (.view t)).2.heap.get l=some o'→(l=σ.next∧o'=.view t)∨(l≠σ.next∧σ.heap.get l=some o'):=by
  intro l o' hl
  simp only [newOb,Tr.get_put] at hl
  by_cases e:l=σ.next
  ·rw [if_pos e] at hl;exact .inl ⟨e,(Option.some.inj hl).symm⟩
  ·rw [if_neg e] at hl;exact .inr ⟨e,hl⟩
 have hold:∀ l o',σ.heap.get l=some o'→(ρ++[Bind.val v])[l]?=ρ[l]?:=fun l o' hl=>
  List.getElem?_append_left (by have:=h.fresh hl;have:=h.len;omega)
 have hnew:(ρ++[Bind.val v])[σ.next]?=some (.val v):=by
  rw [← h.len];simp
 refine { len:=by simp [newOb,h.len],ob:=?_,low:=?_,apart:=?_,below:=h.below,base_le:=h.base_le,tied:=h.tied }
 ·intro l o' hl
  rcases hget l o' hl with ⟨rfl,rfl⟩|⟨_,hl⟩
  ·exact ⟨_,hnew,⟨v,rfl,hv⟩⟩
  ·obtain ⟨bd,h1,h2⟩:=h.ob l o' hl
   exact ⟨bd,by rw [hold l o' hl];exact h1,h2.ext _⟩
 ·intro l o' bd b hl h1 hbb
  rcases hget l o' hl with ⟨rfl,rfl⟩|⟨_,hl⟩
  ·rw [hnew] at h1;cases h1;exact hlow b hbb
  ·rw [hold l o' hl] at h1
   exact h.low l o' bd b hl h1 hbb
 ·intro l l' o1 o2 bd bd' b hne hl hl' h1 h2 hb1 hb2
  rcases hget l o1 hl with ⟨rfl,rfl⟩|⟨e1,gl⟩
  ·rcases hget l' o2 hl' with ⟨rfl,rfl⟩|⟨e2,gl'⟩
   ·exact absurd rfl hne
   ·rw [hnew] at h1;cases h1
    rw [hold l' o2 gl'] at h2
    exact ⟨rfl,hap l' o2 bd' b gl' h2 hb2 hb1⟩
  ·rcases hget l' o2 hl' with ⟨rfl,rfl⟩|⟨e2,gl'⟩
   ·rw [hnew] at h2;cases h2
    rw [hold l o1 gl] at h1
    exact ⟨hap l o1 bd b gl h1 hb1 hb2,rfl⟩
   ·rw [hold l o1 gl] at h1;rw [hold l' o2 gl'] at h2
    exact h.apart l l' o1 o2 bd bd' b hne gl gl' h1 h2 hb1 hb2
theorem RW.upd (h:RW V s base w0 ρ σ w) {l:Nat} {o o':Ob} {bd:Bind} {b:Nat} {w':World} (hl:σ.heap.get l=some o) (hv:o.isView=false) (hv':o'.isView=false)
  (hbd:ρ[l]?=some bd) (hb:bd.block=some b) (hsz:w'.heap.size=w.heap.size) (hoth:∀ k,k≠b→w'.heap[k]?=w.heap[k]?)
  (hos:w'.os=w.os) (htape:w'.tape=w.tape) (hout:w'.output=w.output) (ho:ROb V s ρ o' bd w'):RW V s base w0 ρ (σ.set l o') w':=by
 obtain ⟨hb1,hb2⟩:=h.low l o bd b hl hbd hb
 have hget:∀ k x,(σ.set l o').heap.get k=some x→(k=l∧x=o')∨(k≠l∧σ.heap.get k=some x):=by
  intro k x hk
  simp only [St.set,Tr.get_put] at hk
  by_cases e:k=l
  ·rw [if_pos e] at hk;exact .inl ⟨e,(Option.some.inj hk).symm⟩
  ·rw [if_neg e] at hk;exact .inr ⟨e,hk⟩
 refine { len:=h.len,ob:=?_,low:=?_,apart:=?_,below:=?_,base_le:=by rw [hsz];exact h.base_le,tied:=h.tied }
 ·intro k x hk
  rcases hget k x hk with ⟨rfl,rfl⟩|⟨hne,hk⟩
  ·exact ⟨bd,hbd,ho⟩
  ·obtain ⟨bd',g1,g2⟩:=h.ob k x hk
   refine ⟨bd',g1,g2.congr fun b' hb'=>hoth b' fun e=>?_⟩
   subst e
   have:=(h.apart k l x o bd' bd b' hne hk hl g1 hbd hb' hb).2
   rw [hv] at this;cases this
 ·intro k x bd' b' hk g1 hb'
  rw [hsz]
  rcases hget k x hk with ⟨rfl,rfl⟩|⟨_,hk⟩
  ·exact h.low k o bd' b' hl g1 hb'
  ·exact h.low k x bd' b' hk g1 hb'
 ·intro k k' x x' bd1 bd2 b' hne hk hk' g1 g2 hb1 hb2
  have hx:∀ {k x},(σ.set l o').heap.get k=some x→∃ y,σ.heap.get k=some y∧(k=l→y=o∧x=o')∧(k≠l→y=x):=by
   intro k x hk
   rcases hget k x hk with ⟨rfl,rfl⟩|⟨hne,hk⟩
   ·exact ⟨o,hl,fun _=>⟨rfl,rfl⟩,fun h=>absurd rfl h⟩
   ·exact ⟨x,hk,fun e=>absurd e hne,fun _=>rfl⟩
  obtain ⟨y,hy,hy1,hy2⟩:=hx hk
  obtain ⟨y',hy',hy1',hy2'⟩:=hx hk'
  obtain ⟨r1,r2⟩:=h.apart k k' y y' bd1 bd2 b' hne hy hy' g1 g2 hb1 hb2
  have e1:k≠l:=fun e=>by rw [(hy1 e).1,hv] at r1;cases r1
  have e2:k'≠l:=fun e=>by rw [(hy1' e).1,hv] at r2;cases r2
  rw [hy2 e1] at r1;rw [hy2' e2] at r2
  exact ⟨r1,r2⟩
 ·exact h.below.trans ⟨hos,htape,hout,by rw [hsz];exact Nat.le_refl _,fun k hk=>hoth k (by omega)⟩
theorem RW.same (h:RW V s base w0 ρ σ w) {σ':St} (hn:σ'.next=σ.next) (hg:∀ l,σ'.heap.get l=σ.heap.get l):RW V s base w0 ρ σ' w:=
 {
  len:=by rw [hn];exact h.len
  ob:=fun l o hl=>h.ob l o (by rw [← hg];exact hl)
  low:=fun l o bd b hl=>h.low l o bd b (by rw [← hg];exact hl)
  apart:=fun l l' o o' bd bd' b hne hl hl'=>h.apart l l' o o' bd bd' b hne (by rw [← hg];exact hl) (by rw [← hg];exact hl')
  below:=h.below
  base_le:=h.base_le
  tied:=h.tied }
theorem RW.move (h:RW V s base w0 ρ σ w) {l:Nat} {o:Ob} {bd:Bind} (hl:σ.heap.get l=some o) (hb:ρ[l]?=some bd):
  RW V s base w0 (ρ++[bd]) (newOb (σ.del l) o).2 w:=by
 have hget:∀ k x,(newOb (σ.del l) o).2.heap.get k=some x→(k=σ.next∧x=o)∨(k≠σ.next∧k≠l∧σ.heap.get k=some x):=by
  intro k x hk
  simp only [newOb,St.del,Tr.get_put,Tr.get_del] at hk
  by_cases e:k=σ.next
  ·rw [if_pos e] at hk;exact .inl ⟨e,(Option.some.inj hk).symm⟩
  ·rw [if_neg e] at hk
   by_cases e2:k=l
   ·rw [if_pos e2] at hk;cases hk
   ·rw [if_neg e2] at hk;exact .inr ⟨e,e2,hk⟩
 have hold:∀ k x,σ.heap.get k=some x→(ρ++[bd])[k]?=ρ[k]?:=fun k x hk=>
  List.getElem?_append_left (by have:=h.fresh hk;have:=h.len;omega)
 have hnew:(ρ++[bd])[σ.next]?=some bd:=by
  rw [← h.len];simp
 obtain ⟨bd',q1,q2⟩:=h.ob l o hl
 rw [hb] at q1;cases q1
 refine { len:=by simp [newOb,St.del,h.len],ob:=?_,low:=?_,apart:=?_,below:=h.below,base_le:=h.base_le,tied:=h.tied }
 ·intro k x hk
  rcases hget k x hk with ⟨rfl,rfl⟩|⟨_,_,hk⟩
  ·exact ⟨_,hnew,q2.ext _⟩
  ·obtain ⟨bd',h1,h2⟩:=h.ob k x hk
   exact ⟨bd',by rw [hold k x hk];exact h1,h2.ext _⟩
 ·intro k x bd' b hk h1 hbb
  rcases hget k x hk with ⟨rfl,rfl⟩|⟨_,_,hk⟩
  ·rw [hnew] at h1;cases h1;exact h.low l x _ b hl hb hbb
  ·rw [hold k x hk] at h1
   exact h.low k x bd' b hk h1 hbb
 ·intro k k' x x' bd1 bd2 b hne hk hk' h1 h2 hb1 hb2
  rcases hget k x hk with ⟨rfl,rfl⟩|⟨e1,e1',gk⟩
  ·rcases hget k' x' hk' with ⟨rfl,rfl⟩|⟨e2,e2',gk'⟩
   ·exact absurd rfl hne
   ·rw [hnew] at h1;cases h1
    rw [hold k' x' gk'] at h2
    exact h.apart l k' x x' _ bd2 b (Ne.symm e2') hl gk' hb h2 hb1 hb2
  ·rcases hget k' x' hk' with ⟨rfl,rfl⟩|⟨e2,e2',gk'⟩
   ·rw [hnew] at h2;cases h2
    rw [hold k x gk] at h1
    exact h.apart k l x x' bd1 _ b e1' gk hl h1 hb hb1 hb2
   ·rw [hold k x gk] at h1;rw [hold k' x' gk'] at h2
    exact h.apart k k' x x' bd1 bd2 b hne gk gk' h1 h2 hb1 hb2
theorem RW.del (h:RW V s base w0 ρ σ w) (l:Nat):RW V s base w0 ρ (σ.del l) w:=by
 have hget:∀ k x,(σ.del l).heap.get k=some x→σ.heap.get k=some x:=by
  intro k x hk
  simp only [St.del,Tr.get_del] at hk
  by_cases e:k=l
  ·rw [if_pos e] at hk;cases hk
  ·rw [if_neg e] at hk;exact hk
 exact {
    len:=h.len,ob:=fun k x hk=>h.ob k x (hget k x hk),low:=fun k x bd b hk=>h.low k x bd b (hget k x hk),
    apart:=fun k k' x x' bd bd' b hne hk hk'=>h.apart k k' x x' bd bd' b hne (hget k x hk) (hget k' x' hk'),below:=h.below,base_le:=h.base_le,tied:=h.tied }
end Vx
set_option linter.unusedVariables false
set_option linter.unusedSimpArgs false
namespace Vx
open Go Go.RowKit
structure VP.Ok (V:VP) (P:Program) (s:Atoms):Prop where
 ty:∀ t i,V.ty.get t=some i→tyOf P t=some i
 fn:∀ f g,V.fn.get f=some g→P.funcs[f]?=some g∧(g.name == "runtime.NumGoroutine")=false
 facts:V.facts.Ok s
section
variable {V:VP} {P:Program} {s:Atoms}
theorem info_of (hV:V.Ok P s) {t:TypeId} {i:TI} (h:V.ty.get t=some i):P.info? t=some i.info∧P.underlying t=some i.und∧∃ z,i.info.zero=some z∧ofV z=some i.zv:=by
 have h:=hV.ty t i h
 unfold tyOf at h
 split at h
 ·cases h
 ·rename_i i0 h0
  have hi:P.info? t=some i0:=by
   unfold Tables.info?
   have:=(Array.getElem?_eq_some_iff.1 h0).1
   rw [if_pos this];exact h0
  split at h
  ·rename_i u z hu hz
   split at h
   ·rename_i z' hz'
    cases h
    refine ⟨hi,?_,z,hz,hz'⟩
    unfold Program.underlying
    rw [hi]
    cases hd:i0.desc with
    |named n u'=>
     rw [hd] at hu
     simp only at hu
     have h2:P.info? u'=some u:=by
      unfold Tables.info?
      have:=(Array.getElem?_eq_some_iff.1 hu).1
      rw [if_pos this];exact hu
     cases i0;simp only at hd;subst hd;simp [h2]
    |_=>rw [hd] at hu;simp only at hu;cases hu;cases i0;simp only at hd;subst hd;rfl
   ·cases h
  ·cases h
theorem run_isAgg' (hV:V.Ok P s) {t:TypeId} {i:TI} (h:V.ty.get t=some i) (w:World):(isAgg t).run P w=.ok (isAggD i.und) w:=by
 obtain ⟨_,h2,_⟩:=info_of hV h
 unfold isAgg
 simp only [Sem.run_bind,run_underlying h2,Result.andThen_ok]
 cases i.und <;> rfl
theorem run_sizeOf' (hV:V.Ok P s) {t:TypeId} {i:TI} (h:V.ty.get t=some i) (w:World):(Go.sizeOf t).run P w=.ok i.size w:=by
 obtain ⟨h1,_,_⟩:=info_of hV h
 simp [Go.sizeOf,typeInfo,h1,TI.size]
theorem run_und' (hV:V.Ok P s) {t:TypeId} {i:TI} (h:V.ty.get t=some i) (w:World):(underlying t).run P w=.ok i.und w:=run_underlying (info_of hV h).2.1 w
theorem run_zero' (hV:V.Ok P s) {t:TypeId} {i:TI} (h:V.ty.get t=some i):∃ z,(∀ w,(zeroValue t).run P w=.ok z w)∧ofV z=some i.zv∧i.info.zero=some z:=by
 obtain ⟨h1,_,z,h2,h3⟩:=info_of hV h
 exact ⟨z,fun w=>by simp [zeroValue,typeInfo,h1,h2],h3,h2⟩
theorem mkVar_ok {ρ:Rho} {d:TypeDesc} {cs:List LV} {v:LV} {vs:List Value} (h:mkVar d cs=some v) (hc:RVs s ρ cs vs):
  (isAggD d=true∧RV s ρ v (.agg vs.toArray))∨(isAggD d=false∧∃ x,vs=[x]∧RV s ρ v x):=by
 unfold mkVar at h
 cases hd:isAggD d with
 |true=>rw [hd] at h;simp at h;subst h;exact .inl ⟨rfl,vs.toArray,rfl,by simpa using hc⟩
 |false=>
  rw [hd] at h
  simp only [cond_false] at h
  split at h
  ·rename_i v'
   cases h
   obtain ⟨x,xs,h1,h2,h3⟩:=hc
   simp only [RVs] at h3
   subst h3;exact .inr ⟨rfl,x,h1,h2⟩
  ·cases h
theorem row_cell {w:World} {b:Nat} {c:Array Value} {e:TypeId} {fr:Nat×Nat} (h:w.heap[b]?=some (.cells c e fr)) (o:Nat):w.cell? ⟨b,o,none⟩=c[o]?:=by
 simp [World.cell?,h]
theorem addr_add (b o n:Nat):(⟨b,o,none⟩:Addr).add n=⟨b,o+n,none⟩:=by unfold Addr.add;split <;> simp_all
theorem stretch {ρ:Rho} {cs c:List LV} {a sp:Array Value} {off n:Nat} (hc:RVs s ρ cs a.toList) (h:sub cs off n=some c):
  ∃ vs:List Value,RVs s ρ c vs∧vs.length=n∧vs=(a.toList.drop off).take n∧(n=0∨off+n≤a.size)∧(∀ j v,vs[j]?=some v→(a++sp)[off+j]?=some v):=by
 obtain ⟨h1,h2⟩:=hc.sub h
 simp only [Array.length_toList] at h2
 refine ⟨_,h1,?_,rfl,h2,?_⟩
 ·simp;omega
 ·intro j v hj
  rw [List.getElem?_take] at hj
  split at hj
  ·rw [List.getElem?_drop] at hj
   have hlt:=(List.getElem?_eq_some_iff.1 hj).1
   simp only [Array.length_toList] at hlt
   rw [Array.getElem?_append_left hlt]
   simpa using hj
  ·cases hj
theorem row_of {base:Nat} {w0:World} {ρ:Rho} {σ:St} {w:World} (hw:RW V s base w0 ρ σ w) {l:Nat} {e:TypeId} {cs:List LV} {k:RK} (hl:σ.heap.get l=some (.row e cs k))
  {b K:Nat} (hb:ρ[l]?=some (.row b K)):∃ c sp fr,w.heap[b]?=some (.cells (c++sp) e fr)∧RVs s ρ cs c.toList ∧
   (k=.exact→sp=#[])∧k.frz fr (c++sp).size∧(∀ i,V.ty.get e=some i→K * i.size≤(c++sp).size):=by
 obtain ⟨bd,h1,h2⟩:=hw.ob l _ hl
 rw [hb] at h1;cases h1
 obtain ⟨b',K',c,sp,fr,h3,h4⟩:=h2
 cases h3
 exact ⟨c,sp,fr,h4⟩
theorem loadV_ok (hV:V.Ok P s) {base:Nat} {w0:World} {ρ:Rho} {σ:St} {w:World} (hw:RW V s base w0 ρ σ w) {t:TypeId} {p v:LV} {x:Value} (hp:RV s ρ p x) (h:loadV V σ t p=some v):
  ∃ a v',x=.pointer (some a)∧(loadVar t a).run P w=.ok v' w∧RV s ρ v v':=by
 unfold loadV at h
 split at h
 case h_2=>cases h
 rename_i l off
 split at h
 case h_2=>cases h
 rename_i i e cs k hi hl
 split at h
 case h_2=>cases h
 rename_i c hc
 obtain ⟨b,K,hb,rfl⟩:=hp
 obtain ⟨a,sp,fr,h1,h2,_⟩:=row_of hw hl hb
 obtain ⟨vs,g1,g2,_,_,g3⟩:=stretch (sp:=sp) h2 hc
 refine ⟨⟨b,off,none⟩,?_⟩
 rcases mkVar_ok h g1 with ⟨hd,hv⟩|⟨hd,x,rfl,hv⟩
 ·refine ⟨_,rfl,?_,hv⟩
  unfold loadVar
  have hload:=run_loadCells_list (P:=P) w ⟨b,off,none⟩ vs (fun j v hj=>by rw [addr_add,row_cell h1];exact g3 j v hj)
  rw [g2] at hload
  simp only [Sem.run_bind,run_isAgg' hV hi,hd,Result.andThen_ok,if_true,run_sizeOf' hV hi,hload,Sem.run_pure]
 ·refine ⟨_,rfl,?_,hv⟩
  unfold loadVar
  have hcell:w.cell? ⟨b,off,none⟩=some x:=by rw [row_cell h1];exact g3 0 x rfl
  simp [run_isAgg' hV hi,hd,hcell]
theorem allOne_ok {ρ:Rho}:∀ {l:List LV} {vs:List Value},RVs s ρ l vs→allOne l=true→∀ v∈vs,v.oneCell'=true
 |[],_,h,_=>by simp only [RVs] at h;subst h;simp
 |x::r,_,h,h1=>by
  obtain ⟨v,vs,rfl,h2,h3⟩:=h
  simp only [allOne,Bool.and_eq_true] at h1
  intro u hu
  rcases List.mem_cons.1 hu with rfl|hu
  ·have:=one_ok h2 h1.1
   cases u <;> first|rfl|exact absurd rfl (this.1 _)|exact absurd rfl (this.2 _)
  ·exact allOne_ok h3 h1.2 u hu
theorem plain_frz {k:RK} (h:k.plain=true) {fr:Nat×Nat} {n:Nat} (hf:k.frz fr n):fr=(0,0):=by
 cases k <;> first|exact hf|cases h
theorem RW.write {base:Nat} {w0:World} {ρ:Rho} {σ:St} {w:World} (hw:RW V s base w0 ρ σ w) {l:Nat} {e:TypeId} {cs cs':List LV} {k:RK} (hl:σ.heap.get l=some (.row e cs k))
  (hk:k.plain=true) {b K:Nat} (hb:ρ[l]?=some (.row b K)) {off:Nat} {nv:List LV} {vs:List Value} (hvs:RVs s ρ nv vs) (h1:allOne nv=true) (ho:over cs off nv=some cs'):
  ∃ w',(storeCells ⟨b,off,none⟩ vs).run P w=.ok () w'∧RW V s base w0 ρ (σ.set l (.row e cs' k)) w':=by
 obtain ⟨c,sp,fr,g1,g2,g3,g4,g5⟩:=row_of hw hl hb
 have hfr:=plain_frz hk g4
 subst hfr
 obtain ⟨o1,o2⟩:=g2.over hvs ho
 simp only [Array.length_toList] at o2
 have hst:=run_storeCells_at P b off e vs 0 (c++sp) w g1 (by simp;omega) (allOne_ok hvs h1)
 refine ⟨_,hst,?_⟩
 have hsz:∀ x:Array Value,(w.setRow b x).heap.size=w.heap.size:=fun x=>setRow_size w b x
 have e1:((c++sp).toList.take (off+0)++vs++(c++sp).toList.drop (off+0+vs.length)).toArray=(c.toList.take off++vs++c.toList.drop (off+vs.length)).toArray++sp:=by
  apply Array.ext'
  simp only [Nat.add_zero,Array.toList_append]
  rw [List.take_append_of_le_length (by simp;omega),List.drop_append_of_le_length (by simp;omega)]
  simp
 rw [e1]
 refine hw.upd (bd:=.row b K) (b:=b) hl rfl rfl hb rfl (hsz _) (fun j hj=>setRow_other w b j _ hj) rfl rfl rfl ?_
 refine ⟨b,K,_,sp,(0,0),rfl,setRow_heap w b _ _ e (0,0) g1,?_,g3,?_,?_⟩
 ·simpa using o1
 ·cases k <;> first|rfl|exact .inl rfl
 ·intro i hi
  have:=g5 i hi
  simp at this ⊢
  omega
theorem storeV_ok (hV:V.Ok P s) {base:Nat} {w0:World} {ρ:Rho} {σ σ':St} {w:World} (hw:RW V s base w0 ρ σ w) {t:TypeId} {p v:LV} {x y:Value} (hp:RV s ρ p x) (hv:RV s ρ v y)
  (h:storeV V σ t p v=some σ'):∃ a w',x=.pointer (some a)∧(storeVar t a y).run P w=.ok () w'∧RW V s base w0 ρ σ' w':=by
 unfold storeV at h
 split at h
 case h_2=>cases h
 rename_i l off
 split at h
 case h_2=>cases h
 rename_i i e cs k hi hl
 cases hc:(Nat.beq v.cells.length i.size&&allOne v.cells&&k.plain) with
 |false=>rw [hc] at h;cases h
 |true=>
  rw [hc] at h
  simp only [Bool.and_eq_true] at hc
  obtain ⟨⟨c1,c2⟩,c3⟩:=hc
  simp only [cond_true] at h
  split at h
  case h_2=>cases h
  rename_i cs' hcs
  cases h
  obtain ⟨b,K,hb,rfl⟩:=hp
  have hcells:=cells_ok hv
  obtain ⟨w',r1,r2⟩:=RW.write (P:=P) hw hl c3 hb hcells c2 hcs
  refine ⟨_,w',rfl,?_,r2⟩
  unfold storeVar
  have hlen:y.cells.size=i.size:=by
   have:=hcells.length
   simp at this
   rw [this];exact Nat.eq_of_beq_eq_true c1
  simp [run_sizeOf' hV hi,hlen,r1]
theorem RW.newRow {base:Nat} {w0:World} {ρ:Rho} {σ:St} {w:World} (hw:RW V s base w0 ρ σ w) {e:TypeId} {cs:List LV} {k:RK} {c sp:Array Value} (K:Nat)
  (hc:RVs s ρ cs c.toList) (hx:k=.exact→sp=#[]) (hK:∀ i,V.ty.get e=some i→K * i.size≤(c++sp).size):
  RW V s base w0 (ρ++[.row w.heap.size K]) (newOb σ (.row e cs k)).2 (w.alloc (.cells (c++sp) e)):=by
 refine hw.alloc _ K _ ⟨_,K,c,sp,(0,0),rfl,?_,hc,hx,?_,hK⟩
 ·simp [World.alloc,-World.alloc_eq]
 ·cases k <;> first|rfl|exact .inl rfl
theorem new_ptr {ρ:Rho} {σ:St} {n K:Nat} (hl:ρ.length=σ.next) (o:Ob):RV s (ρ++[.row n K]) (.ptr (newOb σ o).1 0) (.pointer (some ⟨n,0,none⟩)):=
 ⟨n,K,by simp [newOb,← hl],rfl⟩
theorem new_slice {ρ:Rho} {σ:St} {n K esz len:Nat} (hl:ρ.length=σ.next) (hle:len≤K) (o:Ob):RV s (ρ++[.row n K]) (.slice (newOb σ o).1 0 esz len) (.slice (some ⟨n,0,none⟩) len K):=
 ⟨n,K,by simp [newOb,← hl],by omega,by simp⟩
theorem foldl_set (off:Nat):∀ (vs:List Value) (k:Nat) (arr:Array Value),off+k+vs.length≤arr.size →
  (vs.zipIdx k).foldl (fun cs (x:Value×Nat)=>cs.setIfInBounds (off+x.2) x.1) arr=(arr.toList.take (off+k)++vs++arr.toList.drop (off+k+vs.length)).toArray
 |[],k,arr,_=>by simp
 |v::r,k,arr,h=>by
  simp only [List.length_cons] at h
  rw [List.zipIdx_cons,List.foldl_cons,foldl_set off r (k+1) _ (by simp;omega)]
  apply Array.ext'
  have:=list_seg_step arr.toList (off+k) v r (by simp;omega)
  simpa [Array.toList_setIfInBounds,Nat.add_assoc] using this
theorem fill_ok {ρ:Rho} {placeL:Nat→Option (Nat×Nat)} {place:Nat→Option (Nat×Nat)} (hpl:∀ k x,placeL k=some x→place k=some x):
  ∀ {ps:List (Nat×LV)} {qs:List (Nat×Value)} {cells out:List LV} {c:Array Value},RVs s ρ (ps.map (·.2)) (qs.map (·.2))→ps.map (·.1)=qs.map (·.1)→RVs s ρ cells c.toList →
   fillL placeL cells ps=some out→∃ c',Instr.fill place c qs=some c'∧RVs s ρ out c'.toList∧c'.size=c.size
 |[],qs,cells,out,c,h1,h2,hc,h=>by
  cases qs with
  |nil=>simp only [fillL,Option.some.injEq] at h;subst h;exact ⟨c,rfl,hc,rfl⟩
  |cons q qs=>simp at h2
 |(i,v)::ps,qs,cells,out,c,h1,h2,hc,h=>by
  cases qs with
  |nil=>simp at h2
  |cons q qs=>
   obtain ⟨j,u⟩:=q
   simp only [List.map_cons,List.cons.injEq] at h2
   obtain ⟨rfl,h2⟩:=h2
   obtain ⟨x,xs,e1,r1,r2⟩:=h1
   simp only [List.map_cons,List.cons.injEq] at e1
   obtain ⟨rfl,rfl⟩:=e1
   simp only [fillL] at h
   split at h
   ·cases h
   ·rename_i off size hp
    cases hb:Nat.beq v.cells.length size with
    |false=>rw [hb] at h;cases h
    |true=>
     rw [hb] at h;simp only [cond_true] at h
     split at h
     case h_2=>cases h
     rename_i cs' hcs
     have hce:=cells_ok r1
     obtain ⟨o1,o2⟩:=hc.over hce hcs
     have hl:=hce.length
     simp only [Array.length_toList] at hl o1 o2
     have hsz:v.cells.length=size:=Nat.eq_of_beq_eq_true hb
     obtain ⟨c',g1,g2,g3⟩:=fill_ok (c:=(c.toList.take off++u.cells.toList++c.toList.drop (off+u.cells.size)).toArray) hpl r2 h2 (by simpa using o1) h
     refine ⟨c',?_,g2,by rw [g3];simp;omega⟩
     simp only [Instr.fill,hpl _ _ hp]
     rw [if_neg (by simp;omega)]
     rw [← g1]
     congr 1
     have:=foldl_set off u.cells.toList 0 c (by simpa using o2)
     simp only [Nat.add_zero,Array.length_toList] at this
     rw [← this]
     simp only [← Array.toList_zipIdx,Array.foldl_toList]
end
end Vx
set_option linter.unusedVariables false
set_option linter.unusedSimpArgs false
namespace Vx
open Go Go.RowKit
section
variable {V:VP} {P:Program} {s:Atoms}
theorem beqB (a b:ByteArray):(a==b)=decide (a.data.toList=b.data.toList):=by
 have:(a==b)=(a.data==b.data):=rfl
 rw [this]
 by_cases h:a.data.toList=b.data.toList
 ·have:=Array.ext' h;simp [this]
 ·have h2:a.data≠b.data:=fun e=>h (by rw [e])
  simpa [h] using h2
theorem kindBeq_ok {a b:IntKind} (h:kindBeq a b=true):a=b:=by cases a <;> cases b <;> first|rfl|cases h
theorem textAt_ok {base:Nat} {w0:World} {ρ:Rho} {σ:St} {w:World} (hw:RW V s base w0 ρ σ w) {l:Nat} {t t':Txt} {x:Value} (hl:textAt σ l=some t') (hx:RV s ρ (.bsl l t) x):
  bytesAt w x (den s t'):=by
 obtain ⟨h1,_⟩:=hx
 unfold textAt at hl
 split at hl
 ·rename_i t0 ho
  cases hl
  obtain ⟨bd,g1,g2⟩:=hw.ob l _ ho
  rw [h1] at g1;cases g1
  obtain ⟨v,e,h⟩:=g2;cases e;exact h
 ·rename_i t0 ho
  cases hl
  obtain ⟨bd,g1,g2⟩:=hw.ob l _ ho
  rw [h1] at g1;cases g1
  obtain ⟨b,cap,cs,e,q1,q2,q3,q4,q5,q6⟩:=g2
  cases e
  exact .inr ⟨b,0,cap,cs,V.bty,(0,0),rfl,q1,q3,fun k hk=>by rw [Nat.zero_add];exact q6 k hk⟩
 ·cases hl
theorem eqV_ok (hV:V.Ok P s) {base:Nat} {w0:World} {ρ:Rho} {σ:St} {w:World} (hw:RW V s base w0 ρ σ w):∀ (d D:Nat) (t:TypeId) (x y:LV) (a b:Value) (r:Bool),d≤D→RV s ρ x a→RV s ρ y b →
  eqV V σ d t x y=some r→(Op.equalIn D t a b).run P w=.ok r w
 |0,_,_,_,_,_,_,_,_,_,_,h=>by simp [eqV] at h
 |d+1,0,_,_,_,_,_,_,hd,_,_,_=>by omega
 |d+1,D+1,t,x,y,a,b,r,hd,ha,hb,h=>by
  simp only [eqV] at h
  split at h
  ·cases h
  rename_i i hi
  have hu:=run_und' hV hi w
  split at h
  ·rename_i heq;simp only [RV] at ha hb;subst ha hb;cases h
   simp [Op.equalIn,hu,heq]
  ·rename_i k' k a' k2 b' heq
   simp only [RV] at ha hb;subst ha hb
   cases hk:kindBeq k k2 with
   |false=>rw [hk] at h;cases h
   |true=>
    rw [hk] at h;simp only [cond_true,Option.some.injEq] at h
    have:=kindBeq_ok hk;subst this;subst h
    simp [Op.equalIn,hu,heq]
  ·rename_i k' tx n heq
   simp only [RV] at ha hb;subst ha hb
   cases hn:decide (n=0) with
   |false=>rw [hn] at h;cases h
   |true=>
    rw [hn] at h;simp only [cond_true] at h
    have:=of_decide_eq_true hn;subst this
    have he:=empty?_ok hV.facts h
    simp only [Op.equalIn,hu,heq,Sem.run_bind,Result.andThen_ok]
    subst he
    cases den s tx <;> simp <;> omega
  ·rename_i ta tb heq
   obtain ⟨xa,rfl,hxa⟩:=ha
   obtain ⟨xb,rfl,hxb⟩:=hb
   have he:=eq?_ok hV.facts h
   simp only [Op.equalIn,hu,heq,Sem.run_bind,Result.andThen_ok,Sem.run_pure]
   rw [beqB,hxa,hxb,he]
  ·rename_i heq;simp only [RV] at ha hb;subst ha hb;cases h
   simp [Op.equalIn,hu,heq]
  ·rename_i l o heq;obtain ⟨_,_,_,rfl⟩:=hb;simp only [RV] at ha;subst ha;cases h
   simp [Op.equalIn,hu,heq]
  ·rename_i l o heq;obtain ⟨_,_,_,rfl⟩:=ha;simp only [RV] at hb;subst hb;cases h
   simp [Op.equalIn,hu,heq]
  ·rename_i e l o l' o' heq
   obtain ⟨b1,K1,h1,rfl⟩:=ha
   obtain ⟨b2,K2,h2,rfl⟩:=hb
   unfold sizeT at h
   split at h
   case h_2=>cases h
   rename_i n hn
   split at hn
   case h_2=>cases hn
   rename_i j hj
   simp only [Option.some.injEq] at hn
   have hsz:=run_sizeOf' hV hj w
   have hne:j.size≠0:=by omega
   have hgo:∀ p q:Addr,(Op.equalIn (D+1) t (.pointer (some p)) (.pointer (some q))).run P w=(sameAddr p q).run P w:=by
    intro p q
    simp [Op.equalIn,hu,heq,hsz,hne]
   rw [hgo]
   cases hl:Nat.beq l l' with
   |true=>
    rw [hl] at h;simp only [cond_true,Option.some.injEq] at h
    have:=Nat.eq_of_beq_eq_true hl;subst this
    rw [h1] at h2;cases h2
    by_cases ho:o=o'
    ·subst ho
     have:r=true:=by rw [← h];exact Nat.beq_refl o
     subst this
     exact run_sameAddr_same _ _
    ·have:r=false:=by
      rw [← h]
      cases hb:Nat.beq o o' with
      |true=>exact absurd (Nat.eq_of_beq_eq_true hb) ho
      |false=>rfl
     subst this
     simp [sameAddr,ho]
   |false=>
    rw [hl] at h;simp only [cond_false] at h
    split at h
    case h_2=>cases h
    rename_i e1 c1 k1 e2 c2 k2 g1 g2
    cases hk:(k1.plain&&k2.plain) with
    |false=>rw [hk] at h;cases h
    |true=>
     rw [hk] at h;simp only [cond_true,Option.some.injEq] at h;subst h
     simp only [Bool.and_eq_true] at hk
     obtain ⟨q1,sp1,fr1,r1,_,_,f1,_⟩:=row_of hw g1 h1
     obtain ⟨q2,sp2,fr2,r2,_,_,f2,_⟩:=row_of hw g2 h2
     have:=plain_frz hk.1 f1;subst this
     have:=plain_frz hk.2 f2;subst this
     have hb:b1≠b2:=by
      intro e;subst e
      have:=(hw.apart l l' _ _ _ _ b1 (Nat.ne_of_beq_eq_false hl) g1 g2 h1 h2 rfl rfl).1
      cases this
     exact run_sameAddr_other w (by simp [hb]) r1 r2
  ·rename_i heq;simp only [RV] at ha hb;subst ha hb;cases h
   simp [Op.equalIn,hu,heq]
  ·rename_i heq;obtain ⟨_,rfl,_⟩:=hb;simp only [RV] at ha;subst ha;cases h
   simp [Op.equalIn,hu,heq]
  ·rename_i heq;obtain ⟨_,rfl,_⟩:=ha;simp only [RV] at hb;subst hb;cases h
   simp [Op.equalIn,hu,heq]
  ·rename_i t1 v1 t2 v2 heq
   obtain ⟨a',rfl,ha⟩:=ha
   obtain ⟨b',rfl,hb⟩:=hb
   cases ht:Nat.beq t1 t2 with
   |false=>
    rw [ht] at h;simp only [cond_false,Option.some.injEq] at h;subst h
    have:=Nat.ne_of_beq_eq_false ht
    simp [Op.equalIn,hu,heq,this]
   |true=>
    rw [ht] at h;simp only [cond_true] at h
    have:=Nat.eq_of_beq_eq_true ht;subst this
    split at h
    case h_2=>cases h
    rename_i j hj
    cases hc:j.info.comparable with
    |false=>rw [hc] at h;cases h
    |true=>
     rw [hc] at h;simp only [cond_true] at h
     have hrec:=eqV_ok hV hw d D t1 v1 v2 a' b' r (by omega) ha hb h
     have hti:=(info_of hV hj).1
     simp [Op.equalIn,hu,heq,typeInfo,hti,hc,hrec]
  ·rename_i heq;simp only [RV] at ha hb;subst ha hb;cases h
   simp [Op.equalIn,hu,heq]
  ·rename_i heq;obtain ⟨_,_,_,_,rfl⟩:=hb;simp only [RV] at ha;subst ha;cases h
   simp [Op.equalIn,hu,heq]
  ·rename_i heq;obtain ⟨_,_,_,_,rfl⟩:=ha;simp only [RV] at hb;subst hb;cases h
   simp [Op.equalIn,hu,heq]
  ·rename_i l tx heq
   split at h
   case h_2=>cases h
   rename_i u hu2
   split at h
   case h_2=>cases h
   rename_i he
   simp only [RV] at hb;subst hb;cases h
   have hne:=empty?_ok hV.facts he
   rcases textAt_ok hw hu2 ha with ⟨h0,_⟩|⟨b',o,c,cs,e,fr,rfl,_⟩
   ·rw [h0] at hne;cases hne
   ·simp [Op.equalIn,hu,heq]
  ·rename_i heq;simp only [RV] at ha hb;subst ha hb;cases h
   simp [Op.equalIn,hu,heq]
  ·rename_i heq;obtain ⟨_,_,_,rfl⟩:=hb;simp only [RV] at ha;subst ha;cases h
   simp [Op.equalIn,hu,heq]
  ·rename_i heq;obtain ⟨_,_,_,rfl⟩:=ha;simp only [RV] at hb;subst hb;cases h
   simp [Op.equalIn,hu,heq]
  ·rename_i heq;simp only [RV] at ha hb;subst ha hb;cases h
   simp [Op.equalIn,hu,heq]
  ·rename_i heq;obtain ⟨_,_,rfl,_⟩:=hb;simp only [RV] at ha;subst ha;cases h
   simp [Op.equalIn,hu,heq]
  ·rename_i heq;obtain ⟨_,_,rfl,_⟩:=ha;simp only [RV] at hb;subst hb;cases h
   simp [Op.equalIn,hu,heq]
  ·cases h
theorem clo_ok {ρ:Rho} {x:LV} {a b:Value} (h:clo x=some a) (hx:RV s ρ x b):b=a:=by
 cases x <;> simp only [clo] at h <;> first|cases h|skip
 ·exact hx
 ·exact hx
 ·split at h
  ·rename_i t c hc
   cases h
   obtain ⟨c',rfl,e⟩:=hx
   rw [den_lit hc] at e
   congr 1
   cases c';simp only [ByteArray.mk.injEq];exact Array.ext' (by simpa using e)
  ·cases h
theorem pureSem_ok {ρ:Rho} {m:Sem Value} {x:LV} (h:pureSem m=some x):∃ v,(∀ w,m.run P w=.ok v w)∧RV s ρ x v:=by
 unfold pureSem at h
 split at h
 ·exact ⟨_,fun w=>rfl,ofV_ok h⟩
 ·cases h
theorem eqGuard_ok (hV:V.Ok P s) {ρ:Rho} {op:BinOp} {t:TypeId} {xo yo:Operand} {x y:LV} {a b:Value} (ha:RV s ρ x a) (hb:RV s ρ y b) (h:eqOk V t (isConstO xo||isConstO yo) x y=true) (w:World):
  (eqGuard op t xo yo a b).run P w=.ok () w:=by
 have core:(eqGuard .eql t xo yo a b).run P w=.ok () w:=by
  unfold eqGuard
  rw [if_neg (by simp)]
  split
  ·
   have hx:x=.nili:=by
    cases x <;> simp only [RV] at ha <;> first|rfl|(cases ha;done)|(obtain ⟨_,ha,_⟩:=ha;cases ha;done)|(obtain ⟨_,_,ha,_⟩:=ha;cases ha;done)|(obtain ⟨_,_,_,ha⟩:=ha;cases ha;done)|(obtain ⟨_,_,_,_,ha⟩:=ha;cases ha;done)|(obtain ⟨_,_,_,_,ha,_⟩:=ha;cases ha;done)
   have hy:y=.nili:=by
    cases y <;> simp only [RV] at hb <;> first|rfl|(cases hb;done)|(obtain ⟨_,hb,_⟩:=hb;cases hb;done)|(obtain ⟨_,_,hb,_⟩:=hb;cases hb;done)|(obtain ⟨_,_,_,hb⟩:=hb;cases hb;done)|(obtain ⟨_,_,_,_,hb⟩:=hb;cases hb;done)|(obtain ⟨_,_,_,_,hb,_⟩:=hb;cases hb;done)
   subst hx hy
   simp only [eqOk] at h
   cases hcst:(isConstO xo||isConstO yo) with
   |true=>cases xo <;> cases yo <;> first|rfl|cases hcst
   |false=>
    rw [hcst,Bool.false_or] at h
    have hgo:(Op.eqGuardIn Op.maxDepth t .nilIface .nilIface).run P w=.ok false w:=by
     split at h
     case h_2=>cases h
     rename_i i hi
     split at h
     case h_2=>cases h
     rename_i ms hms
     have hu:=run_und' hV hi w
     rw [hms] at hu
     have:ms=#[]:=by simpa using h
     subst this
     have hd:∀ d:Nat,(Op.eqGuardIn (d+1) t .nilIface .nilIface).run P w=.ok false w:=fun d=>by simp [Op.eqGuardIn,hu]
     exact hd 9999
    cases xo <;> cases yo <;> first|(cases hcst;done)|(simp only [Sem.run_bind,hgo,Result.andThen_ok,Bool.false_eq_true,if_false,Bool.or_self,Sem.run_pure])
  ·
   rename_i c1 c2
   have hx:∃ cs,x=.agg cs:=by
    cases x <;> simp only [RV] at ha <;> first|exact ⟨_,rfl⟩|(cases ha;done)|(obtain ⟨_,ha,_⟩:=ha;cases ha;done)|(obtain ⟨_,_,ha,_⟩:=ha;cases ha;done)|(obtain ⟨_,_,_,ha⟩:=ha;cases ha;done)|(obtain ⟨_,_,_,_,ha⟩:=ha;cases ha;done)|(obtain ⟨_,_,_,_,ha,_⟩:=ha;cases ha;done)
   obtain ⟨cs,rfl⟩:=hx
   simp only [eqOk] at h
   cases y <;> cases h
  ·rfl
 cases op <;> first|rfl|exact core
theorem binL_ok (hV:V.Ok P s) {base:Nat} {w0:World} {ρ:Rho} {σ:St} {w:World} (hw:RW V s base w0 ρ σ w) {op:BinOp} {t:TypeId} {xo yo:Operand} {x y r:LV} {a b:Value} (ha:RV s ρ x a) (hb:RV s ρ y b)
  (h:binL V σ op t (isConstO xo||isConstO yo) x y=some r):∃ v,(do eqGuard op t xo yo a b;binOp op t a b:Sem Value).run P w=.ok v w∧RV s ρ r v:=by
 have key:∀ e:Bool,eqV V σ 50 t x y=some e→(binOp .eql t a b).run P w=.ok (.bool e) w∧(binOp .neq t a b).run P w=.ok (.bool (!e)) w:=by
  intro e he
  have h0:=eqV_ok hV hw 50 10000 t x y a b e (by omega) ha hb he
  have hq:(Op.equal t a b).run P w=.ok e w:=h0
  have plain1:(do pure (Value.bool (← Op.equal t a b)):Sem Value).run P w=.ok (.bool e) w:=by simp [hq]
  have plain2:(do pure (Value.bool (!(← Op.equal t a b))):Sem Value).run P w=.ok (.bool (!e)) w:=by simp [hq]
  change eqV V σ (49+1) t x y=some e at he
  rw [eqV] at he
  split at he
  ·cases he
  rename_i i hi
  split at he <;> first|(cases he;done)|skip
  ·rename_i heq;simp only [RV] at ha hb;subst ha hb;exact ⟨plain1,plain2⟩
  ·rename_i k' k a' k2 b' heq
   simp only [RV] at ha hb;subst ha hb
   cases hk:kindBeq k k2 with
   |false=>rw [hk] at he;cases he
   |true=>
    rw [hk] at he;simp only [cond_true,Option.some.injEq] at he
    have:=kindBeq_ok hk;subst this;subst he
    simp [binOp,Op.intCmp]
    rfl
  ·rename_i k' tx n heq
   simp only [RV] at ha hb;subst ha hb
   have hu:=run_und' hV hi w
   have hd:∀ d:Nat,(Op.equalIn (d+1) t (.int .i64 (den s tx).length) (.int .i64 n)).run P w=.ok (((den s tx).length:Int)==n) w:=fun d=>by simp [Op.equalIn,hu,heq]
   have h1:=(hd 9999).symm.trans h0
   simp only [Result.ok.injEq,and_true] at h1
   rw [binOp_eql,binOp_neq,← h1]
   exact ⟨rfl,rfl⟩
  ·rename_i ta tb heq
   obtain ⟨xa,rfl,hxa⟩:=ha
   obtain ⟨xb,rfl,hxb⟩:=hb
   have e1:=eq?_ok hV.facts he
   have e2:(xa.toList==xb.toList)=e:=by
    rw [ByteArray.toList_eq,ByteArray.toList_eq,hxa,hxb,← e1]
    by_cases q:den s ta=den s tb <;> simp [q]
   rw [binOp_string_eql,binOp_string_neq,e2]
   exact ⟨rfl,rfl⟩
  ·simp only [RV] at ha hb;subst ha hb;exact ⟨plain1,plain2⟩
  ·obtain ⟨_,_,_,rfl⟩:=hb;simp only [RV] at ha;subst ha;exact ⟨plain1,plain2⟩
  ·obtain ⟨_,_,_,rfl⟩:=ha;simp only [RV] at hb;subst hb;exact ⟨plain1,plain2⟩
  ·obtain ⟨_,_,_,rfl⟩:=ha;obtain ⟨_,_,_,rfl⟩:=hb;exact ⟨plain1,plain2⟩
  ·simp only [RV] at ha hb;subst ha hb;exact ⟨plain1,plain2⟩
  ·obtain ⟨_,rfl,_⟩:=hb;simp only [RV] at ha;subst ha;exact ⟨plain1,plain2⟩
  ·obtain ⟨_,rfl,_⟩:=ha;simp only [RV] at hb;subst hb;exact ⟨plain1,plain2⟩
  ·obtain ⟨_,rfl,_⟩:=ha;obtain ⟨_,rfl,_⟩:=hb;exact ⟨plain1,plain2⟩
  ·simp only [RV] at ha hb;subst ha hb;exact ⟨plain1,plain2⟩
  ·obtain ⟨_,_,_,_,rfl⟩:=hb;simp only [RV] at ha;subst ha;exact ⟨plain1,plain2⟩
  ·obtain ⟨_,_,_,_,rfl⟩:=ha;simp only [RV] at hb;subst hb;exact ⟨plain1,plain2⟩
  ·obtain ⟨_,_,_,_,rfl,_⟩:=ha;simp only [RV] at hb;subst hb;exact ⟨plain1,plain2⟩
  ·simp only [RV] at ha hb;subst ha hb;exact ⟨plain1,plain2⟩
  ·obtain ⟨_,_,_,rfl⟩:=hb;simp only [RV] at ha;subst ha;exact ⟨plain1,plain2⟩
  ·obtain ⟨_,_,_,rfl⟩:=ha;simp only [RV] at hb;subst hb;exact ⟨plain1,plain2⟩
  ·simp only [RV] at ha hb;subst ha hb;exact ⟨plain1,plain2⟩
  ·obtain ⟨_,_,rfl,_⟩:=hb;simp only [RV] at ha;subst ha;exact ⟨plain1,plain2⟩
  ·obtain ⟨_,_,rfl,_⟩:=ha;simp only [RV] at hb;subst hb;exact ⟨plain1,plain2⟩
 have noguard:op≠.eql→op≠.neq→eqGuard op t xo yo a b=pure ():=by
  intro h1 h2
  unfold eqGuard
  cases op <;> first|rfl|exact absurd rfl h1|exact absurd rfl h2
 have closed:∀ a' b':Value,clo x=some a'→clo y=some b'→pureSem (binOp op t a' b')=some r→∃ v,(binOp op t a b).run P w=.ok v w∧RV s ρ r v:=by
  intro a' b' h1 h2 h3
  rw [clo_ok h1 ha,clo_ok h2 hb]
  obtain ⟨v,g1,g2⟩:=pureSem_ok (P:=P) (ρ:=ρ) h3
  exact ⟨v,g1 w,g2⟩
 unfold binL at h
 split at h
 ·cases hg:eqOk V t (isConstO xo||isConstO yo) x y with
  |false=>rw [hg] at h;cases h
  |true=>
   rw [hg] at h;simp only [cond_true] at h
   split at h
   case h_2=>cases h
   rename_i e he
   cases h
   exact ⟨_,by rw [Sem.run_bind,eqGuard_ok hV ha hb hg w];exact (key e he).1,rfl⟩
 ·cases hg:eqOk V t (isConstO xo||isConstO yo) x y with
  |false=>rw [hg] at h;cases h
  |true=>
   rw [hg] at h;simp only [cond_true] at h
   split at h
   case h_2=>cases h
   rename_i e he
   cases h
   exact ⟨_,by rw [Sem.run_bind,eqGuard_ok hV ha hb hg w];exact (key e he).2,rfl⟩
 ·rename_i n1 n2
  rw [noguard n1 n2,Sem.run_bind,Sem.run_pure,Result.andThen_ok]
  split at h
  ·rename_i ta tb
   obtain ⟨xa,rfl,hxa⟩:=ha
   obtain ⟨xb,rfl,hxb⟩:=hb
   cases hle:Nat.ble (Txt.bnd V.facts ta+Txt.bnd V.facts tb) 9223372036854775807 with
   |false=>rw [hle] at h;cases h
   |true=>
    rw [hle] at h;simp only [cond_true,Option.some.injEq] at h;subst h
    have hle:=Nat.le_of_ble_eq_true hle
    have l1:=bnd_ok hV.facts ta
    have l2:=bnd_ok hV.facts tb
    have s1:xa.size=(den s ta).length:=by rw [← hxa];rfl
    have s2:xb.size=(den s tb).length:=by rw [← hxb];rfl
    refine ⟨.string (xa++xb),?_,xa++xb,rfl,?_⟩
    ·rw [binOp_string_add];exact run_string_add_sum w xa xb (by omega)
    ·rw [den_cat,← hxa,← hxb];simp
  ·rename_i tx n
   simp only [RV] at ha hb;subst ha hb
   have l1:=bnd_ok hV.facts tx
   cases hle:decide (((Txt.bnd V.facts tx:Nat):Int)≤n) with
   |true=>
    rw [hle] at h;simp only [cond_true,Option.some.injEq] at h;subst h
    have:=of_decide_eq_true hle
    refine ⟨_,by rw [binOp_gtr];rfl,?_⟩
    simp only [RV,Value.bool.injEq]
    simp;omega
   |false=>
    rw [hle] at h;simp only [cond_false] at h
    cases hn:decide (n=0) with
    |false=>rw [hn] at h;cases h
    |true=>
     rw [hn] at h;simp only [cond_true] at h
     have:=of_decide_eq_true hn;subst this
     split at h
     case h_2=>cases h
     rename_i e he
     cases h
     have he:=empty?_ok hV.facts he
     refine ⟨_,by rw [binOp_gtr];rfl,?_⟩
     simp only [RV,Value.bool.injEq]
     subst he
     cases den s tx <;> simp <;> omega
  ·rename_i n tx
   simp only [RV] at ha hb;subst ha hb
   cases hn:decide (n=0) with
   |false=>rw [hn] at h;cases h
   |true=>
    rw [hn] at h;simp only [cond_true] at h
    have:=of_decide_eq_true hn;subst this
    split at h
    case h_2=>cases h
    rename_i e he
    cases h
    have he:=empty?_ok hV.facts he
    refine ⟨_,by rw [binOp_lss];rfl,?_⟩
    simp only [RV,Value.bool.injEq]
    subst he
    cases den s tx <;> simp <;> omega
  ·split at h
   case h_2=>cases h
   rename_i a' b' h1 h2
   exact closed a' b' h1 h2 h
end
end Vx
namespace Vx
open Go Go.RowKit
section
variable {V:VP} {P:Program} {s:Atoms}
def RPl (s:Atoms) (ρ:Rho):Pl→Place→Prop
 |.val v,.val x=>RV s ρ v x
 |.var p,.var a=>RV s ρ p (.pointer (some a))
 |_,_=>False
theorem plGet_ok (hV:V.Ok P s) {base:Nat} {w0:World} {ρ:Rho} {σ:St} {w:World} (hw:RW V s base w0 ρ σ w) {t:TypeId} {p:Pl} {q:Place} {v:LV} (hp:RPl s ρ p q) (h:p.get V σ t=some v):
  ∃ x,(q.get t).run P w=.ok x w∧RV s ρ v x:=by
 cases p <;> cases q <;> simp only [RPl] at hp
 ·simp only [Pl.get,Option.some.injEq] at h;subst h;exact ⟨_,rfl,hp⟩
 ·simp only [Pl.get] at h
  obtain ⟨a,x,e,h1,h2⟩:=loadV_ok hV hw hp h
  cases e
  exact ⟨x,h1,h2⟩
theorem fieldP_ok (hV:V.Ok P s) {ρ:Rho} (w:World) {p q:LV} {f:Field} {a:Addr} (hp:RV s ρ p (.pointer (some a))) (h:fieldP V p f=some q):
  ∃ b,(fieldPlace a f).run P w=.ok b w∧RV s ρ q (.pointer (some b)):=by
 unfold fieldP at h
 split at h
 case h_2=>cases h
 rename_i l off
 split at h
 case h_2=>cases h
 rename_i n hn
 cases h
 obtain ⟨b,K,hb,e⟩:=hp
 cases e
 unfold sizeT at hn
 split at hn
 case h_2=>cases hn
 rename_i i hi
 simp only [Option.some.injEq] at hn
 refine ⟨⟨b,off+f.offset,none⟩,?_,b,K,hb,rfl⟩
 unfold fieldPlace
 simp only [Sem.run_bind,run_sizeOf' hV hi,Result.andThen_ok]
 rw [if_neg (by omega),addr_add]
 rfl
theorem partL_ok (hV:V.Ok P s) {ρ:Rho} {t:TypeId} {cs:List LV} {off:Nat} {v:LV} {a:Array Value} (hc:RVs s ρ cs a.toList) (h:partL V t cs off=some v) (w:World):
  ∃ x,(part t a off).run P w=.ok x w∧RV s ρ v x:=by
 unfold partL at h
 split at h
 case h_2=>cases h
 rename_i i hi
 split at h
 case h_2=>cases h
 rename_i c hs
 obtain ⟨vs,g1,g2,g3,g4,g5⟩:=stretch (sp:=#[]) hc hs
 rcases mkVar_ok h g1 with ⟨hd,hv⟩|⟨hd,x,rfl,hv⟩
 ·refine ⟨_,?_,hv⟩
  unfold part
  simp only [Sem.run_bind,run_isAgg' hV hi,hd,Result.andThen_ok,if_true,run_sizeOf' hV hi,Sem.run_pure]
  congr 2
  apply Array.ext'
  rw [g3]
  simp [Array.toList_extract]
 ·refine ⟨x,?_,hv⟩
  unfold part
  have:=g5 0 x rfl
  simp only [Nat.add_zero,Array.append_empty] at this
  simp [run_isAgg' hV hi,hd,this]
theorem fieldOf_ok (hV:V.Ok P s) {t:TypeId} {k:Nat} {f:Field} (h:fieldOf V t k=some f):∃ fs,(∀ w,(underlying t).run P w=.ok (.struct fs) w)∧fs[k]?=some f:=by
 unfold fieldOf at h
 split at h
 case h_2=>cases h
 rename_i i hi
 split at h
 case h_2=>cases h
 rename_i fs hfs
 exact ⟨fs,fun w=>by rw [run_und' hV hi,hfs],h⟩
theorem follow_ok (hV:V.Ok P s) {base:Nat} {w0:World} {ρ:Rho} {σ:St} {w:World} (hw:RW V s base w0 ρ σ w):∀ {path:List FieldStep} {t t':TypeId} {x y:Pl} {q:Place},RPl s ρ x q →
  followL V σ path t x=some (t',y)→∃ q',(follow path t q).run P w=.ok (t',q') w∧RPl s ρ y q'
 |[],t,t',x,y,q,hx,h=>by simp only [followL,Option.some.injEq,Prod.mk.injEq] at h;obtain ⟨rfl,rfl⟩:=h;exact ⟨q,rfl,hx⟩
 |st::rest,t,t',x,y,q,hx,h=>by
  simp only [followL] at h
  split at h
  ·cases h
  rename_i f hf
  obtain ⟨fs,u1,u2⟩:=fieldOf_ok hV hf
  split at h
  ·rename_i hd
   split at h
   case h_2=>cases h
   rename_i p hp
   split at h
   case h_2=>cases h
   rename_i p' hp'
   obtain ⟨v,g1,g2⟩:=plGet_ok hV hw hx hp
   have hpp:∃ a,v=.pointer (some a):=by
    unfold fieldP at hp'
    split at hp'
    ·obtain ⟨_,_,_,rfl⟩:=g2;exact ⟨_,rfl⟩
    ·cases hp'
   obtain ⟨a,rfl⟩:=hpp
   obtain ⟨b,f1,f2⟩:=fieldP_ok hV w g2 hp'
   obtain ⟨q',r1,r2⟩:=follow_ok hV hw (x:=.var p') (q:=.var b) f2 h
   exact ⟨q',by simp [follow,u1,u2,hd,g1,asAddr,f1,r1],r2⟩
  ·rename_i hd
   split at h
   ·rename_i p
    split at h
    case h_2=>cases h
    rename_i p' hp'
    cases q with
    |val v=>exact hx.elim
    |var a=>
     obtain ⟨b,f1,f2⟩:=fieldP_ok hV w hx hp'
     obtain ⟨q',r1,r2⟩:=follow_ok hV hw (x:=.var p') (q:=.var b) f2 h
     exact ⟨q',by simp [follow,u1,u2,hd,f1,r1],r2⟩
   ·rename_i cs
    split at h
    case h_2=>cases h
    rename_i v hv
    cases q with
    |var a=>exact hx.elim
    |val u=>
     obtain ⟨c,rfl,hc⟩:=hx
     obtain ⟨z,p1,p2⟩:=partL_ok hV hc hv w
     obtain ⟨q',r1,r2⟩:=follow_ok hV hw (x:=.val v) (q:=.val z) p2 h
     exact ⟨q',by simp [follow,u1,u2,hd,p1,r1],r2⟩
   ·cases h
theorem recvAt_ok (hV:V.Ok P s) {base:Nat} {w0:World} {ρ:Rho} {σ:St} {w:World} (hw:RW V s base w0 ρ σ w) {xt:TypeId} {x:Pl} {q:Place} {p:Bool} {v:LV} (hx:RPl s ρ x q)
  (h:recvAt V σ xt x p=some v) (wr:Option String):∃ r,(receiverAt xt q p wr).run P w=.ok r w∧RV s ρ v r:=by
 unfold recvAt at h
 split at h
 ·cases h
 rename_i i hi
 have hu:=run_und' hV hi w
 split at h
 ·rename_i e heq
  obtain ⟨r,g1,g2⟩:=plGet_ok hV hw hx h
  exact ⟨r,by simp [receiverAt,hu,heq,g1],g2⟩
 ·rename_i elem heq
  split at h
  case h_2=>cases h
  rename_i l off hg
  obtain ⟨r,g1,g2⟩:=plGet_ok hV hw hx hg
  obtain ⟨a,y,e,l1,l2⟩:=loadV_ok hV hw g2 h
  subst e
  refine ⟨y,?_,l2⟩
  cases wr with
  |none=>simp [receiverAt,hu,heq,g1,asAddr,l1]
  |some name=>
   have hchk:(Builtin.ssaWrapNilChk_ #[xt] xt #[.pointer (some a), strVal "",strVal name]).run P w=.ok (.pointer (some a)) w:=rfl
   simp [receiverAt,hu,heq,g1,hchk,asAddr,l1]
 ·rename_i pp heq
  split at h
  case h_2=>cases h
  cases h
  cases q with
  |val _=>exact hx.elim
  |var a=>
   refine ⟨.pointer (some a),?_,hx⟩
   unfold receiverAt
   simp only [Sem.run_bind,hu,Result.andThen_ok]
   cases hd:i.und <;> first|rfl|simp_all
 ·cases h
 ·rename_i h1 h2
  obtain ⟨r,g1,g2⟩:=plGet_ok hV hw hx h
  refine ⟨r,?_,g2⟩
  unfold receiverAt
  simp only [Sem.run_bind,hu,Result.andThen_ok]
  cases hd:i.und <;> first|exact g1|simp_all
theorem findM_ok (name:String):∀ (l:List Method) (m:Method),findM name l=some m→l.find? (·.name==name)=some m
 |[],_,h=>by cases h
 |a::r,m,h=>by
  simp only [findM] at h
  cases hb:(a.name==name) with
  |true=>rw [hb] at h;simp only [cond_true] at h;simp [List.find?,hb,h]
  |false=>rw [hb] at h;simp only [cond_false] at h;simp [List.find?,hb,findM_ok name r m h]
theorem method_ok (hV:V.Ok P s) {base:Nat} {w0:World} {ρ:Rho} {σ:St} {w:World} (hw:RW V s base w0 ρ σ w):∀ (d D:Nat) {t:TypeId} {v:LV} {x:Value} {name:String} {f:FuncId} {r:LV},d≤D→RV s ρ v x →
  methodL V σ d t v name=some (f,r)→∃ y,(method D t x name).run P w=.ok (f,y) w∧RV s ρ r y
 |0,_,_,_,_,_,_,_,_,_,h=>by simp [methodL] at h
 |d+1,0,_,_,_,_,_,_,hd,_,_=>by omega
 |d+1,D+1,t,v,x,name,f,r,hd,hx,h=>by
  simp only [methodL] at h
  split at h
  ·cases h
  rename_i i hi
  split at h
  ·cases h
  rename_i m hm
  split at h
  ·cases h
  rename_i xt y hy
  obtain ⟨q,f1,f2⟩:=follow_ok hV hw (x:=.val v) (q:=.val x) hx hy
  have hti:=(info_of hV hi).1
  have hfind:i.info.methods.find? (·.name==name)=some m:=by
   have:=findM_ok name _ _ hm
   rw [← Array.find?_toList];exact this
  split at h
  ·rename_i hmf
   split at h
   case h_2=>cases h
   rename_i t' v' hg
   obtain ⟨z,g1,g2⟩:=plGet_ok hV hw f2 hg
   obtain ⟨u,rfl,g3⟩:=g2
   obtain ⟨yy,r1,r2⟩:=method_ok hV hw d D (by omega) g3 h
   exact ⟨yy,by simp [method,typeInfo,hti,hfind,f1,hmf,g1,r1],r2⟩
  ·rename_i f' p hmf
   split at h
   case h_2=>cases h
   rename_i r' hr
   simp only [Option.some.injEq,Prod.mk.injEq] at h
   obtain ⟨rfl,rfl⟩:=h
   obtain ⟨yy,r1,r2⟩:=recvAt_ok hV hw f2 hr (if m.path.isEmpty then some ((name.splitOn ".").getLastD name) else none)
   exact ⟨yy,by simp only [method,typeInfo,Sem.run_bind,run_program,Result.andThen_ok,hti,Sem.run_pure,hfind,f1,hmf,r1],r2⟩
end
end Vx
set_option linter.unusedVariables false
set_option linter.unusedSimpArgs false
namespace Vx
open Go Go.RowKit
section
variable {V:VP} {P:Program} {s:Atoms}
def Gives (V:VP) (s:Atoms) (base:Nat) (w0:World) (ρ:Rho) (m:Result Value) (v:LV) (σ:St):Prop:=
 ∃ x w' ρ',m=.ok x w'∧ρ <+: ρ'∧RW V s base w0 ρ' σ w'∧RV s ρ' v x
theorem Gives.same {base:Nat} {w0:World} {ρ:Rho} {σ:St} {w:World} (hw:RW V s base w0 ρ σ w) {m:Result Value} {x:Value} {v:LV} (h:m=.ok x w) (hv:RV s ρ v x):Gives V s base w0 ρ m v σ:=
 ⟨x,w,ρ,h,List.prefix_refl _,hw,hv⟩
theorem natOf_ok {ρ:Rho} {v:LV} {n:Nat} {x:Value} (h:natOf v=some n) (hx:RV s ρ v x):x=.int .i64 n:=by
 unfold natOf at h
 split at h
 ·cases h;exact hx
 ·cases h
def ROpt (s:Atoms) (ρ:Rho):Option LV→Option Value→Prop
 |none,none=>True
 |some v,some x=>RV s ρ v x
 |_,_=>False
theorem optNat_ok {ρ:Rho} {d a:Nat} {o:Option LV} {x:Option Value} (h:optNat d o=some a) (hx:ROpt s ρ o x):(x=none∧a=d)∨x=some (.int .i64 a):=by
 cases o with
 |none=>cases x with
  |none=>simp only [optNat,Option.some.injEq] at h;exact .inl ⟨rfl,h.symm⟩
  |some _=>exact hx.elim
 |some v=>cases x with
  |none=>exact hx.elim
  |some x=>exact .inr (by rw [natOf_ok h hx])
theorem run_bounds {isSlice:Bool} {len cap a b:Nat} {lo hi:Option Value} (hlo:(lo=none∧a=0)∨lo=some (.int .i64 a)) (hhi:(hi=none∧b=len)∨hi=some (.int .i64 b))
  (h1:a≤b) (h2:b≤cap) (w:World):(Instr.sliceBounds isSlice len cap lo hi none).run P w=.ok (a,b,cap) w:=by
 have sb:∀ (n y:Nat) (code:BoundsCode),n≤y→(Instr.sliceBound (.int .i64 n) y code).run P w=.ok n w:=by
  intro n y code h
  simp [Instr.sliceBound,asIntOf,h]
 unfold Instr.sliceBounds
 rcases hlo with ⟨rfl,rfl⟩|rfl <;> rcases hhi with ⟨rfl,rfl⟩|rfl <;> simp [sb,h1,h2]
theorem sliceL_ok (hV:V.Ok P s) {ρ:Rho} (w:World) {t:TypeId} {x r:LV} {lo hi:Option LV} {y:Value} {lo' hi':Option Value}
  (hx:RV s ρ x y) (hlo:ROpt s ρ lo lo') (hhi:ROpt s ρ hi hi') (h:sliceL V t x lo hi=some r):∃ z,(Instr.sliceAt t y lo' hi' none).run P w=.ok z w∧RV s ρ r z:=by
 unfold sliceL at h
 split at h
 ·cases h
 rename_i i hi0
 have hu:=fun w=>run_und' hV hi0 w
 split at h
 ·rename_i e l j esz len heq
  split at h
  case h_2=>cases h
  rename_i a b sz ha hb hsz
  cases hc:(Nat.ble a b&&Nat.ble b len&&(Nat.blt a len||Nat.beq a 0)&&Nat.beq sz esz) with
  |false=>rw [hc] at h;cases h
  |true=>
   rw [hc] at h;simp only [cond_true,Option.some.injEq] at h;subst h
   simp only [Bool.and_eq_true,Bool.or_eq_true] at hc
   obtain ⟨⟨⟨c1,c2⟩,c3⟩,c4⟩:=hc
   have c1:=Nat.le_of_ble_eq_true c1
   have c2:=Nat.le_of_ble_eq_true c2
   have c4:=Nat.eq_of_beq_eq_true c4;subst c4
   obtain ⟨bb,K,hb0,hK,rfl⟩:=hx
   have hbd:=run_bounds (P:=P) (isSlice:=true) (len:=len) (cap:=K - j) (optNat_ok ha hlo) (optNat_ok hb hhi) c1 (by omega) w
   unfold sizeT at hsz
   split at hsz
   case h_2=>cases hsz
   rename_i ei he
   simp only [Option.some.injEq] at hsz;subst hsz
   have hs2:=run_sizeOf' hV he w
   refine ⟨.slice (some ⟨bb,(j+a) * ei.size,none⟩) (b - a) (K - (j+a)),?_,bb,K,hb0,by omega,rfl⟩
   simp only [Instr.sliceAt,Sem.run_bind,hu,heq,Result.andThen_ok,Instr.slice,hbd,hs2,Sem.run_pure]
   congr 2
   ·by_cases hz:K - j=a
    ·rw [if_pos hz]
     have:a=0:=by
      rcases c3 with c3|c3
      ·have c3:=Nat.le_of_ble_eq_true c3
       omega
      ·exact Nat.eq_of_beq_eq_true c3
     subst this;simp
    ·rw [if_neg hz];simp only [Option.map_some,addr_add,Nat.add_mul]
   ·omega
 ·rename_i e heq
  split at h
  case h_2=>cases h
  rename_i sz ha hb hsz
  cases h
  simp only [RV] at hx;subst hx
  have hbd:=run_bounds (P:=P) (isSlice:=true) (len:=0) (cap:=0) (optNat_ok ha hlo) (optNat_ok hb hhi) (Nat.le_refl _) (Nat.le_refl _) w
  unfold sizeT at hsz
  split at hsz
  case h_2=>cases hsz
  rename_i ei he
  have hs2:=run_sizeOf' hV he w
  refine ⟨.slice none 0 0,?_,rfl⟩
  simp [Instr.sliceAt,hu,heq,Instr.slice,hbd,hs2]
 ·rename_i e l t heq
  split at h
  case h_2=>cases h
  rename_i sz ha hsz
  cases h
  obtain ⟨hr,a,n,c,rfl,hn⟩:=hx
  have hh:hi'=none:=by cases hi' with|none=>rfl|some _=>exact hhi.elim
  subst hh
  have hbd:(Instr.sliceBounds true n c lo' none none).run P w=.ok (0,n,c) w:=by
   unfold Instr.sliceBounds
   rcases optNat_ok ha hlo with ⟨rfl,_⟩|rfl
   ·simp
   ·simp [Instr.sliceBound,asIntOf]
  unfold sizeT at hsz
  split at hsz
  case h_2=>cases hsz
  rename_i ei he
  have hs2:=run_sizeOf' hV he w
  refine ⟨.slice a n c,?_,hr,a,n,c,rfl,hn⟩
  simp only [Instr.sliceAt,Sem.run_bind,hu,heq,Result.andThen_ok,Instr.slice,hbd,hs2,Sem.run_pure]
  congr 2
  split
  ·rfl
  ·simp [Addr.add]
 ·rename_i t heq
  split at h
  case h_2=>cases h
  rename_i b hb
  split at h
  case h_2=>cases h
  rename_i a c ha hc
  cases hcc:(Nat.ble a c&&Nat.ble c b.length) with
  |false=>rw [hcc] at h;cases h
  |true=>
   rw [hcc] at h;simp only [cond_true,Option.some.injEq] at h;subst h
   simp only [Bool.and_eq_true] at hcc
   have c1:=Nat.le_of_ble_eq_true hcc.1
   have c2:=Nat.le_of_ble_eq_true hcc.2
   obtain ⟨xs,rfl,e⟩:=hx
   rw [den_lit hb] at e
   have hsz:xs.size=b.length:=by rw [← e];rfl
   have hbd:=run_bounds (P:=P) (isSlice:=false) (len:=xs.size) (cap:=xs.size) (optNat_ok ha hlo) (by rw [hsz];exact optNat_ok hc hhi) c1 (by rw [hsz];exact c2) w
   refine ⟨.string (xs.extract a c),?_,_,rfl,?_⟩
   ·simp [Instr.sliceAt,hu,heq,Instr.slice,hbd]
   ·rw [den_ofBytes,Lib.extract_data,e]
 ·cases h
theorem allocRow {base:Nat} {w0:World} {ρ:Rho} {σ:St} {w w1:World} (hw:RW V s base w0 ρ σ w) (hd:w1=w∨w1=w.drew):RW V s base w0 ρ σ w1:=by
 rcases hd with rfl|rfl
 ·exact hw
 ·exact hw.world (Below.refl _ _).drew
theorem repeat_ok {ρ:Rho} {z:List LV} {zs:Array Value} (h:RVs s ρ z zs.toList):∀ n,RVs s ρ (repeatL z n) ((Array.replicate n zs).toList.flatMap (·.toList))
 |0=>by simp [repeatL,RVs]
 |n+1=>by
  have:=(h.append (repeat_ok h n))
  simpa [repeatL,List.replicate_succ] using this
theorem range_mod (zs:Array Value) (hz:0 < zs.size):∀ n:Nat,((Array.range (n * zs.size)).map fun i=>zs[i % zs.size]!).toList=(Array.replicate n zs).toList.flatMap (·.toList)
 |0=>by simp
 |n+1=>by
  have ih:=range_mod zs hz n
  rw [Array.toList_map,Array.toList_range] at ih ⊢
  rw [Nat.succ_mul,List.range_add,List.map_append,ih,Array.toList_replicate,Array.toList_replicate,List.replicate_succ',List.flatMap_append]
  congr 1
  simp only [List.map_map,List.flatMap_cons,List.flatMap_nil,List.append_nil]
  apply List.ext_getElem
  ·simp
  ·intro i h1 h2
   simp at h1
   have e1:(n * zs.size+i) % zs.size=i:=by rw [Nat.mul_comm,Nat.mul_add_mod];exact Nat.mod_eq_of_lt h1
   simp [e1,h1]
theorem zero_cells (hV:V.Ok P s) {t:TypeId} {i:TI} (h:V.ty.get t=some i) (ρ:Rho):∃ z,(∀ w,(zeroValue t).run P w=.ok z w)∧RV s ρ i.zv z∧RVs s ρ i.zero z.cells.toList∧i.info.zero=some z:=by
 obtain ⟨z,h1,h2,h3⟩:=run_zero' hV h
 exact ⟨z,h1,ofV_ok h2,cells_ok (ofV_ok h2),h3⟩
theorem gives_row {base:Nat} {w0:World} {ρ:Rho} {σ:St} {w w1:World} (hw:RW V s base w0 ρ σ w) (hd:w1=w∨w1=w.drew) {e:TypeId} {cs:List LV} {k:RK} {c sp:Array Value} (K:Nat)
  (hc:RVs s ρ cs c.toList) (hx:k=.exact→sp=#[]) (hK:∀ i,V.ty.get e=some i→K * i.size≤(c++sp).size) {m:Result Value} {esz len:Nat} (hle:len≤K)
  (hm:m=.ok (.slice (some ⟨w.heap.size,0,none⟩) len K) (w1.alloc (.cells (c++sp) e))):Gives V s base w0 ρ m (.slice (newOb σ (.row e cs k)).1 0 esz len) (newOb σ (.row e cs k)).2:=by
 have hw1:=allocRow hw hd
 have hsz:w1.heap.size=w.heap.size:=by rcases hd with rfl|rfl <;> rfl
 have h:=RW.newRow (cs:=cs) (k:=k) hw1 K hc hx hK
 exact ⟨_,_,_,hm,⟨_,rfl⟩,h,by rw [hsz];exact new_slice hw.len hle _⟩
theorem buildSlice_ok (hV:V.Ok P s) {base:Nat} {w0:World} {ρ:Rho} {σ:St} {w:World} (hw:RW V s base w0 ρ σ w) {t e:TypeId} {len:Nat} {parts:List (Nat×LV)} {qs:Array (Nat×Value)} {i j:TI} {cs:List LV}
  (hj:V.ty.get t=some j) (hje:j.und=.slice e) (hi:V.ty.get e=some i) (hb:len * i.size≤16777216) (h0:0 < i.size) (hz0:i.zero.length=i.size)
  (h1:RVs s ρ (parts.map (·.2)) (qs.toList.map (·.2))) (h2:parts.map (·.1)=qs.toList.map (·.1)) (hf:fillL (fun k=>some (k * i.size,i.size)) (repeatL i.zero len) parts=some cs):
  Gives V s base w0 ρ ((Instr.buildSlice t len qs).run P w) (.slice (newOb σ (.row e cs .exact)).1 0 i.size len) (newOb σ (.row e cs .exact)).2:=by
 have hu:=run_und' hV hj w
 obtain ⟨z,z1,z2,z3,z4⟩:=zero_cells hV hi ρ
 have hsz:=run_sizeOf' hV hi w
 have hzs:z.cells.size=i.size:=by rw [← hz0,← z3.length];rfl
 have hr:=repeat_ok z3 len
 have hrm:=range_mod z.cells (by omega) len
 obtain ⟨c',g1,g2,g3⟩:=fill_ok (c:=(Array.range (len * i.size)).map fun k=>z.cells[k % z.cells.size]!) (fun _ _ h=>h) h1 h2 (by rw [← hzs,hrm];exact hr) hf
 refine gives_row (esz:=i.size) (sp:=#[]) (c:=c') hw (.inl rfl) len g2 (fun _=>rfl) (fun i' hi'=>by rw [hi] at hi';cases hi';simp [g3]) (Nat.le_refl _) ?_
 have hnb:¬ (len * i.size > 2 ^ 24):=by omega
 by_cases hl:len * i.size=0
 ·have hl0:len=0:=by rcases Nat.mul_eq_zero.1 hl with h|h <;> omega
  subst hl0
  have e0:∀ f:Nat→Value,(Array.range 0).map f=#[]:=fun _=>by simp
  simp only [Nat.zero_mul,e0] at g1
  simp only [Instr.buildSlice,Sem.run_bind,hu,hje,Result.andThen_ok,hsz,Nat.zero_mul,if_true,e0]
  rw [if_neg (by omega)]
  simp [g1,newRow]
 ·simp only [Instr.buildSlice,Sem.run_bind,hu,hje,Result.andThen_ok,hsz,hl,if_false]
  rw [if_neg (by omega)]
  simp [z1,g1,newRow]
theorem makeSlice_ok (hV:V.Ok P s) {base:Nat} {w0:World} {ρ:Rho} {σ:St} {w:World} (hw:RW V s base w0 ρ σ w) {t e:TypeId} {n c:Nat} {i j:TI} {k:RK}
  (hj:V.ty.get t=some j) (hje:j.und=.slice e) (hi:V.ty.get e=some i) (hnc:n≤c) (hb:c * (i.bytes+1)≤1073741824) (h0:0 < i.size) (hz0:i.zero.length=i.size)
  (hk:k=cond (Nat.beq n c) .exact .spare):
  Gives V s base w0 ρ ((Instr.makeSlice t (.int .i64 n) (.int .i64 c)).run P w) (.slice (newOb σ (.row e (repeatL i.zero n) k)).1 0 i.size n) (newOb σ (.row e (repeatL i.zero n) k)).2:=by
 have hu:=run_und' hV hj w
 obtain ⟨z,z1,z2,z3,z4⟩:=zero_cells hV hi ρ
 have hsz:=run_sizeOf' hV hi w
 have hti:=(info_of hV hi).1
 have hzs:z.cells.size=i.size:=by rw [← hz0,← z3.length];rfl
 have hbn:c * i.bytes≤1073741824:=Nat.le_trans (Nat.mul_le_mul_left c (Nat.le_succ _)) hb
 have hc0:c≤1073741824:=Nat.le_trans (by rw [Nat.mul_succ];omega) hb
 have split:((Array.replicate c z.cells).toList.flatMap (·.toList))=((Array.replicate n z.cells).toList.flatMap (·.toList))++((Array.replicate (c - n) z.cells).toList.flatMap (·.toList)):=by
  have:c=n+(c - n):=by omega
  conv=>lhs;rw [this]
  rw [Array.toList_replicate,Array.toList_replicate,Array.toList_replicate,← List.replicate_append_replicate,List.flatMap_append]
 have hrm:=range_mod z.cells (by omega) c
 have hlen:∀ m,((Array.replicate m z.cells).toList.flatMap (·.toList)).length=m * z.cells.size:=by
  intro m
  have:=congrArg List.length (range_mod z.cells (by omega) m)
  rw [← this];simp
 have hkp:k.plain=true:=by rw [hk];cases Nat.beq n c <;> rfl
 refine gives_row (esz:=i.size) (c:=((Array.replicate n z.cells).toList.flatMap (·.toList)).toArray) (sp:=((Array.replicate (c - n) z.cells).toList.flatMap (·.toList)).toArray) hw (.inl rfl) c (by simpa using repeat_ok z3 n) ?_ ?_ hnc ?_
 ·intro hx
  cases hb:Nat.beq n c with
  |true=>have:=Nat.eq_of_beq_eq_true hb;subst this;simp
  |false=>rw [hb] at hk;rw [hk] at hx;cases hx
 ·intro i' hi'
  rw [hi] at hi';cases hi'
  have e1:=hlen n
  have e2:=hlen (c - n)
  simp only [List.size_toArray,Array.size_append,e1,e2,hzs]
  rw [← Nat.add_mul];exact Nat.le_of_eq (by congr 1;omega)
 ·have wrapn:∀ m:Nat,m≤1073741824→IntKind.i64.wrap (m:Int)=m:=by
   intro m hm
   simp only [IntKind.wrap,IntKind.bits,IntKind.signed]
   have:((m:Int) % 2 ^ 64)=m:=by omega
   simp only [this]
   rw [if_neg]
   simp;omega
  have w1:=wrapn n (by omega)
  have w2:=wrapn c hc0
  have big:¬ ((i.info.bytes:Int) * (c:Int) > 2 ^ 48):=by
   have h1:((c * i.info.bytes:Nat):Int)≤((1073741824:Nat):Int):=Int.ofNat_le.2 hbn
   rw [Int.natCast_mul,Int.mul_comm] at h1
   omega
  have eqc:(Array.range (c * i.size)).map (fun k=>z.cells[k % z.cells.size]!)=((Array.replicate n z.cells).toList.flatMap (·.toList)).toArray++((Array.replicate (c - n) z.cells).toList.flatMap (·.toList)).toArray:=by
   apply Array.ext'
   rw [← hzs,hrm,split];simp
  rw [← eqc]
  have c1:¬ ((c:Int) < 0):=by omega
  have c2:¬ ((n:Int) < 0):=by omega
  have c3:¬ ((n:Int) > (c:Int)):=by omega
  simp only [Instr.makeSlice,Sem.run_bind,hu,hje,Result.andThen_ok,asInt,asIntOf,Sem.run_pure,typeInfo,run_program,hti,w1,w2,big,c1,c2,c3,decide_false,Bool.or_self,Bool.false_eq_true,if_false,run_askRoom,hsz]
  simp only [Int.toNat_natCast]
  by_cases hl:c * i.size=0
  ·have hl0:c=0:=by rcases Nat.mul_eq_zero.1 hl with h|h <;> omega
   subst hl0
   have hn0:n=0:=by omega
   subst hn0
   have e0:∀ f:Nat→Value,(Array.range 0).map f=#[]:=fun _=>by simp
   simp [newRow]
   simp only [e0]
  ·simp [hl,z1,newRow]
theorem prefix_snoc (ρ:Rho) (b:Bind):ρ <+: ρ++[b]:=⟨[b],rfl⟩
theorem cellsOf_ok {base:Nat} {w0:World} {ρ:Rho} {σ:St} {w:World} (hw:RW V s base w0 ρ σ w) {size:Nat} {x:LV} {y:Value} {c:List LV} (hx:RV s ρ x y) (h:cellsOf σ size x=some c):
  (x=.nils∧y=.slice none 0 0∧c=[])∨∃ l i len b K vs,x=.slice l i size len∧ρ[l]?=some (.row b K)∧i+len≤K∧y=.slice (some ⟨b,i * size,none⟩) len (K - i) ∧
   RVs s ρ c vs∧vs.length=len * size∧∀ j v,vs[j]?=some v→w.cell? ((⟨b,i * size,none⟩:Addr).add j)=some v:=by
 unfold cellsOf at h
 split at h
 ·cases h;exact .inl ⟨rfl,hx,rfl⟩
 ·rename_i l i esz len
  cases hb:Nat.beq esz size with
  |false=>rw [hb] at h;cases h
  |true=>
   rw [hb] at h;simp only [cond_true] at h
   have:=Nat.eq_of_beq_eq_true hb;subst this
   split at h
   case h_2=>cases h
   rename_i e cs k hl
   obtain ⟨b,K,h1,h2,rfl⟩:=hx
   obtain ⟨a,sp,fr,g1,g2,_⟩:=row_of hw hl h1
   obtain ⟨vs,r1,r2,r3,r4,r5⟩:=stretch (sp:=sp) g2 h
   exact .inr ⟨l,i,len,b,K,vs,rfl,h1,h2,rfl,r1,r2,fun j v hj=>by rw [addr_add,row_cell g1];exact r5 j v hj⟩
 ·cases h
theorem litCells_ok (ρ:Rho):∀ b:List UInt8,RVs s ρ (litCells b) (b.map fun c=>Value.int .u8 c.toNat)
 |[]=>rfl
 |_::r=>⟨_,_,rfl,rfl,litCells_ok ρ r⟩
theorem srcL_ok (hV:V.Ok P s) {base:Nat} {w0:World} {ρ:Rho} {σ:St} {w:World} (hw:RW V s base w0 ρ σ w) {i:TI} {xt:TypeId} {x:LV} {y:Value} {new:List LV} {n:Nat} (hx:RV s ρ x y)
  (h:srcL V σ i xt x=some (new,n)) (h1:allOne new=true):∃ vs,Src P i.size xt y n vs w∧RVs s ρ new vs:=by
 unfold srcL at h
 split at h
 case h_2=>cases h
 rename_i j hj
 have hu:=(info_of hV hj).2.1
 split at h
 ·rename_i e he
  rw [he] at hu
  split at h
  case h_2=>cases h
  rename_i c hc
  cases h
  rcases cellsOf_ok hw hx hc with ⟨rfl,rfl,rfl⟩|⟨l2,i2,len2,b2,K2,vs,rfl,k1,k2,rfl,k4,k5,k6⟩
  ·exact ⟨[],Src.ofNil w hu 0,rfl⟩
  ·exact ⟨vs,Src.ofSlice w hu _ _ _ vs k5 k6 (allOne_ok k4 h1),k4⟩
 ·rename_i t he
  rw [he] at hu
  split at h
  case h_2=>cases h
  rename_i b hi hb
  cases hs:Nat.beq i.size 1 with
  |false=>rw [hs] at h;cases h
  |true=>
   rw [hs] at h;cases h
   obtain ⟨bs,rfl,hbs⟩:=hx
   rw [den_lit hb] at hbs
   have hsz:bs.size=b.length:=by rw [← hbs];rfl
   have:=Src.ofString (P:=P) w hu bs
   rw [Nat.eq_of_beq_eq_true hs]
   refine ⟨byteCells bs,by rw [← hsz];exact this,?_⟩
   unfold byteCells
   rw [hbs]
   exact litCells_ok ρ b
 ·cases h
theorem store_free (g o:Nat) (t:TypeId) (fz:Nat×Nat):∀ (vs:List Value) (i:Nat) (cur:Array Value) (w:World),w.heap[g]?=some (.cells cur t fz)→(fz=(0,0)∨cur.size≤fz.1)→o+i+vs.length≤cur.size→(∀ v∈vs,v.oneCell'=true) →
  (storeCells ⟨g,o,none⟩ vs i).run P w=.ok () (w.setRow g (cur.toList.take (o+i)++vs++cur.toList.drop (o+i+vs.length)).toArray)
 |[],i,cur,w,hg,_,_,_=>by
  simp only [storeCells,List.append_nil,List.length_nil,Nat.add_zero,List.take_append_drop,Array.toArray_toList]
  rw [setRow_self w g cur t fz hg]
  rfl
 |v::rest,i,cur,w,hg,hfz,hl,h1=>by
  have hi:o+i < cur.size:=by simp at hl;omega
  have hadd:(⟨g,o,none⟩:Addr).add i=⟨g,o+i,none⟩:=by unfold Addr.add;split <;> simp_all
  have hcell:w.cell? ⟨g,o+i,none⟩=some cur[o+i]:=by simp [World.cell?,hg,hi]
  have hfro:w.frozen? ⟨g,o+i,none⟩=false:=by
   obtain ⟨lo,hi'⟩:=fz
   simp only [World.frozen?,hg,Bool.and_eq_false_iff,decide_eq_false_iff_not]
   rcases hfz with h|h
   ·cases h;right;omega
   ·left;simp only at h;omega
  have hst:(store ((⟨g,o,none⟩:Addr).add i) v).run P w=.ok () (w.setRow g (cur.setIfInBounds (o+i) v)):=by
   rw [hadd,run_store P w _ v _ (h1 v (by simp)),hcell]
   simp [hfro,setCell_eq_setRow w g (o+i) cur t fz v hg]
  have ih:=store_free g o t fz rest (i+1) (cur.setIfInBounds (o+i) v) (w.setRow g (cur.setIfInBounds (o+i) v)) (setRow_heap w g cur _ t _ hg) (by simpa using hfz) (by simp at hl ⊢;omega) (fun x hx=>h1 x (by simp [hx]))
  simp only [storeCells,Sem.run_bind,hst,Result.andThen_ok,ih,setRow_setRow]
  congr 3
  have e:=list_seg_step cur.toList (o+i) v rest (by simp at hl ⊢;omega)
  simpa [Array.toList_setIfInBounds,Nat.add_assoc] using e
theorem append_room (w:World) (t tx ty e:TypeId) (i:TypeInfo) (ht:P.underlying t=some (.slice e)) (hi:P.info? e=some i)
  (g sLen sCap:Nat) (cur:Array Value) (fz:Nat×Nat) (hg:w.heap[g]?=some (.cells cur e fz)) (hfz:fz=(0,0)∨cur.size≤fz.1) (x:Value) (m:Nat) (news:List Value) (hs:Src P i.size tx x m news w)
  (hroom:sLen+m≤sCap) (hfit:sLen * i.size+news.length≤cur.size):
  (Builtin.append_ #[t,tx] ty #[.slice (some ⟨g,0,none⟩) sLen sCap,x]).run P w=
   .ok (.slice (some ⟨g,0,none⟩) (sLen+m) sCap) (w.setRow g (cur.toList.take (sLen * i.size)++news++cur.toList.drop (sLen * i.size+news.length)).toArray):=by
 have hst:=store_free (P:=P) g (sLen * i.size) e fz news 0 cur w hg hfz (by simpa using hfit) hs.one
 simp only [Nat.add_zero] at hst
 rcases hs.kind with ⟨e',hk⟩|hk <;> simp [Builtin.append_,run_underlying ht,run_underlying hk,Go.sizeOf,typeInfo,hi,hs.len,hroom,hs.cells,Addr.add_lit,hst]
theorem appendL_ok (hV:V.Ok P s) {base:Nat} {w0:World} {ρ:Rho} {σ σ':St} {w:World} (hw:RW V s base w0 ρ σ w) {t e xt ty:TypeId} {j:TI} (hj:V.ty.get t=some j) (hje:j.und=.slice e) {x y r:LV} {a b:Value}
  (hx:RV s ρ x a) (hy:RV s ρ y b) (h:appendL V σ e xt x y=some (r,σ')):Gives V s base w0 ρ ((Builtin.append_ #[t,xt] ty #[a,b]).run P w) r σ':=by
 unfold appendL at h
 split at h
 ·cases h
 rename_i i hi
 have hut:=(info_of hV hj).2.1
 rw [hje] at hut
 obtain ⟨hie,hue,z,hz,_⟩:=info_of hV hi
 split at h
 ·cases h
 ·
  rename_i new hnew
  have hnil:∃ vs,Src P i.size xt b 0 vs w:=by
   have h0:allOne new=true∨allOne new=false:=by cases allOne new <;> simp
   rcases h0 with h0|h0
   ·obtain ⟨vs,g1,_⟩:=srcL_ok hV hw hy hnew h0
    exact ⟨vs,g1⟩
   ·exfalso
    have:new=[]:=by
     unfold srcL at hnew
     split at hnew
     case h_2=>cases hnew
     split at hnew
     ·split at hnew
      case h_2=>cases hnew
      rename_i c hc
      simp only [Option.some.injEq,Prod.mk.injEq] at hnew
      obtain ⟨rfl,hl⟩:=hnew
      rcases cellsOf_ok hw hy hc with ⟨_,_,rfl⟩|⟨l2,i2,len2,b2,K2,vs,rfl,_,_,_,k4,k5,_⟩
      ·rfl
      ·simp only [lenL] at hl
       subst hl
       rw [Nat.zero_mul] at k5
       have:vs=[]:=List.eq_nil_of_length_eq_zero k5
       subst this
       cases c with
       |nil=>rfl
       |cons _ _=>obtain ⟨_,_,e,_⟩:=k4;cases e
     ·split at hnew
      case h_2=>cases hnew
      rename_i b' _ _
      cases hs:Nat.beq i.size 1 with
      |false=>rw [hs] at hnew;cases hnew
      |true=>
       rw [hs] at hnew
       simp only [cond_true,Option.some.injEq,Prod.mk.injEq] at hnew
       obtain ⟨rfl,hl⟩:=hnew
       have:b'=[]:=List.eq_nil_of_length_eq_zero hl
       subst this;rfl
     ·cases hnew
    subst this
    cases h0
  obtain ⟨vs,hs⟩:=hnil
  have hv0:vs=[]:=List.eq_nil_of_length_eq_zero (by rw [hs.newsLen];simp)
  subst hv0
  split at h
  ·cases h
   simp only [RV] at hx;subst hx
   exact Gives.same hw (x:=.slice none 0 0) (run_append_nothing w t xt ty e i.info hut hie none 0 0 (Nat.le_refl _) b hs) rfl
  ·rename_i l k ee n
   cases h
   have hx2:=hx
   obtain ⟨b1,K1,h1,h2,rfl⟩:=hx
   exact Gives.same hw (x:=.slice (some ⟨b1,k * ee,none⟩) n (K1 - k)) (run_append_nothing w t xt ty e i.info hut hie _ n (K1 - k) (by omega) b hs) hx2
  ·cases h
 ·rename_i new m hnew
  cases hc:(Nat.ble ((lenL x+(m+1)) * (i.bytes+1)) 1073741824&&allOne new&&Nat.blt 0 i.size&&Nat.beq i.zero.length i.size) with
  |false=>rw [hc] at h;cases h
  |true=>
   rw [hc] at h
   simp only [cond_true] at h
   simp only [Bool.and_eq_true] at hc
   obtain ⟨⟨⟨c1b,c2⟩,c3⟩,c4⟩:=hc
   have c1:=Nat.le_of_ble_eq_true c1b
   clear c1b
   have c3:0 < i.size:=Nat.le_of_ble_eq_true c3
   have c4:=Nat.eq_of_beq_eq_true c4
   obtain ⟨vs,hs,k4⟩:=srcL_ok hV hw hy hnew c2
   have k5:=hs.newsLen
   obtain ⟨z',_,_,z3,z4⟩:=zero_cells hV hi ρ
   have:z'=z:=by rw [hz] at z4;exact (Option.some.inj z4).symm
   subst this
   have hzs:z'.cells.size=i.size:=by rw [← c4,← z3.length];rfl
   split at h
   ·
    simp only [RV] at hx;subst hx
    simp only [newOb,Option.some.injEq,Prod.mk.injEq] at h
    obtain ⟨rfl,rfl⟩:=h
    simp only [lenL,Nat.zero_add] at c1
    have hb1:(m+1) * i.info.bytes≤1073741824:=Nat.le_trans (Nat.mul_le_mul_left _ (Nat.le_succ _)) c1
    have hb0:m+1≤1073741824:=Nat.le_trans (by rw [Nat.mul_succ];omega) c1
    have hfit:=growslice_fits (need:=0+(m+1)) (old:=0) (bytes:=i.info.bytes) (by omega) (by rw [Nat.zero_add];omega)
    have hrun:=run_append_grow_src (P:=P) w t xt ty e i.info z' hut hie hz none 0 0 [] (run_firstCells_none w.drew i.size 0 0 0) b (m+1) vs hs (by omega) (by omega) hfit
    have hge:=grownCap_ge w (0+(m+1)) 0 e
    simp only [Nat.zero_add,List.nil_append] at hrun hge
    refine gives_row (esz:=i.size) (e:=e) (cs:=new) (k:=.spare) (len:=m+1) (c:=vs.toArray) hw (.inr rfl) (grownCap w (m+1) 0 e) (by simpa using k4) (fun h=>by cases h) ?_ hge hrun
    intro i' hi'
    rw [hi] at hi';cases hi'
    rw [Array.size_append,size_zeroCells,hzs,List.size_toArray,k5,← Nat.add_mul]
    exact Nat.le_of_eq (by congr 1;omega)
   ·rename_i l k esz len
    split at h
    case h_2=>cases h
    rename_i e' cs kind hl
    cases hc2:(Nat.beq ((k+len) * esz) cs.length&&Nat.beq esz i.size&&Nat.beq e' e) with
    |false=>rw [hc2] at h;cases h
    |true=>
     rw [hc2] at h
     simp only [cond_true] at h
     simp only [Bool.and_eq_true] at hc2
     obtain ⟨⟨d1,d2⟩,d3⟩:=hc2
     have d1:=Nat.eq_of_beq_eq_true d1
     have d2:=Nat.eq_of_beq_eq_true d2
     have d3:=Nat.eq_of_beq_eq_true d3
     subst d2 d3
     obtain ⟨b1,K1,h1,h2,rfl⟩:=hx
     obtain ⟨a0,sp,fr,g1,g2,g3,g4,g5⟩:=row_of hw hl h1
     have g5:=g5 i hi
     simp only [lenL] at c1
     have hb1:(len+(m+1)) * i.info.bytes≤1073741824:=Nat.le_trans (Nat.mul_le_mul_left _ (Nat.le_succ _)) c1
     have hb0:len+(m+1)≤1073741824:=Nat.le_trans (by rw [Nat.mul_succ];omega) c1
     split at h
     ·cases h
     rename_i old hold
     obtain ⟨olds,o1,o2,o3,o4,o5⟩:=stretch (sp:=sp) g2 hold
     have hcl:a0.size=(k+len) * i.size:=by rw [d1,← g2.length];rfl
     have grow:∀ (σ1:St) (kd:RK),kd≠.exact→σ1.next=σ.next→RW V s base w0 ρ σ1 w→K1 - k < len+(m+1) →
       Gives V s base w0 ρ ((Builtin.append_ #[t,xt] ty #[.slice (some ⟨b1,k * i.size,none⟩) len (K1 - k),b]).run P w)
        (.slice (newOb σ1 (.row e' (old++new) kd)).1 0 i.size (len+(m+1))) (newOb σ1 (.row e' (old++new) kd)).2:=by
      intro σ1 kd hkd hn hw1 hg
      have hfit:=growslice_fits (need:=len+(m+1)) (old:=K1 - k) (bytes:=i.info.bytes) hg (by omega)
      have hfo:=run_firstCells_some (P:=P) w.drew i.size len ⟨b1,k * i.size,none⟩ len (K1 - k) olds o2 (fun j v hj=>by
       rw [addr_add]
       have:=(row_cell g1 (k * i.size+j)).trans (o5 j v hj)
       simpa using this)
      have hrun:=run_append_grow_src (P:=P) w t xt ty e' i.info z' hut hie hz (some ⟨b1,k * i.size,none⟩) len (K1 - k) olds hfo b (m+1) vs hs hg (by omega) hfit
      have hge:=grownCap_ge w (len+(m+1)) (K1 - k) e'
      refine gives_row (esz:=i.size) (e:=e') (cs:=old++new) (k:=kd) (len:=len+(m+1)) (c:=(olds++vs).toArray) hw1 (.inr rfl) (grownCap w (len+(m+1)) (K1 - k) e') (by simpa using o1.append k4) (fun h=>absurd h hkd) ?_ hge hrun
      intro i' hi'
      rw [hi] at hi';cases hi'
      rw [Array.size_append,size_zeroCells,hzs,List.size_toArray,List.length_append,k5,o2,← Nat.add_mul,← Nat.add_mul]
      exact Nat.le_of_eq (by congr 1;omega)
     have room:∀ kd:RK,kd≠.exact→kd.frz fr (a0++sp).size→k=0 →
       Gives V s base w0 ρ ((Builtin.append_ #[t,xt] ty #[.slice (some ⟨b1,k * i.size,none⟩) len (K1 - k),b]).run P w)
        (.slice (newOb (σ.del l) (.row e' (old++new) kd)).1 0 i.size (len+(m+1))) (newOb (σ.del l) (.row e' (old++new) kd)).2:=by
      rintro kd hkd hfr rfl
      by_cases hg:K1 - 0 < len+(m+1)
      ·exact grow (σ.del l) kd hkd rfl (hw.del l) hg
      ·have hfr':fr=(0,0)∨(a0++sp).size≤fr.1:=by
        cases kd with
        |exact=>exact absurd rfl hkd
        |spare=>exact .inl hfr
        |marked=>exact hfr
       have hroom:len+(m+1)≤K1 - 0:=by omega
       have hmul:=Nat.mul_le_mul_right i.size (show len+(m+1)≤K1 by omega)
       rw [Nat.add_mul] at hmul
       have hrun:=append_room (P:=P) w t xt ty e' i.info hut hie b1 len (K1 - 0) (a0++sp) fr g1 hfr' b (m+1) vs hs hroom (by
        have k5':vs.length=(m+1) * i.size:=k5
        change len * i.size+vs.length≤(a0++sp).size
        omega)
       simp only [Nat.zero_mul,Nat.zero_add] at hcl o3 ⊢
       have holds:olds=a0.toList:=by
        rw [o3];simp;rw [List.take_of_length_le];simp;omega
       have e1:((a0++sp).toList.take (len * i.info.size)++vs++(a0++sp).toList.drop (len * i.info.size+vs.length)).toArray=(olds++vs).toArray++(sp.toList.drop vs.length).toArray:=by
        apply Array.ext'
        have ha:(a0++sp).toList.take (len * i.info.size)=a0.toList:=by
         rw [Array.toList_append,List.take_append_of_le_length (by simp;change len * i.size≤_;omega),List.take_of_length_le (by simp;change _≤len * i.size;omega)]
        have hb:(a0++sp).toList.drop (len * i.info.size+vs.length)=sp.toList.drop vs.length:=by
         rw [Array.toList_append,List.drop_append]
         have:a0.toList.length=len * i.info.size:=by simp;exact hcl
         rw [List.drop_eq_nil_of_le (by omega),this];simp
        rw [ha,hb,holds];simp
       rw [e1] at hrun
       have hsize:((olds++vs).toArray++(sp.toList.drop vs.length).toArray).size=(a0++sp).size:=by
        rw [Array.size_append] at g5
        simp only [Array.size_append,List.size_toArray,List.length_append,List.length_drop,Array.length_toList,o2,k5,Nat.succ_eq_add_one]
        omega
       have hup:RW V s base w0 ρ (σ.set l (.row e' (old++new) kd)) (w.setRow b1 ((olds++vs).toArray++(sp.toList.drop vs.length).toArray)):=by
        refine hw.upd (bd:=.row b1 K1) (b:=b1) hl rfl rfl h1 rfl (setRow_size w b1 _) (fun j hj=>setRow_other w b1 j _ hj) rfl rfl rfl ?_
        refine ⟨b1,K1,_,_,fr,rfl,setRow_heap w b1 _ _ e' fr g1,by simpa using o1.append k4,(fun h=>absurd h hkd),by rw [hsize];exact hfr,?_⟩
        intro i' hi'
        rw [hi] at hi';cases hi'
        rw [hsize];exact g5
       have hmv:=hup.move (l:=l) (o:=.row e' (old++new) kd) (bd:=.row b1 K1) (by simp [St.set,Tr.get_put]) h1
       refine ⟨_,_,_,hrun,prefix_snoc _ _,hmv.same rfl ?_,?_⟩
       ·intro j
        simp only [newOb,St.del,St.set,Tr.get_put,Tr.get_del]
        by_cases q1:j=σ.next <;> by_cases q2:j=l <;> simp [q1,q2]
       ·exact ⟨b1,K1,by simp [newOb,St.del,← hw.len],by omega,by simp⟩
     split at h
     ·
      simp only [newOb,Option.some.injEq,Prod.mk.injEq] at h
      obtain ⟨rfl,rfl⟩:=h
      have hsp:=g3 rfl
      subst hsp
      rw [Array.append_empty,hcl] at g5
      have:=Nat.le_of_mul_le_mul_right g5 c3
      exact grow σ .spare (by intro h;cases h) rfl hw (by omega)
     ·cases hk0:Nat.beq k 0 with
      |false=>rw [hk0] at h;cases h
      |true=>
       rw [hk0] at h;simp only [cond_true,newOb,Option.some.injEq,Prod.mk.injEq] at h
       obtain ⟨rfl,rfl⟩:=h
       exact room .spare (by intro h;cases h) g4 (Nat.eq_of_beq_eq_true hk0)
     ·cases hk0:Nat.beq k 0 with
      |false=>rw [hk0] at h;cases h
      |true=>
       rw [hk0] at h;simp only [cond_true,newOb,Option.some.injEq,Prod.mk.injEq] at h
       obtain ⟨rfl,rfl⟩:=h
       exact room .marked (by intro h;cases h) g4 (Nat.eq_of_beq_eq_true hk0)
   ·cases h
end
end Vx
set_option linter.unusedVariables false
set_option linter.unusedSimpArgs false
namespace Vx
open Go Go.RowKit
section
variable {V:VP} {P:Program} {s:Atoms}
theorem sub_ok {base:Nat} {w0:World} {ρ:Rho} {σ:St} {w:World} (hw:RW V s base w0 ρ σ w) {l:Nat} {e:TypeId} {cs c:List LV} {k:RK} (hl:σ.heap.get l=some (.row e cs k)) {b K off n:Nat} (hb:ρ[l]?=some (.row b K))
  (h:sub cs off n=some c):∃ vs,RVs s ρ c vs∧vs.length=n∧∀ j v,vs[j]?=some v→w.cell? ((⟨b,off,none⟩:Addr).add j)=some v:=by
 obtain ⟨a,sp,fr,g1,g2,_⟩:=row_of hw hl hb
 obtain ⟨vs,r1,r2,r3,r4,r5⟩:=stretch (sp:=sp) g2 h
 exact ⟨vs,r1,r2,fun j v hj=>by rw [addr_add,row_cell g1];exact r5 j v hj⟩
theorem copy_ok (hV:V.Ok P s) {base:Nat} {w0:World} {ρ:Rho} {σ σ':St} {w:World} (hw:RW V s base w0 ρ σ w) {t u ty:TypeId} {x y r:LV} {a b:Value} (hx:RV s ρ x a) (hy:RV s ρ y b)
  (h:builtinL V σ .copy [t,u] [x,y]=some (r,σ')):Gives V s base w0 ρ ((Builtin.copy_ #[t,u] ty #[a,b]).run P w) r σ':=by
 simp only [builtinL] at h
 split at h
 case h_2=>cases h
 rename_i i hi
 split at h
 case h_2=>cases h
 rename_i e he
 split at h
 ·cases h
 rename_i j hj
 have hu:=run_und' hV hi w
 have hsz:=run_sizeOf' hV hj w
 split at h
 ·simp only [RV] at hx;subst hx
  split at h
  ·simp only [RV] at hy;subst hy;cases h
   exact Gives.same hw (x:=goInt 0) (by simp [Builtin.copy_,hu,he,Builtin.lenOf,Builtin.firstCells,hsz]) rfl
  ·obtain ⟨b2,K2,_,_,rfl⟩:=hy;cases h
   exact Gives.same hw (x:=goInt 0) (by simp [Builtin.copy_,hu,he,Builtin.lenOf,Builtin.firstCells,hsz,loadCells,loadCellsFrom]) rfl
  ·cases h
 ·rename_i ld id esz n
  obtain ⟨b1,K1,h1,h2,rfl⟩:=hx
  split at h
  ·simp only [RV] at hy;subst hy;cases h
   exact Gives.same hw (x:=goInt 0) (by simp [Builtin.copy_,hu,he,Builtin.lenOf,Builtin.firstCells,hsz,storeCells]) rfl
  ·rename_i ls is esz' m
   obtain ⟨b2,K2,k1,k2,rfl⟩:=hy
   split at h
   case h_2=>cases h
   rename_i e1 cd k e2 cs k3 gd gs
   cases hc:(Nat.beq esz j.size&&Nat.beq esz' j.size&&k.plain) with
   |false=>rw [hc] at h;cases h
   |true=>
    rw [hc] at h
    simp only [cond_true] at h
    simp only [Bool.and_eq_true] at hc
    have d1:=Nat.eq_of_beq_eq_true hc.1.1
    have d2:=Nat.eq_of_beq_eq_true hc.1.2
    subst d1;subst d2
    split at h
    case h_2=>cases h
    rename_i c hcs
    cases h1o:allOne c with
    |false=>rw [h1o] at h;cases h
    |true=>
     rw [h1o] at h;simp only [cond_true] at h
     split at h
     case h_2=>cases h
     rename_i cd' hov
     cases h
     obtain ⟨vs,r1,r2,r3⟩:=sub_ok hw gs k1 hcs
     obtain ⟨w',q1,q2⟩:=RW.write (P:=P) hw gd hc.2 h1 r1 h1o hov
     have hload:=run_loadCells_list (P:=P) w ⟨b2,is * j.size,none⟩ vs r3
     rw [r2] at hload
     refine ⟨goInt (Nat.min m n:Nat),w',ρ,?_,List.prefix_refl _,q2,rfl⟩
     simp [Builtin.copy_,hu,he,Builtin.lenOf,Builtin.firstCells,hsz,hload,q1]
  ·cases h
 ·cases h
theorem clr_ok {ρ:Rho} {x:LV} {v:Value} (h:RV s ρ x v):∀ n,RVs s ρ (repeatL [x] n) (List.replicate n v)
 |0=>rfl
 |n+1=>⟨v,_,rfl,h,clr_ok h n⟩
theorem clr_one {x:LV} (h:x.one=true):∀ n,allOne (repeatL [x] n)=true
 |0=>rfl
 |n+1=>by
  change (x.one&&allOne (repeatL [x] n))=true
  rw [h,clr_one h n];rfl
theorem clear_ok (hV:V.Ok P s) {base:Nat} {w0:World} {ρ:Rho} {σ σ':St} {w:World} (hw:RW V s base w0 ρ σ w) {t ty:TypeId} {x r:LV} {a:Value} (hx:RV s ρ x a)
  (h:builtinL V σ .clear [t] [x]=some (r,σ')):Gives V s base w0 ρ ((Builtin.clear_ #[t] ty #[a]).run P w) r σ':=by
 simp only [builtinL] at h
 split at h
 case h_2=>cases h
 rename_i i hi
 split at h
 case h_2=>cases h
 rename_i e he
 split at h
 ·cases h
 rename_i j hj
 have hu:=run_und' hV hi w
 obtain ⟨z,hz1,hz2,_⟩:=run_zero' hV hj
 split at h
 case h_2=>cases h
 rename_i l k esz n
 obtain ⟨b1,K1,h1,h2,rfl⟩:=hx
 split at h
 case h_2=>cases h
 rename_i et cs kk hl
 cases hc:(kk.plain&&j.zv.one&&Nat.beq esz 1) with
 |false=>rw [hc] at h;cases h
 |true=>
  rw [hc] at h;simp only [cond_true] at h
  simp only [Bool.and_eq_true] at hc
  have d1:=Nat.eq_of_beq_eq_true hc.2
  subst d1
  split at h
  case h_2=>cases h
  rename_i cs' hov
  cases h
  have hzv:RV s ρ j.zv z:=ofV_ok hz2
  obtain ⟨w',q1,q2⟩:=RW.write (P:=P) hw hl hc.1.1 h1 (clr_ok hzv (n+1)) (clr_one hc.1.2 (n+1)) hov
  have hcells:z.cells=#[z]:=by
   obtain ⟨o1,o2⟩:=one_ok hzv hc.1.2
   cases z <;> first|rfl|exact absurd rfl (o1 _)|exact absurd rfl (o2 _)
  have hzc:(Builtin.zeroCells z.cells (n+1)).toList=List.replicate (n+1) z:=by
   rw [hcells]
   simp [Builtin.zeroCells]
   apply List.ext_getElem
   ·simp
   ·intro i h1 h2
    simp [Nat.mod_one]
  refine ⟨.tuple #[],w',ρ,?_,List.prefix_refl _,q2,⟨#[],rfl,rfl⟩⟩
  rw [Nat.mul_one]
  simp [Builtin.clear_,hu,he,hz1,hzc,q1]
theorem bytesOf_ok {ρ:Rho}:∀ {l:List LV} {b:List UInt8} {vs:List Value},RVs s ρ l vs→bytesOf l=some b→vs=(b.map fun c=>Value.int .u8 c.toNat)
 |[],b,vs,h,h'=>by simp only [bytesOf,Option.some.injEq] at h';subst h';exact h
 |x::r,b,vs,h,h'=>by
  obtain ⟨v,vs',rfl,h1,h2⟩:=h
  unfold bytesOf at h'
  split at h'
  ·rename_i heq;cases heq
  ·rename_i n r' heq
   cases heq
   cases hb:Nat.blt n 256 with
   |false=>rw [hb] at h';cases h'
   |true=>
    rw [hb] at h';simp only [cond_true] at h'
    split at h'
    case h_2=>cases h'
    rename_i l hl
    cases h'
    have:=bytesOf_ok h2 hl
    subst this
    simp only [RV] at h1;subst h1
    have hn:n < 256:=Nat.le_of_ble_eq_true hb
    have hu:(UInt8.ofNat n).toNat=n:=UInt8.toNat_ofNat_of_lt' (by simpa using hn)
    simp only [List.map_cons,List.cons.injEq,Value.int.injEq,true_and,and_true]
    rw [hu];rfl
  ·cases h'
theorem foldl_push (l:List UInt8):∀ a:ByteArray,((l.map fun c=>(c.toNat:Int)).foldl (fun r n=>r.push (UInt8.ofNat n.toNat)) a).data.toList=a.data.toList++l:=by
 induction l with
 |nil=>simp
 |cons c r ih=>intro a;simp only [List.map_cons,List.foldl_cons,ih];simp [ByteArray.push]
theorem run_bytes (w:World) (a:Addr) (l:List UInt8) (cap:Nat) (h:∀ j v,(l.map fun c=>Value.int .u8 (c.toNat:Int))[j]?=some v→w.cell? (a.add j)=some v):
  ∃ b,(Conv.bytesToString (.slice (some a) l.length cap)).run P w=.ok (.string b) w∧b.data.toList=l:=by
 have hload:=run_loadCells_list (P:=P) w a (l.map fun c=>Value.int .u8 (c.toNat:Int)) h
 rw [List.length_map] at hload
 have:=run_bytesToString (P:=P) w a l.length cap (l.map fun c=>(c.toNat:Int)) (by rw [hload];simp [List.map_map])
 exact ⟨_,this,by rw [foldl_push];rfl⟩
theorem isU8_ok (hV:V.Ok P s) {e:TypeId} (h:isU8 V e=true):P.underlying e=some (.int .u8):=by
 unfold isU8 at h
 split at h
 ·rename_i u hu
  split at h
  ·rename_i heq
   rw [(info_of hV hu).2.1,heq]
  ·cases h
 ·cases h
theorem isU8_size {e:TypeId} (h:isU8 V e=true) (i:TI) (hi:V.ty.get e=some i):i.size=1:=by
 unfold isU8 at h
 rw [hi] at h
 simp only at h
 split at h
 ·exact Nat.eq_of_beq_eq_true h
 ·cases h
theorem freeze_at {w:World} {b n:Nat} {c:Array Value} {e:TypeId} {fr:Nat×Nat} (h:w.heap[b]?=some (.cells c e fr)):
  (w.freeze ⟨b,n,none⟩ 1).heap[b]?=some (.cells c e (if fr.1==fr.2 then (n,n+1) else (min fr.1 n,max fr.2 (n+1)))) ∧
  (∀ j,j≠b→(w.freeze ⟨b,n,none⟩ 1).heap[j]?=w.heap[j]?)∧(w.freeze ⟨b,n,none⟩ 1).heap.size=w.heap.size:=by
 obtain ⟨lo,hi⟩:=fr
 refine ⟨?_,?_,?_⟩
 ·simp only [World.freeze,Nat.one_ne_zero,if_false,Array.getElem?_modify,if_true,h,Option.map_some]
 ·intro j hj
  simp only [World.freeze,Nat.one_ne_zero,if_false,Array.getElem?_modify]
  rw [if_neg (by omega)]
 ·simp [World.freeze]
theorem run_bytesAt {w:World} {x:Value} {l:List UInt8} (h:bytesAt w x l):∃ b,(Conv.bytesToString x).run P w=.ok (.string b) w∧b.data.toList=l:=by
 rcases h with ⟨rfl,c,rfl⟩|⟨b,o,c,cs,e,fr,rfl,h1,h2⟩
 ·exact ⟨ByteArray.empty,rfl,rfl⟩
 ·refine run_bytes w ⟨b,o,none⟩ l c ?_
  intro j v hj
  rw [addr_add,row_cell h1]
  rw [List.getElem?_map] at hj
  cases hq:l[j]? with
  |none=>rw [hq] at hj;cases hj
  |some u=>
   rw [hq] at hj
   obtain ⟨hlt,hu⟩:=List.getElem?_eq_some_iff.1 hq
   simp only [Option.map_some,Option.some.injEq] at hj
   rw [h2.2 j hlt,hu,hj]
theorem convL_ok (hV:V.Ok P s) {base:Nat} {w0:World} {ρ:Rho} {σ σ':St} {w:World} (hw:RW V s base w0 ρ σ w) {t u:TypeId} {x r:LV} {a:Value} (hx:RV s ρ x a)
  (h:convL V σ t u x=some (r,σ')):Gives V s base w0 ρ ((convert t u a).run P w) r σ':=by
 unfold convL at h
 split at h
 case h_2=>cases h
 rename_i i j hi hj
 have h1:=run_und' hV hi w
 have h2:=run_und' hV hj w
 obtain ⟨_,p1,_⟩:=info_of hV hi
 obtain ⟨_,p2,_⟩:=info_of hV hj
 split at h
 ·rename_i k k2 k3 n e1 e2
  cases h;simp only [RV] at hx;subst hx
  exact Gives.same hw (x:=.int k2 (k2.wrap n)) (by simp [convert,h1,h2,e1,e2,Conv.intToInt]) rfl
 ·rename_i t e1 e2
  cases h
  have hx2:=hx
  obtain ⟨b,rfl,hb⟩:=hx
  exact Gives.same hw (x:=.string b) (by simp [convert,h1,h2,e1,e2]) hx2
 ·rename_i e l t e1 e2
  cases hc:isU8 V e with
  |false=>rw [hc] at h;cases h
  |true=>
   rw [hc] at h;simp only [cond_true] at h
   split at h
   case h_2=>cases h
   rename_i t' ht
   cases h
   have hx2:=hx
   obtain ⟨_,a',n,c,rfl,_⟩:=hx
   obtain ⟨b,r1,r2⟩:=run_bytesAt (P:=P) (textAt_ok hw ht hx2)
   refine Gives.same hw (x:=.string b) ?_ ⟨b,rfl,r2⟩
   rw [run_convert_bytes_string w _ _ e a' n c (by rw [p1,e1]) (isU8_ok hV hc) (by rw [p2,e2]),r1]
 ·rename_i e e1 e2
  cases hc:isU8 V e with
  |false=>rw [hc] at h;cases h
  |true=>
   rw [hc] at h;simp only [cond_true] at h
   cases h
   simp only [RV] at hx;subst hx
   refine Gives.same hw (x:=.string ByteArray.empty) ?_ ⟨_,rfl,rfl⟩
   rw [run_convert_bytes_string w _ _ e none 0 0 (by rw [p1,e1]) (isU8_ok hV hc) (by rw [p2,e2])];rfl
 ·rename_i e l k esz n e1 e2
  cases hc:isU8 V e with
  |false=>rw [hc] at h;cases h
  |true=>
   rw [hc] at h;simp only [cond_true] at h
   split at h
   case h_2=>cases h
   rename_i c hcs
   split at h
   case h_2=>cases h
   rename_i b hb
   cases h
   rcases cellsOf_ok hw hx hcs with ⟨q,_⟩|⟨l2,i2,len2,b2,K2,vs,q,k1,k2,rfl,k4,k5,k6⟩
   ·cases q
   ·have:=bytesOf_ok k4 hb
    subst this
    rw [List.length_map,Nat.mul_one] at k5
    obtain ⟨bb,r1,r2⟩:=run_bytes (P:=P) w ⟨b2,i2 * 1,none⟩ b (K2 - i2) k6
    refine Gives.same hw (x:=.string bb) ?_ ⟨bb,rfl,by rw [den_ofBytes,r2]⟩
    rw [run_convert_bytes_string w _ _ e _ len2 (K2 - i2) (by rw [p1,e1]) (isU8_ok hV hc) (by rw [p2,e2]),← k5,r1]
 ·rename_i e t e1 e2
  cases hc:isU8 V e with
  |false=>rw [hc] at h;cases h
  |true=>
   rw [hc] at h;simp only [cond_true] at h
   obtain ⟨b,rfl,hb⟩:=hx
   have hrun:=Lib.run_convert_string_bytes w _ _ e b (by rw [p1,e1]) (by rw [p2,e2]) (isU8_ok hV hc)
   have hge:=grownCap_ge w b.size 0 e
   have hbel:Below w.heap.size w (Lib.bytesWorld w e b):=⟨rfl,rfl,rfl,by rw [Lib.bytesWorld_size];omega,fun k hk=>Lib.bytesWorld_at_old w e b k hk⟩
   have hcs:(Lib.bytesCells w e b)=(b.data.map fun c=>Value.int .u8 (c.toNat:Int))++Array.replicate (grownCap w b.size 0 e - b.size) (.int .u8 0):=rfl
   split at h
   ·rename_i lb hlb
    simp only [newOb,Option.some.injEq,Prod.mk.injEq] at h
    obtain ⟨rfl,rfl⟩:=h
    rw [den_lit hlb] at hb
    have hsz:b.size=lb.length:=by rw [← hb];rfl
    have hnew:=Lib.bytesWorld_at_new w e b
    have hsc:(Lib.bytesCells w e b).size=grownCap w b.size 0 e:=by
     rw [hcs];simp only [Array.size_append,Array.size_map,Array.size_replicate]
     have:b.data.size=b.size:=rfl
     omega
    refine ⟨_,_,_,hrun,prefix_snoc _ _,hw.allocTo hbel (Lib.bytesWorld_size w e b) (grownCap w b.size 0 e) _ ⟨_,_,_,_,_,rfl,by rw [hnew,hcs],?_,(fun h=>by cases h),?_,?_⟩,?_⟩
    ·simp only [Array.toList_map,hb];exact litCells_ok ρ lb
    ·exact .inr (by rw [← hcs];exact Nat.le_refl _)
    ·intro i' hi'
     have hu:=isU8_ok hV hc
     rw [← hcs,hsc,isU8_size hc i' hi',Nat.mul_one]
     exact Nat.le_refl _
    ·exact ⟨w.heap.size,grownCap w b.size 0 e,by simp [← hw.len],by omega,by simp [hsz]⟩
   ·simp only [newOb,Option.some.injEq,Prod.mk.injEq] at h
    obtain ⟨rfl,rfl⟩:=h
    have hnew:=Lib.bytesWorld_at_new w e b
    have hsz:b.size=(den s t).length:=by rw [← hb];rfl
    refine ⟨_,_,_,hrun,prefix_snoc _ (.val (.slice (some ⟨w.heap.size,0,none⟩) b.size (grownCap w b.size 0 e))),(hw.world hbel).allocView ?_ ?_ ?_,?_⟩
    ·right
     refine ⟨w.heap.size,0,_,_,_,_,by rw [hsz],hnew,by rw [← hsz];exact hge,?_⟩
     intro k hk
     rw [hcs,Nat.zero_add,Array.getElem?_append_left (by simp;have:b.data.size=b.size:=rfl;omega)]
     simp only [← hb,Array.getElem?_map]
     have hk':k < b.data.size:=by have:b.data.size=b.size:=rfl;omega
     rw [Array.getElem?_eq_getElem hk'];simp
    ·intro b' hb'
     cases hb'
     rw [Lib.bytesWorld_size]
     exact ⟨hw.base_le,Nat.lt_succ_self _⟩
    ·intro l' o' bd' b' hl' hr' hb1 hb2
     cases hb2
     exact absurd (hw.low l' o' bd' _ hl' hr' hb1).2 (Nat.lt_irrefl _)
    ·exact ⟨by simp [← hw.len],_,_,_,rfl,hsz⟩
 ·rename_i e e' l k esz n e1 e2
  split at h
  case h_2=>cases h
  rename_i e3 cs kk hl
  cases hc:(isU8 V e&&Nat.beq t u) with
  |false=>rw [hc] at h;cases h
  |true=>
   rw [hc] at h;simp only [cond_true] at h
   simp only [Bool.and_eq_true] at hc
   cases h
   have:=Nat.eq_of_beq_eq_true hc.2
   subst this
   have hu8:=isU8_ok hV hc.1
   have hx2:=hx
   obtain ⟨b,K,g1,g2,rfl⟩:=hx
   obtain ⟨c,sp,fr,q1,q2,q3,q4,q5⟩:=row_of hw hl g1
   have hsh:w.shape? b=some (e3,(c++sp).size):=by simp [World.shape?,q1]
   refine ⟨.slice (some ⟨b,k * esz,none⟩) n (K - k),w.freeze ⟨b,(c++sp).size,none⟩ 1,ρ,?_,List.prefix_refl _,?_,hx2⟩
   ·simp [convert,h1,e1,run_underlying hu8,markStringish,hsh]
   ·have hblt:b < w.heap.size:=(Array.getElem?_eq_some_iff.1 q1).1
    obtain ⟨f1,f2,f3⟩:=freeze_at (n:=(c++sp).size) q1
    refine hw.upd (bd:=.row b K) (b:=b) hl rfl rfl g1 rfl f3 f2 rfl rfl rfl ⟨b,K,c,sp,_,rfl,f1,q2,(fun h=>by cases h),?_,q5⟩
    have hcase:fr=(0,0)∨(c++sp).size≤fr.1:=by
     cases kk
     ·exact .inl q4
     ·exact .inl q4
     ·exact q4
    rcases hcase with rfl|hle
    ·exact .inr (by simp)
    ·right
     split
     ·exact Nat.le_refl _
     ·simp only;omega
 ·rename_i k n1 n e1 e2
  cases h;simp only [RV] at hx;subst hx
  exact Gives.same hw (x:=.string (Utf8.encode n)) (by simp [convert,h1,h2,e1,e2,Conv.intToString]) ⟨_,rfl,(den_ofBytes _ _).symm⟩
 ·cases h
end
end Vx
set_option linter.unusedVariables false
set_option linter.unusedSimpArgs false
namespace Vx
open Go Go.RowKit
section
variable {V:VP} {P:Program} {s:Atoms}
theorem sameNow_ok (hF:V.facts.Ok s) {ρ:Rho} {d:TypeDesc} {k k':LV} {a b:Value} {r:Bool} (ha:RV s ρ k a) (hb:RV s ρ k' b) (h:keyEq V d k k'=some r):
  Instr.sameNow d a b=some r∧(r=true→a=b)∧(r=true→∀ n,Instr.sameBits n b a=true):=by
 unfold keyEq at h
 split at h
 ·rename_i ta tb
  obtain ⟨xa,rfl,hxa⟩:=ha
  obtain ⟨xb,rfl,hxb⟩:=hb
  have he:=eq?_ok hF h
  have hbe:(xa==xb)=r:=by rw [beqB,hxa,hxb,he]
  refine ⟨by simp [Instr.sameNow,hbe],fun hr=>?_,fun hr n=>?_⟩
  ·subst hr
   have:xa.data.toList=xb.data.toList:=by rw [beqB] at hbe;simpa using hbe
   congr 1
   cases xa;cases xb;simp only [ByteArray.mk.injEq];exact Array.ext' this
  ·subst hr
   have h2:(xb==xa)=true:=by rw [beqB] at hbe ⊢;simpa using (of_decide_eq_true hbe).symm
   cases n <;> simpa [Instr.sameBits] using h2
 ·rename_i k0 k1 x k2 y
  simp only [RV] at ha hb;subst ha hb
  cases hk:kindBeq k1 k2 with
  |false=>rw [hk] at h;cases h
  |true=>
   rw [hk] at h;simp only [cond_true,Option.some.injEq] at h
   have:=kindBeq_ok hk;subst this
   refine ⟨by simp [Instr.sameNow,h],fun hr=>?_,fun hr n=>?_⟩
   ·subst hr;have:x=y:=by simpa using h
    rw [this]
   ·subst hr;have:x=y:=by simpa using h
    subst this
    cases n <;> simp [Instr.sameBits]
 ·cases h
theorem findE_ok (hF:V.facts.Ok s) {ρ:Rho} {d:TypeDesc} {k:LV} {a:Value} (ha:RV s ρ k a):∀ {es:List (LV×LV)} {l:List MapEntry} {r:Option LV} (i:Nat),REnts s ρ es l→findE V d k es=some r →
  match r with
  |none=>Instr.findNow d a l i=some none
  |some v=>∃ j x,Instr.findNow d a l i=some (some (j,x))∧RV s ρ v x
 |[],l,r,i,h,h'=>by
  simp only [findE,Option.some.injEq] at h';subst h'
  simp only [REnts] at h;subst h;rfl
 |(k',v)::es,l,r,i,h,h'=>by
  obtain ⟨e,l',rfl,h1,h2,h3⟩:=h
  simp only [findE] at h'
  split at h'
  ·rename_i hk
   simp only [Option.some.injEq] at h';subst h'
   exact ⟨i,e.val,by simp [Instr.findNow,(sameNow_ok hF ha h1 hk).1],h2⟩
  ·rename_i hk
   have:=findE_ok hF ha (i+1) h3 h'
   have hs:=(sameNow_ok hF ha h1 hk).1
   cases r with
   |none=>simpa [Instr.findNow,hs] using this
   |some v'=>
    obtain ⟨j,x,g1,g2⟩:=this
    exact ⟨j,x,by simp [Instr.findNow,hs,g1],g2⟩
  ·cases h'
theorem setE_ok (hF:V.facts.Ok s) {ρ:Rho} {d:TypeDesc} {k v:LV} {a b:Value} (ha:RV s ρ k a) (hb:RV s ρ v b):∀ {es es':List (LV×LV)} {l:List MapEntry} (i:Nat),REnts s ρ es l→setE V d k v es=some es' →
  (∃ j e,Instr.findNow d a l i=some (some (i+j,e.val))∧l[j]?=some e∧e.key=a∧(∀ n,Instr.sameBits n e.key a=true)∧∀ e':MapEntry,e'.key=a→e'.val=b→REnts s ρ es' (l.set j e')) ∨
  (Instr.findNow d a l i=some none∧∀ e':MapEntry,e'.key=a→e'.val=b→REnts s ρ es' (l++[e']))
 |[],es',l,i,h,h'=>by
  simp only [setE,Option.some.injEq] at h';subst h'
  simp only [REnts] at h;subst h
  exact .inr ⟨rfl,fun e' h1 h2=>⟨e',[],rfl,by rw [h1];exact ha,by rw [h2];exact hb,rfl⟩⟩
 |(k',v')::es,es',l,i,h,h'=>by
  obtain ⟨e,l',rfl,h1,h2,h3⟩:=h
  simp only [setE] at h'
  split at h'
  ·rename_i hk
   simp only [Option.some.injEq] at h';subst h'
   obtain ⟨g1,g2,g3⟩:=sameNow_ok hF ha h1 hk
   exact .inl ⟨0,e,by simp [Instr.findNow,g1],rfl,(g2 rfl).symm,g3 rfl,fun e' q1 q2=>⟨e',l',rfl,by rw [q1];exact ha,by rw [q2];exact hb,h3⟩⟩
  ·rename_i hk
   split at h'
   case h_2=>cases h'
   rename_i r hr
   simp only [Option.some.injEq] at h';subst h'
   have hs:=(sameNow_ok hF ha h1 hk).1
   rcases setE_ok hF ha hb (i+1) h3 hr with ⟨j,e0,g1,g2,g3,g4,g5⟩|⟨g1,g2⟩
   ·refine .inl ⟨j+1,e0,?_,by simpa using g2,g3,g4,fun e' q1 q2=>⟨e,_,by simp,h1,h2,g5 e' q1 q2⟩⟩
    simp only [Instr.findNow,hs,g1]
    congr 3;omega
   ·exact .inr ⟨by simp [Instr.findNow,hs,g1],fun e' q1 q2=>⟨e,_,by simp,h1,h2,g2 e' q1 q2⟩⟩
  ·cases h'
theorem checkKey_ok (hV:V.Ok P s) {ρ:Rho} {kt:TypeId} {i:TI} (hi:V.ty.get kt=some i) {k:LV} {a:Value} (hk:RV s ρ k a) (h:keyOk i.und k=true) (m:Bool) (w:World):(Instr.checkKey m 10000 kt a).run P w=.ok () w:=by
 have hu:=run_und' hV hi w
 have hgo:∀ n:Nat,(Instr.checkKey m (n+1) kt a).run P w=.ok () w:=by
  intro n
  unfold keyOk at h
  split at h
  ·rename_i heq
   obtain ⟨b,rfl,_⟩:=hk
   simp [Instr.checkKey,hu,heq]
  ·rename_i heq
   simp only [RV] at hk;subst hk
   simp [Instr.checkKey,hu,heq]
  ·cases h
 exact hgo 9999
theorem map_of {base:Nat} {w0:World} {ρ:Rho} {σ:St} {w:World} (hw:RW V s base w0 ρ σ w) {l:Nat} {es:List (LV×LV)} (hl:σ.heap.get l=some (.map es)) {b K:Nat} (hb:ρ[l]?=some (.row b K)):
  ∃ ents clock,w.heap[b]?=some (.map ents clock)∧REnts s ρ es ents.toList:=by
 obtain ⟨bd,h1,h2⟩:=hw.ob l _ hl
 rw [hb] at h1;cases h1
 obtain ⟨b',K',ents,clock,e,h3,h4⟩:=h2
 cases e
 exact ⟨ents,clock,h3,h4⟩
theorem lookup_ok (hV:V.Ok P s) {base:Nat} {w0:World} {ρ:Rho} {σ:St} {w:World} (hw:RW V s base w0 ρ σ w) {t kt e:TypeId} {j kd i:TI} (hj:V.ty.get t=some j) (hje:j.und=.map kt e) (hkd:V.ty.get kt=some kd) (hi:V.ty.get e=some i)
  {x k:LV} {a b:Value} (hx:RV s ρ x a) (hk:RV s ρ k b) (hok:keyOk kd.und k=true) {r:Option LV}
  (h:mapRead V σ kd.und x k=some r) (ok:Bool):
  ∃ v,(Instr.lookup t a b ok).run P w=.ok v w ∧
   RV s ρ (match r with|some w=>cond ok (.tuple [w,.bool true]) w|none=>cond ok (.tuple [i.zv,.bool false]) i.zv) v:=by
 have hu:=run_und' hV hj w
 have huk:=fun w=>run_und' hV hkd w
 obtain ⟨z,z1,z2,_⟩:=zero_cells hV hi ρ
 have fin:∀ (v:Value) (lv:LV) (b:Bool),RV s ρ lv v→RV s ρ (cond ok (.tuple [lv,.bool b]) lv) (if ok then .tuple #[v,.bool b] else v):=by
  intro v lv b hv
  cases ok
  ·exact hv
  ·exact ⟨_,rfl,v,_,rfl,hv,_,_,rfl,rfl,rfl⟩
 unfold mapRead at h
 cases x <;> simp only at h
 case nilm=>
  cases h
  simp only [RV] at hx;subst hx
  refine ⟨_,?_,fin z i.zv false z2⟩
  have hck:=checkKey_ok hV hkd hk hok true w
  simp [Instr.lookup,hu,hje,hck,Instr.findKey,huk,Instr.findNow,z1]
 case map l=>
  split at h
  case h_2=>cases h
  rename_i es hl
  obtain ⟨bb,K,hb,rfl⟩:=hx
  obtain ⟨ents,clock,g1,g2⟩:=map_of hw hl hb
  have hfe:=findE_ok hV.facts hk 0 g2 h
  have hget:(getObj bb).run P w=.ok (.map ents clock) w:=by simp [getObj,Sem.run,g1]
  have hck:=fun m=>checkKey_ok hV hkd hk hok m w
  cases r with
  |none=>
   simp only at hfe
   refine ⟨_,?_,fin z i.zv false z2⟩
   simp [Instr.lookup,hu,hje,hget,hck,Instr.findKey,huk,hfe,z1]
  |some v=>
   obtain ⟨jj,x,f1,f2⟩:=hfe
   refine ⟨_,?_,fin x v true f2⟩
   simp [Instr.lookup,hu,hje,hget,hck,Instr.findKey,huk,f1]
 all_goals cases h
theorem mapUpdate_ok (hV:V.Ok P s) {base:Nat} {w0:World} {ρ:Rho} {σ:St} {w:World} (hw:RW V s base w0 ρ σ w) {t kt e:TypeId} {j kd:TI} (hj:V.ty.get t=some j) (hje:j.und=.map kt e) (hkd:V.ty.get kt=some kd)
  {l:Nat} {k x:LV} {a b c:Value} (ha:RV s ρ (.map l) a) (hk:RV s ρ k b) (hx:RV s ρ x c) (hok:keyOk kd.und k=true) {es es':List (LV×LV)} (hl:σ.heap.get l=some (.map es)) (h:setE V kd.und k x es=some es'):
  ∃ w',(Instr.mapUpdate t a b c).run P w=.ok () w'∧RW V s base w0 ρ (σ.set l (.map es')) w':=by
 have hu:=run_und' hV hj w
 have huk:=fun w=>run_und' hV hkd w
 obtain ⟨bb,K,hb,rfl⟩:=ha
 obtain ⟨ents,clock,g1,g2⟩:=map_of hw hl hb
 have hget:(getObj bb).run P w=.ok (.map ents clock) w:=by simp [getObj,Sem.run,g1]
 have hck:=checkKey_ok hV hkd hk hok false w
 have hset:∀ o,(setObj bb o).run P w=.ok () { w with heap:=w.heap.setIfInBounds bb o }:=by intro o;simp [setObj,Sem.run,g1]
 have hlt:bb < w.heap.size:=(Array.getElem?_eq_some_iff.1 g1).1
 have upd:∀ ents' clock',REnts s ρ es' ents'.toList→RW V s base w0 ρ (σ.set l (.map es')) { w with heap:=w.heap.setIfInBounds bb (.map ents' clock') }:=by
  intro ents' clock' he
  refine hw.upd (bd:=.row bb K) (b:=bb) hl rfl rfl hb rfl (by simp) (fun k hk=>?_) rfl rfl rfl ⟨bb,K,ents',clock',rfl,?_,he⟩
  ·simp [Array.getElem?_setIfInBounds_ne (Ne.symm hk)]
  ·simp [hlt]
 rcases setE_ok hV.facts hk hx 0 g2 h with ⟨jj,e0,f1,f2,f3,f4,f5⟩|⟨f1,f2⟩
 ·have hstay:(Instr.keyThatStays (((ents[0+jj]?).map (·.key)).getD b) b).run P w=.ok b w:=by
   rw [Nat.zero_add]
   have:ents[jj]?=some e0:=by simpa using f2
   rw [this]
   simp [Instr.keyThatStays,f4 10000]
  refine ⟨_,?_,upd (ents.modify (0+jj) fun e=>{ e with key:=b,val:=c }) clock ?_⟩
  ·simp only [Instr.mapUpdate,Sem.run_bind,hu,hje,Result.andThen_ok,hget,hck,Instr.findKey,huk,f1,Sem.run_pure,hstay,hset]
  ·have e1:(ents.modify (0+jj) fun e=>{ e with key:=b,val:=c }).toList=ents.toList.set jj { e0 with key:=b,val:=c }:=by
    rw [Nat.zero_add]
    have hlt2:=(List.getElem?_eq_some_iff.1 f2).1
    have hv2:=(List.getElem?_eq_some_iff.1 f2).2
    rw [Array.toList_modify]
    apply List.ext_getElem?
    intro q
    rw [List.getElem?_modify,List.getElem?_set]
    by_cases hq:jj=q
    ·subst hq;simp only [if_true];rw [f2];simp;simpa using hlt2
    ·simp [hq]
   rw [e1]
   exact f5 _ rfl rfl
 ·refine ⟨_,?_,upd (ents.push { key:=b,val:=c,born:=clock }) (clock+1) ?_⟩
  ·simp only [Instr.mapUpdate,Sem.run_bind,hu,hje,Result.andThen_ok,hget,hck,Instr.findKey,huk,f1,Sem.run_pure,hset]
  ·rw [Array.toList_push]
   exact f2 _ rfl rfl
theorem assertL_ok (hV:V.Ok P s) {ρ:Rho} (w:World) {x r:LV} {a:Value} {xt t:TypeId} {ok:Bool} (hx:RV s ρ x a) (h:assertL V x t ok=some r):∃ v,(Instr.typeAssert a xt t ok).run P w=.ok v w∧RV s ρ r v:=by
 unfold assertL at h
 split at h
 ·cases h
 rename_i i hi
 have hu:=run_und' hV hi w
 obtain ⟨z,z1,z2,_⟩:=zero_cells hV hi ρ
 have fails:∀ {m:Option LV},m=cond ok (some (.tuple [i.zv,.bool false])) none→m=some r→ok=true∧RV s ρ r (.tuple #[z,.bool false]):=by
  intro m hm hr
  rw [hm] at hr
  cases ok with
  |false=>cases hr
  |true=>simp only [cond_true,Option.some.injEq] at hr;subst hr;exact ⟨rfl,_,rfl,z,_,rfl,z2,_,_,rfl,rfl,rfl⟩
 have holds:∀ (lv:LV) (v:Value),RV s ρ lv v→r=cond ok (.tuple [lv,.bool true]) lv→RV s ρ r (if ok then .tuple #[v,.bool true] else v):=by
  intro lv v hv hr
  subst hr
  cases ok
  ·exact hv
  ·exact ⟨_,rfl,v,_,rfl,hv,_,_,rfl,rfl,rfl⟩
 split at h
 ·rename_i ms heq
  simp only [RV] at hx;subst hx
  obtain ⟨rfl,hr⟩:=fails rfl h
  exact ⟨_,by simp [Instr.typeAssert,hu,heq,z1],hr⟩
 ·rename_i want t1 v1 heq
  obtain ⟨v',rfl,hv⟩:=hx
  split at h
  case h_2=>cases h
  rename_i jj hjj
  have hti:=(info_of hV hjj).1
  split at h
  ·rename_i hm
   simp only [Option.some.injEq] at h
   exact ⟨_,by simp [Instr.typeAssert,hu,heq,typeInfo,hti,hm],holds (.iface t1 v1) (.iface t1 v') ⟨v',rfl,hv⟩ h.symm⟩
  ·rename_i m hm
   obtain ⟨rfl,hr⟩:=fails rfl h
   exact ⟨_,by simp [Instr.typeAssert,hu,heq,typeInfo,hti,hm,z1],hr⟩
 ·rename_i hne
  simp only [RV] at hx;subst hx
  obtain ⟨rfl,hr⟩:=fails rfl h
  refine ⟨_,?_,hr⟩
  unfold Instr.typeAssert
  simp only [Sem.run_bind,hu,Result.andThen_ok]
  cases hd:i.und <;> first|simp [z1]|exact absurd hd (hne _)
 ·rename_i t1 v1 hne
  obtain ⟨v',rfl,hv⟩:=hx
  have hgo:∀ m:Sem Value,m=(if t1=t then (pure (if ok=true then Value.tuple #[v',Value.bool true] else v'):Sem Value) else
    if ok=true then (do let __do_lift ← zeroValue t;pure (Value.tuple #[__do_lift,Value.bool false])) else runtimePanic (.typeAssertion (some xt) (some t1) t ""))→∃ v,m.run P w=.ok v w∧RV s ρ r v:=by
   intro m hm
   subst hm
   cases hb:Nat.beq t1 t with
   |true=>
    rw [hb] at h;simp only [cond_true,Option.some.injEq] at h
    have:=Nat.eq_of_beq_eq_true hb;subst this
    exact ⟨_,by simp,holds v1 v' hv h.symm⟩
   |false=>
    rw [hb] at h;simp only [cond_false] at h
    have:=Nat.ne_of_beq_eq_false hb
    obtain ⟨rfl,hr⟩:=fails rfl h
    exact ⟨_,by simp [this,z1],hr⟩
  obtain ⟨v,g1,g2⟩:=hgo _ rfl
  refine ⟨v,?_,g2⟩
  rw [← g1]
  unfold Instr.typeAssert
  simp only [Sem.run_bind,hu,Result.andThen_ok]
 ·cases h
end
end Vx
set_option linter.unusedVariables false
set_option linter.unusedSimpArgs false
namespace Vx
open Go Go.RowKit
def ExtsOk (V:VP) (P:Program) (s:Atoms):Prop:=
 ∀ (base:Nat) (w0:World) (ρ:Rho) (σ:St) (w:World) (f:FuncId) (args:List LV) (as:Array Value) (v:LV) (σ':St),RW V s base w0 ρ σ w→RVs s ρ args as.toList→V.exts f args σ=some (v,σ') →
  ∃ x w' ρ',(callFunc f as).run P w=.ok (.value x) w'∧ρ <+: ρ'∧RW V s base w0 ρ' σ' w'∧RV s ρ' v x
structure RDfr (s:Atoms) (ρ:Rho) (d:Dfr) (d':Deferred):Prop where
 target:∃ c,d'.target=.fn d.fn c∧RVs s ρ d.captured c.toList
 args:RVs s ρ d.args d'.args.toList
def OpOk (V:VP) (s:Atoms) (base:Nat) (w0:World) (ρ:Rho) (σ0:St) (w:World) (r:ORes) (m:Result Next):Prop:=
 match r with
 |.val v σ=>∃ x w' ρ',m=.ok (.value x) w'∧ρ <+: ρ'∧RW V s base w0 ρ' σ w'∧RV s ρ' v x
 |.skip σ=>∃ w' ρ',m=.ok .skip w'∧ρ <+: ρ'∧RW V s base w0 ρ' σ w'
 |.enter f args σ=>∃ as,m=.ok (.enter f as) w∧σ=σ0∧RVs s ρ args as.toList
 |.defer d σ=>∃ d' w' ρ',m=.ok (.defer d') w'∧ρ <+: ρ'∧RW V s base w0 ρ' σ w'∧RDfr s ρ' d d'
section
variable {V:VP} {P:Program} {s:Atoms}
theorem Gives.op {base:Nat} {w0 w:World} {ρ:Rho} {σ0 σ:St} {m:Result Value} {v:LV} (h:Gives V s base w0 ρ m v σ):OpOk V s base w0 ρ σ0 w (.val v σ) (m.andThen fun x w=>.ok (.value x) w):=by
 obtain ⟨x,w',ρ',h1,h2,h3,h4⟩:=h
 exact ⟨x,w',ρ',by rw [h1];rfl,h2,h3,h4⟩
theorem op_same {base:Nat} {w0:World} {ρ:Rho} {σ0 σ:St} {w:World} (hw:RW V s base w0 ρ σ w) {m:Result Next} {x:Value} {v:LV} (h:m=.ok (.value x) w) (hv:RV s ρ v x):OpOk V s base w0 ρ σ0 w (.val v σ) m:=
 ⟨x,w,ρ,h,List.prefix_refl _,hw,hv⟩
theorem getElem_cons {l:List LV} {v:LV} {ρ:Rho} {as:Array Value} (h:RVs s ρ (v::l) as.toList):∃ x,as[0]?=some x∧RV s ρ v x∧RVs s ρ l (as.extract 1 as.size).toList:=by
 obtain ⟨x,xs,e,h1,h2⟩:=h
 refine ⟨x,?_,h1,?_⟩
 ·rw [← Array.getElem?_toList,e];rfl
 ·have:(as.extract 1 as.size).toList=xs:=by
   have hsz:as.size=xs.length+1:=by rw [← Array.length_toList,e];rfl
   rw [Array.toList_extract,e,hsz]
   simp
  rw [this];exact h2
theorem enterL_ok (hV:V.Ok P s) (hX:ExtsOk V P s) {base:Nat} {w0:World} {ρ:Rho} {σ:St} {w:World} (hw:RW V s base w0 ρ σ w) {f:FuncId} {args:List LV} {as:Array Value} (ha:RVs s ρ args as.toList) {r:ORes} (h:enterL V σ f args=some r):
  OpOk V s base w0 ρ σ w r ((callFunc f as).run P w):=by
 unfold enterL at h
 split at h
 case h_2=>cases h
 rename_i fn hf
 obtain ⟨g1,g2⟩:=hV.fn f fn hf
 split at h
 ·rename_i c hc
  cases h
  refine ⟨as,?_,rfl,ha⟩
  simp only [callFunc,Sem.run_bind,run_program,Result.andThen_ok,g1,g2,hc,Option.isNone_some,Bool.false_eq_true,if_false,Sem.run_pure]
 ·split at h
  case h_2=>cases h
  rename_i v σ' hx
  cases h
  exact hX base w0 ρ σ w f args as v σ' hw ha hx
theorem invokeL_ok (hV:V.Ok P s) (hX:ExtsOk V P s) {base:Nat} {w0:World} {ρ:Rho} {σ:St} {w:World} (hw:RW V s base w0 ρ σ w) {fn:Fn} {cap args:List LV} {cs as:Array Value} (hc:RVs s ρ cap cs.toList) (ha:RVs s ρ args as.toList) {r:ORes}
  (h:invokeL V σ fn cap args=some r):OpOk V s base w0 ρ σ w r ((invoke (.fn fn cs) as).run P w):=by
 unfold invokeL at h
 split at h
 ·exact enterL_ok hV hX hw (as:=as++cs) (by rw [Array.toList_append];exact ha.append hc) h
 ·rename_i name
  split at h
  case h_2=>cases h
  rename_i t v rest
  split at h
  case h_2=>cases h
  rename_i f rc hm
  obtain ⟨x,e1,h1,h2⟩:=getElem_cons ha
  obtain ⟨x',rfl,h3⟩:=h1
  obtain ⟨y,m1,m2⟩:=method_ok hV hw 60 (P.types.size+Made.depth) (by unfold Made.depth;omega) h3 hm
  have:=enterL_ok hV hX hw (as:=#[y]++as.extract 1 as.size) (by rw [Array.toList_append];exact ⟨y,_,rfl,m2,h2⟩) h
  simpa [invoke,e1,callMethod,m1] using this
 ·cases h
 ·rename_i t path f pointer
  split at h
  case h_2=>cases h
  rename_i v rest
  split at h
  case h_2=>cases h
  rename_i xt y hf
  split at h
  case h_2=>cases h
  rename_i rc hr
  obtain ⟨x,e1,h1,h2⟩:=getElem_cons ha
  obtain ⟨q,f1,f2⟩:=follow_ok hV hw (x:=.val v) (q:=.val x) h1 hf
  obtain ⟨z,r1,r2⟩:=recvAt_ok hV hw f2 hr none
  have:=enterL_ok hV hX hw (as:=#[z]++as.extract 1 as.size) (by rw [Array.toList_append];exact ⟨z,_,rfl,r2,h2⟩) h
  simpa [invoke,e1,receiverVia,f1,r1] using this
 ·cases h
theorem len_ok (hV:V.Ok P s) {base:Nat} {w0:World} {ρ:Rho} {σ σ':St} {w:World} (hw:RW V s base w0 ρ σ w) {ats:Array TypeId} {t:TypeId} {ts:List TypeId} (hat:ats[0]?=some t) {x r:LV} {a:Value} {ty:TypeId} (hx:RV s ρ x a)
  (h:builtinL V σ .len (t::ts) [x]=some (r,σ')):Gives V s base w0 ρ ((Builtin.len_ ats ty #[a]).run P w) r σ':=by
 have txt:∀ t:Txt,RV s ρ (txtLen t) (goInt (den s t).length):=by
  intro t
  unfold txtLen
  split
  ·rename_i b hb;rw [den_lit hb];rfl
  ·rfl
 simp only [builtinL] at h
 split at h
 ·cases h
 rename_i i hi
 have hu:=run_und' hV hi w
 split at h
 ·rename_i tx heq
  cases h
  obtain ⟨b,rfl,hb⟩:=hx
  have hsz:b.size=(den s tx).length:=by rw [← hb];rfl
  exact Gives.same hw (by simp [Builtin.len_,hat,hu,heq,hsz]) (txt tx)
 ·rename_i e heq
  cases h;simp only [RV] at hx;subst hx
  exact Gives.same hw (x:=goInt 0) (by simp [Builtin.len_,hat,hu,heq]) rfl
 ·rename_i e l k esz n heq
  cases h;obtain ⟨b,K,_,_,rfl⟩:=hx
  exact Gives.same hw (x:=goInt n) (by simp [Builtin.len_,hat,hu,heq]) rfl
 ·rename_i e l tx heq
  cases h;obtain ⟨_,a',n,c,rfl,hn⟩:=hx
  exact Gives.same hw (by simp [Builtin.len_,hat,hu,heq,hn]) (txt tx)
 ·rename_i kt e heq
  cases h;simp only [RV] at hx;subst hx
  exact Gives.same hw (x:=goInt 0) (by simp [Builtin.len_,hat,hu,heq]) rfl
 ·rename_i kt e l heq
  split at h
  case h_2=>cases h
  rename_i es hl
  cases h
  obtain ⟨b,K,hb,rfl⟩:=hx
  obtain ⟨ents,clock,g1,g2⟩:=map_of hw hl hb
  have hget:(getObj b).run P w=.ok (.map ents clock) w:=by simp [getObj,Sem.run,g1]
  have hlen:∀ {es:List (LV×LV)} {l:List MapEntry},REnts s ρ es l→l.length=es.length:=by
   intro es
   induction es with
   |nil=>intro l h;simp only [REnts] at h;subst h;rfl
   |cons x r ih=>intro l h;obtain ⟨e,l',rfl,_,_,h3⟩:=h;simp [ih h3]
  have:=hlen g2
  rw [Array.length_toList] at this
  exact Gives.same hw (x:=goInt es.length) (by simp [Builtin.len_,hat,hu,heq,hget,this]) rfl
 ·cases h
theorem splitL_ok {ρ:Rho}:∀ {n:Nat} {l a b:List LV} {vs:List Value},splitL n l=some (a,b)→RVs s ρ l vs→RVs s ρ a (vs.take n)∧RVs s ρ b (vs.drop n)
 |0,l,a,b,vs,h,hv=>by simp only [splitL,Option.some.injEq,Prod.mk.injEq] at h;obtain ⟨rfl,rfl⟩:=h;exact ⟨rfl,hv⟩
 |n+1,[],_,_,_,h,_=>by cases h
 |n+1,v::r,a,b,vs,h,hv=>by
  obtain ⟨x,xs,rfl,h1,h2⟩:=hv
  simp only [splitL] at h
  split at h
  case h_2=>cases h
  rename_i a' b' hs
  cases h
  obtain ⟨g1,g2⟩:=splitL_ok hs h2
  exact ⟨⟨x,_,rfl,h1,g1⟩,g2⟩
theorem places_ok (hV:V.Ok P s):∀ {fs:List Field} {pl:List (Nat×Nat)},placesL V fs=some pl→∀ w,(fs.mapM (fun f=>do pure (f.offset,← Go.sizeOf f.type):Field→Sem (Nat×Nat))).run P w=.ok pl w
 |[],pl,h,w=>by simp only [placesL,Option.some.injEq] at h;subst h;simp
 |f::r,pl,h,w=>by
  simp only [placesL] at h
  split at h
  case h_2=>cases h
  rename_i n l hn hl
  simp only [Option.some.injEq] at h;subst h
  unfold sizeT at hn
  split at hn
  case h_2=>cases hn
  rename_i i hi
  simp only [Option.some.injEq] at hn;subst hn
  have:=places_ok hV hl w
  simp only [List.mapM_cons,Sem.run_bind,run_sizeOf' hV hi,Result.andThen_ok,Sem.run_pure,this]
theorem zip_ok {ρ:Rho}:∀ {ps:List (Nat×Operand)} {vs:List LV} (ev:Operand→Value),RVs s ρ vs (ps.map fun p=>ev p.2) →
  RVs s ρ ((zipCells ps vs).map (·.2)) ((ps.map fun p=>(p.1,ev p.2)).map (·.2))∧(zipCells ps vs).map (·.1)=(ps.map fun p=>(p.1,ev p.2)).map (·.1)
 |[],vs,ev,h=>by
  cases vs with
  |nil=>exact ⟨rfl,rfl⟩
  |cons v r=>obtain ⟨_,_,e,_⟩:=h;cases e
 |(i,o)::ps,vs,ev,h=>by
  cases vs with
  |nil=>cases h
  |cons v r=>
   obtain ⟨x,xs,e,h1,h2⟩:=h
   simp only [List.map_cons,List.cons.injEq] at e
   obtain ⟨rfl,rfl⟩:=e
   obtain ⟨g1,g2⟩:=zip_ok (ps:=ps) ev h2
   exact ⟨⟨_,_,rfl,h1,g1⟩,by simp only [zipCells,List.map_cons];rw [g2]⟩
end
end Vx
set_option linter.unusedVariables false
set_option linter.unusedSimpArgs false
namespace Vx
open Go Go.RowKit
section
variable {V:VP} {P:Program} {s:Atoms}
theorem _root_.Vx.Sem.run_map' {P:Program} {α β:Type} (f:α→β) (m:Sem α) (w:World):(f <$> m).run P w=(m.run P w).andThen fun x w=>.ok (f x) w:=by
 rw [← bind_pure_comp,Sem.run_bind]
 rfl
theorem one_of {ρ:Rho} {v:LV} {l:List Value} (h:RVs s ρ [v] l):∃ x,l=[x]∧RV s ρ v x:=by
 obtain ⟨x,xs,e,h1,h2⟩:=h
 simp only [RVs] at h2;subst h2;exact ⟨x,e,h1⟩
theorem two_of {ρ:Rho} {v u:LV} {l:List Value} (h:RVs s ρ [v,u] l):∃ x y,l=[x,y]∧RV s ρ v x∧RV s ρ u y:=by
 obtain ⟨x,xs,e,h1,h2⟩:=h
 obtain ⟨y,e2,h3⟩:=one_of h2
 subst e2;exact ⟨x,y,e,h1,h3⟩
theorem ahead_ok (hV:V.Ok P s) {ρ:Rho} {t:TypeId} {v:LV} {x:Value} {name:String} (hv:RV s ρ v x) (h:aheadL V t v name=true) (n:Nat) (w:World):(nilAhead (n+1) t x name).run P w=.ok (some false) w:=by
 unfold aheadL at h
 split at h
 case h_2=>cases h
 rename_i i hi
 split at h
 case h_2=>cases h
 rename_i m hm
 have hti:=(info_of hV hi).1
 have hfind:i.info.methods.find? (·.name==name)=some m:=by
  have:=findM_ok name _ _ hm
  rw [← Array.find?_toList];exact this
 simp only [Bool.and_eq_true,List.isEmpty_iff] at h
 obtain ⟨hp,h⟩:=h
 have hu:=run_und' hV hi w
 split at h
 ·rename_i hf
  simp [nilAhead,typeInfo,hti,hfind,hp,followBlind,hf]
 ·rename_i hf
  simp only [nilAhead,typeInfo,Sem.run_bind,run_program,Result.andThen_ok,hti,Sem.run_pure,hfind,hp,followBlind,hf,hu]
  split at h
  ·rename_i he
   obtain ⟨b,K,_,rfl⟩:=hv
   simp [he]
  ·cases h
  ·rename_i hne _
   split
   ·rename_i he _;exact (hne _ he).elim
   ·rename_i he _;exact (hne _ he).elim
   ·rename_i he _;exact (hne _ he).elim
   ·rfl
 ·cases h
theorem doOp_ok (hV:V.Ok P s) (hX:ExtsOk V P s) {base:Nat} {w0:World} {ρ:Rho} {σ:St} {w:World} (hw:RW V s base w0 ρ σ w) {o:Oper} {vs:List LV} {r:ORes} (ev:Operand→Value) (hvs:RVs s ρ vs (o.op.operands.toList.map ev))
  (h:doOp V σ o.op vs=some r):OpOk V s base w0 ρ σ w r ((execOp ev o).run P w):=by
 have hv1:∀ {m:Sem Value} {v:LV} {σ':St},Gives V s base w0 ρ (m.run P w) v σ'→OpOk V s base w0 ρ σ w (.val v σ') ((do pure (.value (← m)):Sem Next).run P w):=by
  intro m v σ' hg
  have:=Gives.op (σ0:=σ) (w:=w) hg
  simpa [Result.andThen] using this
 have hsame:∀ {m:Sem Value} {v:LV} {x:Value},m.run P w=.ok x w→RV s ρ v x→OpOk V s base w0 ρ σ w (.val v σ) ((do pure (.value (← m)):Sem Next).run P w):=fun h1 h2=>hv1 (Gives.same hw h1 h2)
 obtain ⟨dst,op,type,pos,after,guard⟩:=o
 simp only at hvs h
 unfold doOp at h
 split at h
 ·rename_i x v
  cases h
  change RVs s ρ [v] [ev x] at hvs
  obtain ⟨y,e,hv⟩:=one_of hvs
  cases e
  exact op_same hw rfl hv
 ·rename_i x v
  cases h
  change RVs s ρ [v] [ev x] at hvs
  obtain ⟨y,e,hv⟩:=one_of hvs
  cases e
  exact op_same hw rfl hv
 ·rename_i c p q b x y
  cases h
  change RVs s ρ [.bool b,x,y] [ev c,ev p,ev q] at hvs
  obtain ⟨z,zs,e,h1,h2⟩:=hvs
  cases e
  obtain ⟨y1,y2,e,h3,h4⟩:=two_of h2
  cases e
  simp only [RV] at h1
  refine op_same hw (x:=if b then ev p else ev q) ?_ ?_
  ·simp [execOp,h1,asBool]
  ·cases b
   ·exact h4
   ·exact h3
 ·rename_i e
  split at h
  case h_2=>cases h
  rename_i i hi
  simp only [newOb,Option.some.injEq] at h;subst h
  obtain ⟨z,z1,z2,z3,z4⟩:=zero_cells hV hi ρ
  have hn:=RW.newRow (cs:=i.zero) (k:=.exact) (e:=e) hw (sp:=#[]) 0 z3 (fun _=>rfl) (by simp)
  refine hv1 (v:=.ptr σ.next 0) ⟨.pointer (some ⟨w.heap.size,0,none⟩),_,_,?_,⟨_,rfl⟩,hn,new_ptr hw.len (.row e i.zero .exact)⟩
  simp [Instr.alloc,z1,newVar,newRow]
 ·rename_i e xo x
  simp only [newOb,Option.some.injEq] at h;subst h
  change RVs s ρ [x] [ev xo] at hvs
  obtain ⟨y,e',hv⟩:=one_of hvs
  cases e'
  have hn:=RW.newRow (cs:=x.cells) (k:=.exact) (e:=e) hw (sp:=#[]) 0 (cells_ok hv) (fun _=>rfl) (by simp)
  refine hv1 (v:=.ptr σ.next 0) ⟨.pointer (some ⟨w.heap.size,0,none⟩),_,_,?_,⟨_,rfl⟩,hn,new_ptr hw.len (.row e x.cells .exact)⟩
  simp [Instr.box,newVar,newRow]
 ·rename_i vs' t parts
  split at h
  case h_2=>cases h
  rename_i i hi
  split at h
  case h_2=>cases h
  rename_i fs hfs
  split at h
  case h_2=>cases h
  rename_i pl hpl
  split at h
  case h_2=>cases h
  rename_i cs hcs
  cases h
  have hu:=run_und' hV hi w
  obtain ⟨z,z1,z2,z3,z4⟩:=zero_cells hV hi ρ
  have hvs':RVs s ρ vs (parts.toList.map fun p=>ev p.2):=by
   have e:(Op.build t parts).operands.toList.map ev=parts.toList.map fun p=>ev p.2:=by simp [Op.operands]
   rw [← e];exact hvs
  obtain ⟨g1,g2⟩:=zip_ok (ps:=parts.toList) ev hvs'
  obtain ⟨c',f1,f2,f3⟩:=fill_ok (place:=fun k=>pl[k]?) (fun _ _ h=>h) (qs:=parts.toList.map fun p=>(p.1,ev p.2)) g1 g2 z3 hcs
  have hpl':=places_ok hV hpl w
  have hmap:(fs.mapM (fun f=>do pure (f.offset,← Go.sizeOf f.type):Field→Sem (Nat×Nat))).run P w=.ok pl.toArray w:=by
   rw [← Array.toArray_toList (xs:=fs),List.mapM_toArray]
   rw [Sem.run_map']
   rw [hpl'];rfl
  refine hsame (x:=.agg c') ?_ ⟨c',rfl,f2⟩
  have hq:(Array.map (fun (x:Nat×Operand)=>(x.1,ev x.2)) parts).toList=parts.toList.map fun p=>(p.1,ev p.2):=by simp
  simp only [Instr.build,Sem.run_bind,z1,Result.andThen_ok,hu,hfs,hmap,hq,List.getElem?_toArray,f1,Sem.run_pure]
 ·rename_i vs' t len parts
  split at h
  case h_2=>cases h
  rename_i j hj
  split at h
  case h_2=>cases h
  rename_i e he
  split at h
  case h_2=>cases h
  rename_i i hi
  cases hc:(Nat.ble (len * i.size) 16777216&&Nat.blt 0 i.size&&Nat.beq i.zero.length i.size) with
  |false=>rw [hc] at h;cases h
  |true=>
   rw [hc] at h;simp only [cond_true] at h
   simp only [Bool.and_eq_true] at hc
   split at h
   case h_2=>cases h
   rename_i cs hcs
   simp only [newOb,Option.some.injEq] at h;subst h
   have hvs':RVs s ρ vs (parts.toList.map fun p=>ev p.2):=by
    have e:(Op.buildSlice t len parts).operands.toList.map ev=parts.toList.map fun p=>ev p.2:=by simp [Op.operands]
    rw [← e];exact hvs
   obtain ⟨g1,g2⟩:=zip_ok (ps:=parts.toList) ev hvs'
   exact hv1 (buildSlice_ok hV hw (qs:=parts.map fun (x:Nat×Operand)=>(x.1,ev x.2)) hj he hi (Nat.le_of_ble_eq_true hc.1.1) (Nat.le_of_ble_eq_true hc.1.2) (Nat.eq_of_beq_eq_true hc.2) (by simpa using g1) (by simpa using g2) hcs)
 ·rename_i t po p
  change RVs s ρ [p] [ev po] at hvs
  obtain ⟨y,e',hv⟩:=one_of hvs
  cases e'
  unfold vOf at h
  split at h
  case h_2=>cases h
  rename_i v hl
  cases h
  obtain ⟨a,x,e,l1,l2⟩:=loadV_ok hV hw hv hl
  exact hsame (x:=x) (by simp [Instr.loadAt,e,Instr.sureAddr,l1]) l2
 ·rename_i t po xo p x
  change RVs s ρ [p,x] [ev po,ev xo] at hvs
  obtain ⟨y1,y2,e',h1,h2⟩:=two_of hvs
  cases e'
  split at h
  case h_2=>cases h
  rename_i σ' hst
  cases h
  obtain ⟨a,w',e,s1,s2⟩:=storeV_ok hV hw h1 h2 hst
  exact ⟨w',ρ,by simp [execOp,Instr.storeAt,e,Instr.sureAddr,s1],List.prefix_refl _,s2⟩
 ·rename_i xo x
  change RVs s ρ [x] [ev xo] at hvs
  obtain ⟨y,e',hv⟩:=one_of hvs
  cases e'
  split at h
  ·cases h
   have hv2:=hv
   obtain ⟨b,K,_,e⟩:=hv
   exact op_same hw (x:=ev xo) (by simp [execOp,e]) hv2
  ·cases h
   have hv2:=hv
   simp only [RV] at hv
   exact op_same hw (x:=ev xo) (by simp [execOp,hv]) hv2
  ·cases h
   have hv2:=hv
   obtain ⟨b,K,_,_,e⟩:=hv
   exact op_same hw (x:=ev xo) (by simp [execOp,e]) hv2
  ·cases h
   have hv2:=hv
   obtain ⟨v',e,_⟩:=hv
   exact op_same hw (x:=ev xo) (by simp [execOp,e]) hv2
  ·cases h
   have hv2:=hv
   obtain ⟨f',c',e,_⟩:=hv
   exact op_same hw (x:=ev xo) (by simp [execOp,e]) hv2
  ·rename_i name t v first cap
   cases hc:aheadL V t v name with
   |false=>rw [hc] at h;cases h
   |true=>
    rw [hc] at h;cases h
    have hv2:=hv
    obtain ⟨f',c',e,⟨z,zs,e1,⟨v',e2,hv'⟩,_⟩,_⟩:=hv
    have hz:f'[0]?=some z:=by rw [← Array.getElem?_toList,e1];rfl
    subst e2
    have:=ahead_ok hV hv' hc (P.types.size+99) w
    exact op_same hw (x:=ev xo) (by simp [execOp,e,hz,Made.depth,this]) hv2
  ·cases h
 ·rename_i bop t xo yo yt x y
  change RVs s ρ [x,y] [ev xo,ev yo] at hvs
  obtain ⟨y1,y2,e',h1,h2⟩:=two_of hvs
  cases e'
  unfold vOf at h
  split at h
  case h_2=>cases h
  rename_i v hb
  cases h
  obtain ⟨x,g1,g2⟩:=binL_ok hV hw h1 h2 hb
  exact hsame g1 g2
 ·rename_i uop t xo x
  change RVs s ρ [x] [ev xo] at hvs
  obtain ⟨y,e',hv⟩:=one_of hvs
  cases e'
  split at h
  case h_2=>cases h
  rename_i c hc
  unfold vOf at h
  split at h
  case h_2=>cases h
  rename_i v hp
  cases h
  obtain ⟨x,g1,g2⟩:=pureSem_ok (P:=P) (ρ:=ρ) hp
  have:=clo_ok hc hv
  exact hsame (x:=x) (by rw [this];exact g1 w) g2
 ·rename_i t u xo x
  change RVs s ρ [x] [ev xo] at hvs
  obtain ⟨y,e',hv⟩:=one_of hvs
  cases e'
  unfold toVal at h
  split at h
  case h_2=>cases h
  rename_i v σ' hc
  cases h
  exact hv1 (convL_ok hV hw hv hc)
 ·rename_i t xo x
  change RVs s ρ [x] [ev xo] at hvs
  obtain ⟨y,e',hv⟩:=one_of hvs
  cases e'
  split at h
  case h_2=>cases h
  rename_i i hi
  have hu:=run_und' hV hi w
  split at h
  ·cases h
  rename_i hne
  cases h
  refine hsame (x:=.iface t (ev xo)) ?_ ⟨_,rfl,hv⟩
  simp only [Instr.makeInterface,Sem.run_bind,hu,Result.andThen_ok]
  rfl
 ·rename_i vs' fn first captured
  split at h
  case h_2=>cases h
  rename_i f c hs
  cases h
  obtain ⟨g1,g2⟩:=splitL_ok hs hvs
  refine hsame (x:=.func fn (first.map ev) (captured.map ev)) rfl ⟨_,_,rfl,?_,?_⟩
  ·have e:((Op.makeFunc fn first captured).operands.toList.map ev).take first.size=(first.map ev).toList:=by
    simp [Op.operands]
   rw [← e];exact g1
  ·have e:((Op.makeFunc fn first captured).operands.toList.map ev).drop first.size=(captured.map ev).toList:=by
    simp [Op.operands]
   rw [← e];exact g2
 ·rename_i t
  simp only [newOb,Option.some.injEq] at h;subst h
  have hn:=hw.alloc (.map #[] 0) 0 (.map []) ⟨_,0,#[],0,rfl,by simp [World.alloc,-World.alloc_eq],rfl⟩
  exact hv1 (v:=.map σ.next) ⟨.map (some w.heap.size),_,_,rfl,⟨_,rfl⟩,hn,⟨w.heap.size,0,by simp [← hw.len],rfl⟩⟩
 ·rename_i t no co n c
  change RVs s ρ [n,c] [ev no,ev co] at hvs
  obtain ⟨y1,y2,e',h1,h2⟩:=two_of hvs
  cases e'
  split at h
  case h_2=>cases h
  rename_i j n' c' hj hn hc
  split at h
  case h_2=>cases h
  rename_i e he
  split at h
  case h_2=>cases h
  rename_i i hi
  cases hcc:(Nat.ble n' c'&&Nat.ble (c' * (i.bytes+1)) 1073741824&&Nat.blt 0 i.size&&Nat.beq i.zero.length i.size) with
  |false=>rw [hcc] at h;cases h
  |true=>
   rw [hcc] at h;simp only [cond_true] at h
   simp only [Bool.and_eq_true] at hcc
   simp only [newOb,Option.some.injEq] at h;subst h
   have e1:=natOf_ok hn h1
   have e2:=natOf_ok hc h2
   refine hv1 ?_
   rw [e1,e2]
   exact makeSlice_ok hV hw hj he hi (Nat.le_of_ble_eq_true hcc.1.1.1) (Nat.le_of_ble_eq_true hcc.1.1.2) (Nat.le_of_ble_eq_true hcc.1.2) (Nat.eq_of_beq_eq_true hcc.2) rfl
 ·rename_i t xo lo hi x vs'
  have fin:∀ {lo' hi':Option LV},RV s ρ x (ev xo)→ROpt s ρ lo' (lo.map ev)→ROpt s ρ hi' (hi.map ev)→vOf σ (sliceL V t x lo' hi')=some r→OpOk V s base w0 ρ σ w r ((execOp ev ⟨dst,.slice t xo lo hi none,type,pos,after,guard⟩).run P w):=by
   intro lo' hi' hx h1 h2 h
   unfold vOf at h
   split at h
   case h_2=>cases h
   rename_i v hs
   cases h
   obtain ⟨z,g1,g2⟩:=sliceL_ok hV w hx h1 h2 hs
   exact hsame g1 g2
  cases lo with
  |none=>cases hi with
   |none=>
    cases vs' with
    |nil=>
     change RVs s ρ [x] [ev xo] at hvs
     obtain ⟨y,e',hv⟩:=one_of hvs
     cases e'
     exact fin (lo':=none) (hi':=none) hv trivial trivial h
    |cons _ _=>cases h
   |some b=>
    cases vs' with
    |nil=>cases h
    |cons v r=>
     cases r with
     |cons _ _=>cases h
     |nil=>
      change RVs s ρ [x,v] [ev xo,ev b] at hvs
      obtain ⟨y1,y2,e',h1,h2⟩:=two_of hvs
      cases e'
      exact fin (lo':=none) (hi':=some v) h1 trivial h2 h
  |some a=>cases hi with
   |none=>
    cases vs' with
    |nil=>cases h
    |cons v r=>
     cases r with
     |cons _ _=>cases h
     |nil=>
      change RVs s ρ [x,v] [ev xo,ev a] at hvs
      obtain ⟨y1,y2,e',h1,h2⟩:=two_of hvs
      cases e'
      exact fin (lo':=some v) (hi':=none) h1 h2 trivial h
   |some b=>
    cases vs' with
    |nil=>cases h
    |cons v r=>
     cases r with
     |nil=>cases h
     |cons u r=>
      cases r with
      |cons _ _=>cases h
      |nil=>
       change RVs s ρ [x,v,u] [ev xo,ev a,ev b] at hvs
       obtain ⟨z,zs,e',h0,h1⟩:=hvs
       cases e'
       obtain ⟨y1,y2,e',h1,h2⟩:=two_of h1
       cases e'
       exact fin (lo':=some v) (hi':=some u) h0 h1 h2 h
 ·rename_i st xo f x
  change RVs s ρ [x] [ev xo] at hvs
  obtain ⟨y,e',hv⟩:=one_of hvs
  cases e'
  split at h
  case h_2=>cases h
  rename_i fd hf
  unfold vOf at h
  split at h
  case h_2=>cases h
  rename_i v hp
  cases h
  obtain ⟨fs,u1,u2⟩:=fieldOf_ok hV hf
  have hx:∃ a,ev xo=.pointer (some a):=by
   unfold fieldP at hp
   split at hp
   case h_2=>cases hp
   obtain ⟨b,K,_,e⟩:=hv
   exact ⟨_,e⟩
  obtain ⟨a,ea⟩:=hx
  rw [ea] at hv
  obtain ⟨b,g1,g2⟩:=fieldP_ok hV w hv hp
  refine hsame (x:=.pointer (some b)) ?_ g2
  simp [Instr.fieldAt,u1,u2,ea,Instr.sureAddr,g1]
 ·rename_i t xo f x
  change RVs s ρ [x] [ev xo] at hvs
  obtain ⟨y,e',hv⟩:=one_of hvs
  cases e'
  split at h
  case h_2=>cases h
  rename_i cs fd hf
  unfold vOf at h
  split at h
  case h_2=>cases h
  rename_i v hp
  cases h
  obtain ⟨fs,u1,u2⟩:=fieldOf_ok hV hf
  obtain ⟨a,ea,ha⟩:=hv
  obtain ⟨z,g1,g2⟩:=partL_ok hV ha hp w
  refine hsame (x:=z) ?_ g2
  simp [Instr.field,u1,u2,ea,asAgg,g1]
 ·rename_i t xo io x ix
  change RVs s ρ [x,ix] [ev xo,ev io] at hvs
  obtain ⟨y1,y2,e',h1,h2⟩:=two_of hvs
  cases e'
  split at h
  case h_2=>cases h
  rename_i j k hj hk
  have e2:=natOf_ok hk h2
  have hu:=fun w=>run_und' hV hj w
  split at h
  ·rename_i e l i esz n he
   split at h
   case h_2=>cases h
   rename_i sz hsz
   cases hc:(Nat.blt k n&&Nat.beq sz esz) with
   |false=>rw [hc] at h;cases h
   |true=>
    rw [hc] at h;simp only [cond_true,Option.some.injEq] at h;subst h
    simp only [Bool.and_eq_true] at hc
    have hlt:k < n:=Nat.le_of_ble_eq_true hc.1
    have hs':=Nat.eq_of_beq_eq_true hc.2
    obtain ⟨b,K,hb,hle,ex⟩:=h1
    unfold sizeT at hsz
    split at hsz
    case h_2=>cases hsz
    rename_i i' hi'
    simp only [Option.some.injEq] at hsz
    refine hsame (x:=.pointer (some ⟨b,(i+k) * esz,none⟩)) ?_ ⟨b,K,hb,rfl⟩
    have hk2:(k:Int) < (n:Int):=by omega
    simp [Instr.indexAt,asIntOf,e2,ex,hu,he,hk2,run_sizeOf' hV hi',addr_add,hsz,hs',Nat.add_mul]
    intro hn;omega
  ·rename_i n e l off he
   split at h
   case h_2=>cases h
   rename_i sz hsz
   cases hc:(Nat.blt k n) with
   |false=>rw [hc] at h;cases h
   |true=>
    rw [hc] at h;simp only [cond_true,Option.some.injEq] at h;subst h
    have hlt:k < n:=Nat.le_of_ble_eq_true hc
    obtain ⟨b,K,hb,ex⟩:=h1
    unfold sizeT at hsz
    split at hsz
    case h_2=>cases hsz
    rename_i i' hi'
    simp only [Option.some.injEq] at hsz
    refine hsame (x:=.pointer (some ⟨b,off+k * sz,none⟩)) ?_ ⟨b,K,hb,rfl⟩
    have hk2:(k:Int) < (n:Int):=by omega
    simp [Instr.indexAt,asIntOf,e2,ex,hu,he,hk2,run_sizeOf' hV hi',addr_add,hsz,Instr.sureAddr]
    intro hn;omega
  ·cases h
 ·rename_i t xo io x ix
  change RVs s ρ [x,ix] [ev xo,ev io] at hvs
  obtain ⟨y1,y2,e',h1,h2⟩:=two_of hvs
  cases e'
  split at h
  case h_2=>cases h
  rename_i j k hj hk
  have e2:=natOf_ok hk h2
  have hu:=fun w=>run_und' hV hj w
  split at h
  ·rename_i t' he
   split at h
   case h_2=>cases h
   rename_i b rest
   split at h
   case h_2=>cases h
   rename_i c hc
   simp only [Option.some.injEq] at h;subst h
   obtain ⟨bb,ex,hb⟩:=h1
   refine hsame (x:=.int .u8 c.toNat) ?_ rfl
   have hget:bb.data.toList[k]?=some c:=by
    rw [hb,den,List.getElem?_append_left]
    ·exact hc
    ·exact (List.getElem?_eq_some_iff.1 hc).1
   have hget':bb[k]?=some c:=by
    rw [Array.getElem?_toList] at hget
    obtain ⟨h3,h4⟩:=Array.getElem?_eq_some_iff.1 hget
    have h3':k < bb.size:=h3
    rw [getElem?_pos bb k h3']
    exact congrArg some h4
   simp only [Instr.index,e2,asIntOf,Sem.run_bind,Sem.run_pure,Result.andThen_ok,hu,he,ex]
   have h0:(0:Int)≤(k:Int):=by omega
   simp [h0,hget']
  ·rename_i n e cs he
   split at h
   case h_2=>cases h
   rename_i sz hsz
   cases hc:(Nat.blt k n) with
   |false=>rw [hc] at h;cases h
   |true=>
    rw [hc] at h;simp only [cond_true] at h
    have hlt:k < n:=Nat.le_of_ble_eq_true hc
    unfold vOf at h
    split at h
    case h_2=>cases h
    rename_i v hp
    cases h
    obtain ⟨a,ea,ha⟩:=h1
    unfold sizeT at hsz
    split at hsz
    case h_2=>cases hsz
    rename_i i' hi'
    simp only [Option.some.injEq] at hsz
    obtain ⟨z,g1,g2⟩:=partL_ok hV ha hp w
    refine hsame (x:=z) ?_ g2
    have hk2:(k:Int) < (n:Int):=by omega
    simp [Instr.index,asIntOf,e2,ea,hu,he,hk2,run_sizeOf' hV hi',hsz,g1]
    intro hn;omega
  ·cases h
 ·rename_i t xo ko ok x k
  change RVs s ρ [x,k] [ev xo,ev ko] at hvs
  obtain ⟨y1,y2,e',h1,h2⟩:=two_of hvs
  cases e'
  split at h
  case h_2=>cases h
  rename_i j hj
  split at h
  case h_2=>cases h
  rename_i kt e he
  split at h
  case h_2=>cases h
  rename_i kd i hkd hi
  cases hc:keyOk kd.und k with
  |false=>rw [hc] at h;cases h
  |true=>
   rw [hc] at h;simp only [cond_true] at h
   split at h
   ·cases h
   ·rename_i wv hm
    cases h
    obtain ⟨v,g1,g2⟩:=lookup_ok hV hw hj he hkd hi h1 h2 hc hm ok
    exact hsame g1 g2
   ·rename_i hm
    cases h
    obtain ⟨v,g1,g2⟩:=lookup_ok hV hw hj he hkd hi h1 h2 hc hm ok
    exact hsame g1 g2
 ·rename_i t mo ko xo l k x
  change RVs s ρ [.map l,k,x] [ev mo,ev ko,ev xo] at hvs
  obtain ⟨z,zs,e',h0,h1⟩:=hvs
  cases e'
  obtain ⟨y1,y2,e',h1,h2⟩:=two_of h1
  cases e'
  split at h
  case h_2=>cases h
  rename_i j hj
  split at h
  case h_2=>cases h
  rename_i kt e he
  split at h
  case h_2=>cases h
  rename_i kd es hkd hl
  cases hc:keyOk kd.und k with
  |false=>rw [hc] at h;cases h
  |true=>
   rw [hc] at h;simp only [cond_true] at h
   split at h
   case h_2=>cases h
   rename_i es' hs
   cases h
   obtain ⟨w',g1,g2⟩:=mapUpdate_ok hV hw hj he hkd h0 h1 h2 hc hl hs
   exact ⟨w',ρ,by simp [execOp,g1],List.prefix_refl _,g2⟩
 ·rename_i xo xt t ok x
  change RVs s ρ [x] [ev xo] at hvs
  obtain ⟨y,e',hv⟩:=one_of hvs
  cases e'
  unfold vOf at h
  split at h
  case h_2=>cases h
  rename_i v ha
  cases h
  obtain ⟨z,g1,g2⟩:=assertL_ok hV w (xt:=xt) hv ha
  exact hsame g1 g2
 ·rename_i xo i vs'
  change RVs s ρ [.tuple vs'] [ev xo] at hvs
  obtain ⟨y,e',hv⟩:=one_of hvs
  cases e'
  unfold vOf at h
  split at h
  case h_2=>cases h
  rename_i v hn
  cases h
  obtain ⟨a,ea,ha⟩:=hv
  have nth:∀ {l:List LV} {i:Nat} {v:LV} {xs:List Value},nthV l i=some v→RVs s ρ l xs→∃ x,xs[i]?=some x∧RV s ρ v x:=by
   intro l
   induction l with
   |nil=>intro i v xs h;cases h
   |cons u r ih=>
    intro i v xs h hx
    obtain ⟨x,xs',rfl,h1,h2⟩:=hx
    cases i with
    |zero=>simp only [nthV,Option.some.injEq] at h;subst h;exact ⟨x,rfl,h1⟩
    |succ i=>exact ih (i:=i) h h2
  obtain ⟨x,g1,g2⟩:=nth hn ha
  rw [Array.getElem?_toList] at g1
  exact hsame (x:=x) (by simp [Instr.extract,ea,g1]) g2
 ·rename_i vs0 c
  split at h
  ·rename_i vs' _ _ b hcal
   have hev:RVs s ρ vs' (c.args.map ev).toList:=by
    have e:(Op.call c).operands.toList.map ev=(c.args.map ev).toList:=by
     simp [Op.operands,Call.operands,hcal]
    rw [e] at hvs;exact hvs
   have key:∀ {m:Sem Value},(∀ cs,builtin b c.argTypes type cs (c.args.map ev)=(do pure (.value (← m))))→(∀ {v:LV} {σ':St},builtinL V σ b c.argTypes.toList vs'=some (v,σ')→Gives V s base w0 ρ (m.run P w) v σ')→OpOk V s base w0 ρ σ w r ((execOp ev ⟨dst,.call c,type,pos,after,guard⟩).run P w):=by
    intro m e1 e2
    unfold toVal at h
    split at h
    case h_2=>cases h
    rename_i v σ' hb
    cases h
    have:=hv1 (e2 hb)
    simp only [execOp,resolve,hcal,invoke,pure_bind]
    rw [e1];exact this
   cases b <;> first|(exfalso;simp [builtinL,toVal] at h;done)|skip
   ·refine key (m:=Builtin.append_ c.argTypes type (c.args.map ev)) (fun _=>rfl) ?_
    intro v σ' hb
    generalize hat:c.argTypes.toList=ats at hb
    rcases ats with _|⟨st,_|⟨xt,_|_⟩⟩ <;> rcases vs' with _|⟨sv,_|⟨xv,_|_⟩⟩
    all_goals first|(exfalso;simp [builtinL] at hb;done)|skip
    simp only [builtinL] at hb
    obtain ⟨y1,y2,e',h1,h2⟩:=two_of hev
    split at hb
    case h_2=>cases hb
    rename_i i hi
    split at hb
    case h_2=>cases hb
    rename_i elem he
    have ea:c.argTypes=#[st,xt]:=by apply Array.ext';simpa using hat
    have eb:c.args.map ev=#[y1,y2]:=by apply Array.ext';simpa using e'
    rw [ea,eb]
    exact appendL_ok hV hw hi he h1 h2 hb
   ·refine key (m:=Builtin.clear_ c.argTypes type (c.args.map ev)) (fun _=>rfl) ?_
    intro v σ' hb
    generalize hat:c.argTypes.toList=ats at hb
    rcases ats with _|⟨st,_|⟨xt,_⟩⟩ <;> rcases vs' with _|⟨xv,_|_⟩
    all_goals first|(exfalso;simp [builtinL] at hb;done)|skip
    obtain ⟨y,e',h1⟩:=one_of hev
    have ea:c.argTypes=#[st]:=by apply Array.ext';simpa using hat
    have eb:c.args.map ev=#[y]:=by apply Array.ext';simpa using e'
    rw [ea,eb]
    exact clear_ok hV hw h1 hb
   ·refine key (m:=Builtin.copy_ c.argTypes type (c.args.map ev)) (fun _=>rfl) ?_
    intro v σ' hb
    generalize hat:c.argTypes.toList=ats at hb
    rcases ats with _|⟨st,_|⟨xt,_|_⟩⟩ <;> rcases vs' with _|⟨sv,_|⟨xv,_|_⟩⟩
    all_goals first|(exfalso;simp [builtinL] at hb;done)|skip
    obtain ⟨y1,y2,e',h1,h2⟩:=two_of hev
    have ea:c.argTypes=#[st,xt]:=by apply Array.ext';simpa using hat
    have eb:c.args.map ev=#[y1,y2]:=by apply Array.ext';simpa using e'
    rw [ea,eb]
    exact copy_ok hV hw h1 h2 hb
   ·refine key (m:=Builtin.len_ c.argTypes type (c.args.map ev)) (fun _=>rfl) ?_
    intro v σ' hb
    generalize hat:c.argTypes.toList=ats at hb
    rcases ats with _|⟨st,ats⟩ <;> rcases vs' with _|⟨xv,_|_⟩
    all_goals first|(exfalso;simp [builtinL] at hb;done)|skip
    obtain ⟨y,e',h1⟩:=one_of hev
    have ea:c.argTypes[0]?=some st:=by rw [← Array.getElem?_toList,hat];rfl
    have eb:c.args.map ev=#[y]:=by apply Array.ext';simpa using e'
    rw [eb]
    exact len_ok hV hw ea h1 hb
  ·rename_i r name rv args hcal
   have hev:RVs s ρ (rv::args) (ev r::(c.args.map ev).toList):=by
    have e:(Op.call c).operands.toList.map ev=ev r::(c.args.map ev).toList:=by
     simp [Op.operands,Call.operands,hcal]
    rw [e] at hvs;exact hvs
   have:=invokeL_ok hV hX hw (fn:=.method name) (cap:=[]) (cs:=#[]) (as:=#[ev r]++c.args.map ev) rfl (by simpa using hev) h
   simpa [execOp,resolve,hcal] using this
  ·rename_i f fn first captured args hcal
   have hev:RVs s ρ (.func fn first captured::args) (ev f::(c.args.map ev).toList):=by
    have e:(Op.call c).operands.toList.map ev=ev f::(c.args.map ev).toList:=by
     simp [Op.operands,Call.operands,hcal]
    rw [e] at hvs;exact hvs
   obtain ⟨z,zs,e',⟨f',c',ef,h1,h2⟩,h3⟩:=hev
   cases e'
   have:=invokeL_ok hV hX hw (fn:=fn) (cap:=captured) (cs:=c') (as:=f'++c.args.map ev) h2 (by rw [Array.toList_append];exact h1.append h3) h
   simpa [execOp,resolve,hcal,ef,Deferred.ofValue] using this
  ·cases h
 ·rename_i vs' c
  split at h
  ·rename_i r name rv args hcal
   have hev:RVs s ρ (rv::args) (ev r::(c.args.map ev).toList):=by
    have e:(Op.defer c).operands.toList.map ev=ev r::(c.args.map ev).toList:=by
     simp [Op.operands,Call.operands,hcal]
    rw [e] at hvs;exact hvs
   cases h
   refine ⟨{ target:=.fn (.method name) #[],args:=#[ev r]++c.args.map ev },w,ρ,by simp [execOp,resolve,hcal],List.prefix_refl _,hw,⟨#[],rfl,rfl⟩,by simpa using hev⟩
  ·rename_i f fn first captured args hcal
   have hev:RVs s ρ (.func fn first captured::args) (ev f::(c.args.map ev).toList):=by
    have e:(Op.defer c).operands.toList.map ev=ev f::(c.args.map ev).toList:=by
     simp [Op.operands,Call.operands,hcal]
    rw [e] at hvs;exact hvs
   obtain ⟨z,zs,e',⟨f',c',ef,h1,h2⟩,h3⟩:=hev
   cases e'
   cases h
   refine ⟨{ target:=.fn fn c',args:=f'++c.args.map ev },w,ρ,by simp [execOp,resolve,hcal,ef,Deferred.ofValue],List.prefix_refl _,hw,⟨c',rfl,h2⟩,?_⟩
   rw [Array.toList_append];exact h1.append h3
  ·cases h
 ·cases h
end
end Vx
