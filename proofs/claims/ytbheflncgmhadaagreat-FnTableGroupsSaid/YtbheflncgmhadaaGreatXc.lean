/- The executor, further. Conditions: those in each statement. -/
import Derived.Test.YtbheflncgmhadaaGreatXb
import Derived.Orders
import Derived.Lib.ReflectliteSwap
import Derived.Laws.Externs
set_option linter.unusedVariables false
set_option linter.unusedSimpArgs false
set_option maxHeartbeats 40000000
set_option maxRecDepth 100000
namespace Vx
open Go
inductive LExit where
 |normal
 |exit (id:Nat)
 |ret
abbrev Run:=Code→LAct→St→Option (LExit×LAct×St)
abbrev CallF:=FuncId→List LV→St→Option (LV×St)
def setArgs:List LV→Nat→Tr LV→Tr LV
 |[],_,t=>t
 |v::r,n,t=>setArgs r (n+1) (t.put n v)
def resL (V:VP) (σ:St) (a:LAct):List ResultVar→Option (List LV)
 |[]=>some []
 |.tmp t::r=>match resL V σ a r with
  |some vs=>some (a.get t::vs)
  |none=>none
 |.cell p t::r=>match loadV V σ t (a.get p),resL V σ a r with
  |some v,some vs=>some (v::vs)
  |_,_=>none
def wantedL (ops:Array Oper) (a:LAct) (o:Oper):Option Bool:=
 match o.guard with
 |none=>some true
 |some (j,want)=>match ops[j]? with
  |some g=>match g.dst with
   |some d=>match a.get d with
    |.bool b=>some (b==want)
    |.tuple _=>some false
    |_=>none
   |none=>none
  |none=>none
def putO (a:LAct) (dst:Option Tmp) (v:LV):Option LAct:=
 match dst with
 |some d=>a.put d v
 |none=>some a
def outL (V:VP) (C:CallF) (ops:Array Oper) (a:LAct) (σ:St) (o:Oper):Option (LV×St×Option Dfr):=
 match wantedL ops a o with
 |none=>none
 |some false=>some (undef,σ,none)
 |some true=>
  match evals a o.op.operands.toList with
  |none=>none
  |some vs=>
   match doOp V σ o.op vs with
   |none=>none
   |some (.val v σ)=>some (v,σ,none)
   |some (.skip σ)=>some (undef,σ,none)
   |some (.enter f args σ)=>match C f args σ with
    |some (v,σ)=>some (v,σ,none)
    |none=>none
   |some (.defer d σ)=>some (undef,σ,some d)
def pushD (a:LAct):Option Dfr→LAct
 |none=>a
 |some d=>{ n:=a.n,tmps:=a.tmps,defers:=d::a.defers }
def opsL (V:VP) (C:CallF) (ops:Array Oper):List Oper→LAct→St→Option (LAct×St)
 |[],a,σ=>some (a,σ)
 |o::r,a,σ=>match outL V C ops a σ o with
  |some (v,σ,d)=>match putO (pushD a d) o.dst v with
   |some a=>opsL V C ops r a σ
   |none=>none
  |none=>none
def allL {α:Type} (p:α→Bool):List α→Bool
 |[]=>true
 |x::r=>p x&&allL p r
def directs (o:Oper):List Nat:=(o.after.toList.filter (Region.binds .any)).map (·.on)
def hasFst (e:Nat):List (Nat×Oper)→Bool
 |[]=>false
 |(i,_)::r=>Nat.beq e i||hasFst e r
def pairs (ops:Array Oper):List Nat→List (Nat×Oper)
 |[]=>[]
 |i::r=>match ops[i]? with
  |some o=>(i,o)::pairs ops r
  |none=>pairs ops r
def pickL (seen:List (Nat×Oper)):List (Nat×Oper)→Option ((Nat×Oper)×List (Nat×Oper))
 |[]=>none
 |(i,o)::r=>cond (allL (fun e=>hasFst e seen) (directs o)) (some ((i,o),r)) (match pickL seen r with
  |some (x,r)=>some (x,(i,o)::r)
  |none=>none)
def sortL:Nat→List (Nat×Oper)→List (Nat×Oper)→List (Nat×Oper)
 |0,_,_=>[]
 |n+1,seen,l=>match pickL seen l with
  |some (x,r)=>x::sortL n (x::seen) r
  |none=>[]
def dataOk (ops:Array Oper):List (Nat×Oper)→List (Nat×Oper)→Bool
 |_,[]=>true
 |seen,(i,o)::rest=>
  allL (fun (j,p)=>match p.dst with|some d=>!memNat d (o.looksAt ops)||memNat j (directs o)|none=>true) seen &&
  allL (fun (_,p)=>match p.dst with|some d=>!memNat d (o.looksAt ops)|none=>true) ((i,o)::rest) &&
  (match o.dst with|some d=>allL (fun (_,p)=>match p.dst with|some e=>!Nat.beq d e|none=>true) rest|none=>true) &&
  allL (fun e=>hasFst e seen) (directs o) &&
  dataOk ops ((i,o)::seen) rest
def maskOf (T:Tr Nat) (i:Nat):Nat:=match T.get i with|some m=>m|none=>0
def orAll (T:Tr Nat):List Nat→Nat
 |[]=>0
 |e::r=>Nat.lor (Nat.lor (2 ^ e) (maskOf T e)) (orAll T r)
def masksL:List (Nat×Oper)→Tr Nat→Tr Nat
 |[],T=>T
 |(i,o)::r,T=>masksL r (T.put i (orAll T (directs o)))
def masksOk (T:Tr Nat) (L:List (Nat×Oper)):Bool:=allL (fun (i,o)=>Nat.beq (maskOf T i) (orAll T (directs o))) L
def cover (L:List (Nat×Oper)):Nat→Bool
 |0=>true
 |n+1=>hasFst n L&&cover L n
def pureOp:Op→Bool
 |.move _|.assign _|.pick ..|.build ..|.nilCheck _|.unOp ..|.makeInterface ..|.makeFunc ..|.slice ..|.fieldAddr ..|.field ..|.indexAddr ..|.index ..|.typeAssert ..|.extract ..=>true
 |_=>false
def und? (V:VP) (t:TypeId):Option TypeDesc:=match V.ty.get t with|some i=>some i.und|none=>none
def readOp (V:VP):Op→Bool
 |.load ..|.lookup ..|.binOp ..=>true
 |.call c=>match c.callee with
  |.builtin .len=>true
  |_=>false
 |.convert s d _=>match und? V s,und? V d with
  |some (.int _),some (.int _)=>true
  |some .string,some .string=>true
  |some (.slice _),some .string=>true
  |_,_=>false
 |_=>false
def quiet (V:VP) (o:Op):Bool:=pureOp o||readOp V o
structure Rec where
 i:Nat
 o:Oper
 v:LV
 σ:St
def walkL (V:VP) (C:CallF) (ops:Array Oper):List (Nat×Oper)→LAct→St→Option (List Rec×LAct×St)
 |[],a,σ=>some ([],a,σ)
 |(i,o)::r,a,σ=>match outL V C ops a σ o with
  |some (v,σ',none)=>match putO a o.dst v with
   |some a=>match walkL V C ops r a σ' with
    |some (rs,a,τ)=>some (⟨i,o,v,σ⟩::rs,a,τ)
    |none=>none
   |none=>none
  |_=>none
mutual
def beqLV:LV→LV→Bool
 |.bool a,.bool b=>a==b
 |.int k a,.int k' b=>kindBeq k k'&&a==b
 |.str a,.str b=>a.beq b
 |.len a,.len b=>a.beq b
 |.nilp,.nilp|.nils,.nils|.nilm,.nilm|.nilf,.nilf|.nili,.nili=>true
 |.ptr a b,.ptr c d=>Nat.beq a c&&Nat.beq b d
 |.gptr a b,.gptr c d=>Nat.beq a c&&Nat.beq b d
 |.slice a b c d,.slice a' b' c' d'=>Nat.beq a a'&&Nat.beq b b'&&Nat.beq c c'&&Nat.beq d d'
 |.bsl a t,.bsl b u=>Nat.beq a b&&t.beq u
 |.map a,.map b=>Nat.beq a b
 |.func (.func f) a b,.func (.func g) c d=>Nat.beq f g&&beqLVs a c&&beqLVs b d
 |.func (.method f) a b,.func (.method g) c d=>f==g&&beqLVs a c&&beqLVs b d
 |.iface t v,.iface u w=>Nat.beq t u&&beqLV v w
 |.agg a,.agg b=>beqLVs a b
 |.tuple a,.tuple b=>beqLVs a b
 |_,_=>false
def beqLVs:List LV→List LV→Bool
 |[],[]=>true
 |a::x,b::y=>beqLV a b&&beqLVs x y
 |_,_=>false
end
def headS:List Rec→St→St
 |[],τ=>τ
 |r::_,_=>r.σ
def lineOk (V:VP) (T:Tr Nat):List Rec→List Rec→Bool
 |_,[]=>true
 |l1,r::l2=>(quiet V r.o.op||allL (fun x=>quiet V x.o.op||Nat.testBit (maskOf T r.i) x.i) l1)&&lineOk V T (r::l1) l2
def sameAt (V:VP) (C:CallF) (ops:Array Oper) (A:LAct) (r:Rec) (σ:St):Bool:=
 match outL V C ops A σ r.o with
 |some (v,_,none)=>beqLV v r.v
 |_=>false
def cutHere (V:VP) (C:CallF) (ops:Array Oper) (T:Tr Nat) (A:LAct) (τ:St) (r:Rec) (l1 l2:List Rec):Bool:=
 (match l1 with|[]=>false|x::_=>quiet V x.o.op) ||
  !(allL (fun x=>quiet V x.o.op||!Nat.testBit (maskOf T x.i) r.i) l1&&allL (fun x=>quiet V x.o.op||!Nat.testBit (maskOf T r.i) x.i) l2) ||
  sameAt V C ops A r (headS l2 τ)
def cutOk (V:VP) (C:CallF) (ops:Array Oper) (T:Tr Nat) (A:LAct) (τ:St) (r:Rec):List Rec→List Rec→Bool
 |l1,[]=>cutHere V C ops T A τ r l1 []
 |l1,x::l2=>cutHere V C ops T A τ r l1 (x::l2)&&cutOk V C ops T A τ r (x::l1) l2
def readsOk (V:VP) (C:CallF) (ops:Array Oper) (T:Tr Nat) (A:LAct) (τ:St) (rs:List Rec):Bool:=
 allL (fun r=>pureOp r.o.op||!readOp V r.o.op||cutOk V C ops T A τ r [] rs) rs
def orderL (ops:Array Oper):List (Nat×Oper):=sortL ops.size [] (pairs ops (List.range ops.size))
def drawL (V:VP) (C:CallF) (ops:Array Oper) (a:LAct) (σ:St):Option (LAct×St):=
 cond (dataOk ops [] (orderL ops)&&masksOk (masksL (orderL ops) .nil) (orderL ops)&&cover (orderL ops) ops.size)
  (match walkL V C ops (orderL ops) a σ with
  |some (rs,A,τ)=>cond (lineOk V (masksL (orderL ops) .nil) [] rs&&readsOk V C ops (masksL (orderL ops) .nil) A τ rs) (some (A,τ)) none
  |none=>none) none
def stepL (V:VP) (C:CallF) (E:Run):Run:=fun c a σ=>
 match c with
 |.skip=>some (.normal,a,σ)
 |.region _ ops draw=>match (match draw with
   |true=>drawL V C ops a σ
   |false=>opsL V C ops ops.toList a σ) with
  |some (a,σ)=>some (.normal,a,σ)
  |none=>none
 |.seq x y=>match E x a σ with
  |some (.normal,a,σ)=>E y a σ
  |r=>r
 |.cond c x y=>match evalO a c with
  |some (.bool true)=>E x a σ
  |some (.bool false)=>E y a σ
  |_=>none
 |.block id x=>match E x a σ with
  |some (.exit i,a,σ)=>cond (Nat.beq i id) (some (.normal,a,σ)) (some (.exit i,a,σ))
  |r=>r
 |.loop x=>match E x a σ with
  |some (.normal,a,σ)=>E (.loop x) a σ
  |r=>r
 |.exit id=>some (.exit id,a,σ)
 |.ret=>some (.ret,a,σ)
 |_=>none
def execL (V:VP) (C:CallF):Nat→Run
 |0=>fun _ _ _=>none
 |n+1=>stepL V C (execL V C n)
def defersL (V:VP) (D:CallF):List Dfr→St→Option St
 |[],σ=>some σ
 |d::ds,σ=>match invokeL V σ d.fn d.captured d.args with
  |some (.enter f args σ)=>match D f args σ with
   |some (_,σ)=>defersL V D ds σ
   |none=>none
  |_=>none
def oneOr:List LV→LV
 |v::[]=>v
 |vs=>.tuple vs
def bodyL (V:VP) (E:CallF→Run) (C:CallF) (D:CallF) (f:FuncId) (args:List LV) (σ:St):Option (LV×St):=
 match V.fn.get f with
 |some fn=>
  match fn.body with
  |none=>none
  |some c=>
   cond (Nat.ble args.length fn.ntmps)
   (match E C c { n:=fn.ntmps,tmps:=setArgs args 0 .nil,defers:=[] } σ with
   |some (.exit _,_,_)=>none
   |some (_,a,σ)=>
    match defersL V D a.defers σ with
    |none=>none
    |some σ=>
     match resL V σ a fn.results.toList with
     |some vs=>some (oneOr vs,σ)
     |none=>none
   |none=>none) none
 |none=>none
def noCall:CallF:=fun _ _ _=>none
def bothL (V:VP) (E:CallF→Run):Nat→CallF×CallF
 |0=>(noCall,noCall)
 |d+1=>(fun f args σ=>
  match V.sums f args σ with
  |some r=>some r
  |none=>
   cond (Nat.beq f V.guard)
    (match args with
    |.func (.func g) first captured::[]=>match newOb σ (.row V.gty [.bool false] .exact) with
     |(l,σ1)=>match enterL V σ1 g (first++captured) with
      |some (.enter f args σ1)=>match (bothL V E d).1 f args σ1 with
       |some (_,σ2)=>match σ2.heap.get l with
        |some (.row e (.bool false::[]) .exact)=>cond (Nat.beq e V.gty) (some (.bool false,σ2)) none
        |_=>none
       |none=>none
      |_=>none
    |_=>none)
    (bodyL V E (bothL V E d).1 (bothL V E d).2 f args σ),
  fun f args σ=>bodyL V E (bothL V E d).1 (bothL V E d).2 f args σ)
def callL (V:VP) (E:CallF→Run) (d:Nat):CallF:=(bothL V E d).1
end Vx
set_option linter.unusedVariables false
set_option linter.unusedSimpArgs false
namespace Vx
open Go Go.RowKit
def RDfrs (s:Atoms) (ρ:Rho):List Dfr→List Deferred→Prop
 |[],l=>l=[]
 |d::r,l=>∃ d' r',l=d'::r'∧RDfr s ρ d d'∧RDfrs s ρ r r'
structure RAct (s:Atoms) (ρ:Rho) (a:LAct) (a':Act):Prop where
 size:a'.tmps.size=a.n
 tmp:∀ t,RV s ρ (a.get t) (a'.tmps.getD t Go.undef)
 defers:RDfrs s ρ a.defers a'.defers
theorem RDfr.ext {s:Atoms} {ρ:Rho} (x:Rho) {d:Dfr} {d':Deferred} (h:RDfr s ρ d d'):RDfr s (ρ++x) d d':=by
 obtain ⟨⟨c,h1,h2⟩,h3⟩:=h
 exact ⟨⟨c,h1,h2.ext x⟩,h3.ext x⟩
theorem RDfrs.ext {s:Atoms} {ρ:Rho} (x:Rho):∀ {l:List Dfr} {l':List Deferred},RDfrs s ρ l l'→RDfrs s (ρ++x) l l'
 |[],_,h=>h
 |_::_,_,h=>by
  obtain ⟨d',r',h1,h2,h3⟩:=h
  exact ⟨d',r',h1,h2.ext x,h3.ext x⟩
theorem RV.pre {s:Atoms} {ρ ρ':Rho} (h:ρ <+: ρ') {l:LV} {v:Value} (hv:RV s ρ l v):RV s ρ' l v:=by
 obtain ⟨x,rfl⟩:=h;exact hv.ext x
theorem RDfrs.pre {s:Atoms} {ρ ρ':Rho} (h:ρ <+: ρ') {l:List Dfr} {v:List Deferred} (hv:RDfrs s ρ l v):RDfrs s ρ' l v:=by
 obtain ⟨x,rfl⟩:=h;exact hv.ext x
theorem RAct.pre {s:Atoms} {ρ ρ':Rho} (h:ρ <+: ρ') {a:LAct} {a':Act} (hv:RAct s ρ a a'):RAct s ρ' a a':=
 ⟨hv.size,fun t=>(hv.tmp t).pre h,hv.defers.pre h⟩
def ROD (s:Atoms) (ρ:Rho):Option Dfr→Option Deferred→Prop
 |none,none=>True
 |some d,some d'=>RDfr s ρ d d'
 |_,_=>False
def pushA (a:Act):Option Deferred→Act
 |none=>a
 |some d=>{ a with defers:=d::a.defers }
def CallsOk (V:VP) (P:Program) (s:Atoms) (C:CallF):Prop:=
 ∀ (base:Nat) (w0:World) (ρ:Rho) (σ:St) (w:World) (f:FuncId) (args:List LV) (as:Array Value) (v:LV) (σ':St),RW V s base w0 ρ σ w→RVs s ρ args as.toList→C f args σ=some (v,σ') →
  Calls P f as w fun e w'=>∃ x ρ',e=.returned x∧ρ <+: ρ'∧RW V s base w0 ρ' σ' w'∧RV s ρ' v x
theorem rv_undef (s:Atoms) (ρ:Rho):RV s ρ undef Go.undef:=⟨#[],rfl,rfl⟩
section
variable {V:VP} {P:Program} {s:Atoms}
theorem evalO_ok {ρ:Rho} {a:LAct} {a':Act} {o:Operand} {v:LV} (ht:∀ t,o=.tmp t→RV s ρ (a.get t) (a'.tmps.getD t Go.undef)) (h:evalO a o=some v):RV s ρ v (a'.eval o):=by
 cases o with
 |tmp t=>simp only [evalO,Option.some.injEq] at h;subst h;exact ht t rfl
 |const c=>exact ofV_ok h
 |global g=>simp only [evalO,Option.some.injEq] at h;subst h;rfl
 |func f=>simp only [evalO,Option.some.injEq] at h;subst h;exact ⟨#[],#[],rfl,rfl,rfl⟩
theorem evals_ok {ρ:Rho} {a:LAct} {a':Act}:∀ {l:List Operand} {vs:List LV},(∀ t,Operand.tmp t∈l→RV s ρ (a.get t) (a'.tmps.getD t Go.undef))→evals a l=some vs→RVs s ρ vs (l.map a'.eval)
 |[],vs,_,h=>by simp only [evals,Option.some.injEq] at h;subst h;rfl
 |o::r,vs,ht,h=>by
  simp only [evals] at h
  split at h
  case h_2=>cases h
  rename_i v vs' h1 h2
  cases h
  refine ⟨_,_,rfl,evalO_ok (fun t e=>ht t (by rw [e];exact .head _)) h1,evals_ok (fun t e=>ht t (.tail _ e)) h2⟩
theorem looks_operand {ops:Array Oper} {o:Oper} {t:Nat} (h:Operand.tmp t∈o.op.operands.toList):t∈o.looksAt ops:=
 List.mem_append_left _ (List.mem_filterMap.2 ⟨.tmp t,h,rfl⟩)
theorem wantedL_ok {ρ:Rho} {ops:Array Oper} {a:LAct} {a':Act} {o:Oper} {b:Bool} (ht:∀ t∈o.looksAt ops,RV s ρ (a.get t) (a'.tmps.getD t Go.undef)) (h:wantedL ops a o=some b):
  Region.wanted o (yielded ops a'.tmps)=b:=by
 unfold wantedL at h
 unfold Region.wanted
 split at h
 ·rename_i hg
  cases h;simp [hg]
 ·rename_i j want hg
  split at h
  case h_2=>cases h
  rename_i g hj
  split at h
  case h_2=>cases h
  rename_i d hd
  have hr:=ht d (List.mem_append_right _ (by simp [hg,hj,hd]))
  simp only [hg]
  unfold yielded
  simp only [hj,Option.bind_some,hd]
  split at h
  ·rename_i bb hb
   cases h
   rw [hb] at hr
   simp only [RV] at hr
   have:a'.tmps[d]?=some (.bool bb):=by
    rw [Array.getD_eq_getD_getElem?] at hr
    cases hx:a'.tmps[d]? with
    |none=>rw [hx] at hr;simp [Go.undef] at hr
    |some v=>rw [hx] at hr;simp at hr;rw [hr]
   simp [this]
  ·rename_i vs hb
   cases h
   rw [hb] at hr
   obtain ⟨c,e,_⟩:=hr
   rw [Array.getD_eq_getD_getElem?] at e
   cases hx:a'.tmps[d]? with
   |none=>simp
   |some v=>rw [hx] at e;simp at e;subst e;simp
  ·cases h
variable {C:CallF}
theorem out_ok (hV:V.Ok P s) (hX:ExtsOk V P s) (hC:CallsOk V P s C) {base:Nat} {w0:World} {ρ:Rho} {σ σ':St} {w:World} {ops:Array Oper} {a:LAct} {a':Act} {o:Oper} {v:LV} {d:Option Dfr} (hw:RW V s base w0 ρ σ w)
  (ht:∀ t∈o.looksAt ops,RV s ρ (a.get t) (a'.tmps.getD t Go.undef)) (h:outL V C ops a σ o=some (v,σ',d)) {K:Act→World→Prop} {Q:Exit→Act→World→Prop}
  (hK:∀ x w' ρ' dd,ρ <+: ρ'→RW V s base w0 ρ' σ' w'→RV s ρ' v x→ROD s ρ' d dd→K ((pushA a' dd).put o.dst x) w'):
  if Region.wanted o (yielded ops a'.tmps) then o.wp P a' w K Q∨(o.asks P a' w∧LetsOut Q) else K (a'.put o.dst Go.undef) w:=by
 unfold outL at h
 split at h
 ·cases h
 ·rename_i hwt
  cases h
  rw [wantedL_ok ht hwt,if_neg (by simp)]
  exact hK _ w ρ none (List.prefix_refl _) hw (rv_undef s ρ) trivial
 ·rename_i hwt
  rw [wantedL_ok ht hwt,if_pos rfl]
  split at h
  ·cases h
  rename_i vs hvs
  have he:=evals_ok (fun t hm=>ht t (looks_operand hm)) hvs
  refine .inl ?_
  unfold Oper.wp
  split at h
  ·cases h
  ·rename_i x σ1 hd
   cases h
   obtain ⟨x,w',ρ',e,h1,h2,h3⟩:=doOp_ok hV hX hw a'.eval he hd
   rw [e]
   exact hK x w' ρ' none h1 h2 h3 trivial
  ·rename_i σ1 hd
   cases h
   obtain ⟨w',ρ',e,h1,h2⟩:=doOp_ok hV hX hw a'.eval he hd
   rw [e]
   exact hK _ w' ρ' none h1 h2 (rv_undef s ρ') trivial
  ·rename_i f args σ1 hd
   obtain ⟨as,e,rfl,h1⟩:=doOp_ok hV hX hw a'.eval he hd
   rw [e]
   split at h
   case h_2=>cases h
   rename_i v1 σ2 hc
   cases h
   refine Calls.mono (hC base w0 ρ _ w f args as _ _ hw h1 hc) ?_
   rintro e w' ⟨x,ρ',rfl,g1,g2,g3⟩
   exact hK x w' ρ' none g1 g2 g3 trivial
  ·rename_i dd σ1 hd
   cases h
   obtain ⟨d',w',ρ',e,h1,h2,h3⟩:=doOp_ok hV hX hw a'.eval he hd
   rw [e]
   exact hK _ w' ρ' (some d') h1 h2 (rv_undef s ρ') h3
theorem putO_ok {ρ:Rho} {a a1:LAct} {a':Act} {dst:Option Tmp} {v:LV} {x:Value} (ha:RAct s ρ a a') (hv:RV s ρ v x) (h:putO a dst v=some a1):RAct s ρ a1 (a'.put dst x):=by
 cases dst with
 |none=>simp only [putO,Option.some.injEq] at h;subst h;exact ha
 |some d=>
  simp only [putO,LAct.put] at h
  cases hb:Nat.blt d a.n with
  |false=>rw [hb] at h;cases h
  |true=>
   rw [hb] at h
   simp only [cond_true,Option.some.injEq] at h
   subst h
   have hlt:d < a'.tmps.size:=by rw [ha.size];exact Nat.le_of_ble_eq_true hb
   refine ⟨by simp [Act.put,ha.size],?_,ha.defers⟩
   intro t
   simp only [LAct.get,Act.put,Tr.get_put]
   by_cases e:t=d
   ·subst e
    simp [hlt,hv]
   ·have:=ha.tmp t
    simp only [LAct.get] at this
    simp only [if_neg e]
    simpa [Array.getElem?_setIfInBounds_ne (Ne.symm e)] using this
theorem push_ok {ρ:Rho} {a:LAct} {a':Act} {d:Option Dfr} {dd:Option Deferred} (ha:RAct s ρ a a') (h:ROD s ρ d dd):RAct s ρ (pushD a d) (pushA a' dd):=by
 cases d with
 |none=>cases dd with
  |none=>exact ha
  |some _=>exact h.elim
 |some d=>cases dd with
  |none=>exact h.elim
  |some dd=>exact ⟨ha.size,ha.tmp,_,_,rfl,h,ha.defers⟩
theorem ops_ok (hV:V.Ok P s) (hX:ExtsOk V P s) (hC:CallsOk V P s C) {base:Nat} {w0:World} {ops:Array Oper} {τ:St} {A:LAct} {Q:Exit→Act→World→Prop}:∀ (n k:Nat) {ρ:Rho} {σ:St} {w:World} {a:LAct} {a':Act},n+k=ops.size →
  RW V s base w0 ρ σ w→RAct s ρ a a'→opsL V C ops (ops.toList.drop k) a σ=some (A,τ) →
  (∀ ρ' w' A',ρ <+: ρ'→RW V s base w0 ρ' τ w'→RAct s ρ' A A'→Q .normal A' w')→wpOps P ops Q (List.range' k n) a' w
 |0,k,ρ,σ,w,a,a',hk,hw,ha,h,hq=>by
  have:ops.toList.drop k=[]:=by apply List.drop_of_length_le;simp;omega
  rw [this] at h
  simp only [opsL,Option.some.injEq,Prod.mk.injEq] at h
  obtain ⟨rfl,rfl⟩:=h
  exact hq ρ w a' (List.prefix_refl _) hw ha
 |n+1,k,ρ,σ,w,a,a',hk,hw,ha,h,hq=>by
  have hlt:k < ops.size:=by omega
  rw [List.drop_eq_getElem_cons (by simpa using hlt)] at h
  simp only [opsL] at h
  split at h
  case h_2=>cases h
  rename_i v σ' d ho
  split at h
  case h_2=>cases h
  rename_i a1 hp
  rw [List.range'_succ,wpOps_cons]
  unfold wpOp
  have hg:ops[k]?=some ops.toList[k]:=by simp [hlt]
  rw [hg]
  simp only
  refine out_ok hV hX hC hw (fun t _=>ha.tmp t) ho ?_
  intro x w' ρ' dd h1 h2 h3 h4
  exact ops_ok hV hX hC n (k+1) (by omega) h2 (putO_ok (push_ok (ha.pre h1) h4) h3 hp) h (fun ρ'' w'' A' g1 g2 g3=>hq ρ'' w'' A' (h1.trans g1) g2 g3)
end
end Vx
set_option linter.unusedVariables false
set_option linter.unusedSimpArgs false
namespace Vx
open Go Go.RowKit
mutual
theorem beqLV_eq:∀ {a b:LV},beqLV a b=true→a=b
 |.bool _,b,h=>by cases b <;> simp [beqLV] at h;rw [h]
 |.int k _,b,h=>by
  cases b <;> simp [beqLV] at h
  obtain ⟨h1,h2⟩:=h
  rw [kindBeq_ok h1,h2]
 |.str _,b,h=>by cases b <;> simp only [beqLV,Bool.false_eq_true] at h;rw [Txt.beq_eq h]
 |.len _,b,h=>by cases b <;> simp only [beqLV,Bool.false_eq_true] at h;rw [Txt.beq_eq h]
 |.nilp,b,h=>by cases b <;> simp [beqLV] at h;rfl
 |.nils,b,h=>by cases b <;> simp [beqLV] at h;rfl
 |.nilm,b,h=>by cases b <;> simp [beqLV] at h;rfl
 |.nilf,b,h=>by cases b <;> simp [beqLV] at h;rfl
 |.nili,b,h=>by cases b <;> simp [beqLV] at h;rfl
 |.ptr _ _,b,h=>by cases b <;> simp [beqLV] at h;obtain ⟨rfl,rfl⟩:=h;rfl
 |.gptr _ _,b,h=>by cases b <;> simp [beqLV] at h;obtain ⟨rfl,rfl⟩:=h;rfl
 |.slice _ _ _ _,b,h=>by cases b <;> simp [beqLV] at h;obtain ⟨⟨⟨rfl,rfl⟩,rfl⟩,rfl⟩:=h;rfl
 |.bsl _ _,b,h=>by
  cases b <;> simp only [beqLV,Bool.and_eq_true,Bool.false_eq_true] at h
  obtain ⟨h1,h2⟩:=h
  rw [Nat.eq_of_beq_eq_true h1,Txt.beq_eq h2]
 |.map _,b,h=>by cases b <;> simp [beqLV] at h;rw [h]
 |.func f x y,b,h=>by
  cases b with
  |func g u v=>
   cases f <;> cases g <;> simp only [beqLV,Bool.and_eq_true,Bool.false_eq_true] at h
   ·obtain ⟨⟨h1,h2⟩,h3⟩:=h
    rw [Nat.eq_of_beq_eq_true h1,beqLVs_eq h2,beqLVs_eq h3]
   ·obtain ⟨⟨h1,h2⟩,h3⟩:=h
    rw [eq_of_beq h1,beqLVs_eq h2,beqLVs_eq h3]
  |_=>cases f <;> simp [beqLV] at h
 |.iface t v,b,h=>by
  cases b <;> simp only [beqLV,Bool.and_eq_true,Bool.false_eq_true] at h
  obtain ⟨h1,h2⟩:=h
  rw [Nat.eq_of_beq_eq_true h1,beqLV_eq h2]
 |.agg _,b,h=>by cases b <;> simp only [beqLV,Bool.false_eq_true] at h;rw [beqLVs_eq h]
 |.tuple _,b,h=>by cases b <;> simp only [beqLV,Bool.false_eq_true] at h;rw [beqLVs_eq h]
theorem beqLVs_eq:∀ {a b:List LV},beqLVs a b=true→a=b
 |[],[],_=>rfl
 |[],_::_,h=>by simp [beqLVs] at h
 |_::_,[],h=>by simp [beqLVs] at h
 |a::x,b::y,h=>by
  simp only [beqLVs,Bool.and_eq_true] at h
  rw [beqLV_eq h.1,beqLVs_eq h.2]
end
section
variable {V:VP}
theorem builtinLen_same {σ σ':St} {ats:List TypeId} {vs:List LV} {v:LV} (h:builtinL V σ .len ats vs=some (v,σ')):σ'=σ:=by
 rcases ats with _|⟨t,ats⟩ <;> rcases vs with _|⟨x,_|_⟩
 all_goals first|(exfalso;simp [builtinL] at h;done)|skip
 simp only [builtinL] at h
 split at h
 ·cases h
 split at h
 all_goals first
  |(cases h;done)
  |(cases h;rfl)
  |(split at h <;> first|(cases h;done)|(cases h;rfl))
theorem conv_same {σ σ':St} {t u:TypeId} {x v:LV} (hq:readOp V (.convert t u (.tmp 0))=true) (h:convL V σ t u x=some (v,σ')):σ'=σ:=by
 simp only [readOp,und?] at hq
 unfold convL at h
 split at h
 case h_2=>cases h
 rename_i i j hi hj
 simp only [hi,hj] at hq
 split at h
 all_goals first
  |(cases h;done)
  |(cases h;rfl)
  |(exfalso;simp_all;done)
  |skip
 ·rename_i e l t' h1 h2
  cases hu:isU8 V e with
  |false=>rw [hu] at h;cases h
  |true=>
   rw [hu] at h;simp only [cond_true] at h
   split at h
   ·cases h;rfl
   ·cases h
 ·rename_i e h1 h2
  cases hu:isU8 V e with
  |false=>rw [hu] at h;cases h
  |true=>rw [hu] at h;cases h;rfl
 ·rename_i e l i' esz n h1 h2
  cases hu:isU8 V e with
  |false=>rw [hu] at h;cases h
  |true=>
   rw [hu] at h;simp only [cond_true] at h
   split at h
   case h_2=>cases h
   split at h
   ·cases h;rfl
   ·cases h
theorem quiet_op {σ:St} {op:Op} {vs:List LV} {r:ORes} (hq:quiet V op=true) (h:doOp V σ op vs=some r):∃ v,r=.val v σ:=by
 have hv:∀ {o:Option LV},vOf σ o=some r→∃ v,r=.val v σ:=by
  intro o ho
  unfold vOf at ho
  split at ho
  ·cases ho;exact ⟨_,rfl⟩
  ·cases ho
 cases op
 all_goals first
  |(exfalso;simp [quiet,pureOp,readOp] at hq;done)
  |skip
 case convert t u x=>
  unfold doOp at h
  split at h
  all_goals first|contradiction|skip
  rename_i s' d' x' y heq
  cases heq
  unfold toVal at h
  split at h
  case h_2=>cases h
  rename_i v σ' hc
  cases h
  exact ⟨v,by rw [conv_same (by simpa [quiet,pureOp,readOp] using hq) hc]⟩
 case call c=>
  have hb:c.callee=.builtin .len:=by
   simp only [quiet,pureOp,readOp,Bool.false_or] at hq
   split at hq
   ·assumption
   ·cases hq
  simp only [doOp,hb] at h
  unfold toVal at h
  split at h
  case h_2=>cases h
  rename_i v σ' hc
  cases h
  exact ⟨v,by rw [builtinLen_same hc]⟩
 all_goals (unfold doOp at h;split at h;all_goals first|contradiction|skip)
 all_goals (try simp only [Bool.cond_eq_ite] at h)
 all_goals (repeat' split at h)
 all_goals first
  |(cases h;done)
  |(cases h;exact ⟨_,rfl⟩)
  |exact hv h
theorem pure_op {σ:St} {op:Op} {vs:List LV} {r:ORes} (hq:pureOp op=true) (h:doOp V σ op vs=some r):∃ v,r=.val v σ∧∀ σ2,doOp V σ2 op vs=some (.val v σ2):=by
 obtain ⟨v,rfl⟩:=quiet_op (V:=V) (σ:=σ) (by simp [quiet,hq]) h
 refine ⟨v,rfl,fun σ2=>?_⟩
 have hv:∀ {o:Option LV},vOf σ o=some (.val v σ)→vOf σ2 o=some (.val v σ2):=by
  intro o ho
  unfold vOf at *
  split at ho
  ·cases ho;rfl
  ·cases ho
 cases op
 all_goals first
  |(exfalso;simp [pureOp] at hq;done)
  |skip
 all_goals (unfold doOp at h;split at h;all_goals first|contradiction|skip)
 all_goals (try simp only [Bool.cond_eq_ite] at h)
 all_goals (repeat' split at h)
 all_goals first
  |(cases h;done)
  |(simp_all [doOp,vOf];done)
  |skip
 ·rename_i hj hk _ _ _ _ _ _ _ he _ _ hs hc
  injections;subst_vars
  simp only [doOp,hj,hk,he,hs,hc,cond_true]
 ·rename_i hj hk _ _ _ _ _ _ he _ _ hs hc
  injections;subst_vars
  simp only [doOp,hj,hk,he,hs,hc,cond_true]
 ·rename_i hj hk _ _ _ _ _ he _ _ hs hc
  injections;subst_vars
  simp only [doOp,hj,hk,he,hs,hc,cond_true]
  exact hv h
end
end Vx
set_option linter.unusedVariables false
set_option linter.unusedSimpArgs false
namespace Vx
open Go Go.RowKit
theorem allL_mem {α:Type} {p:α→Bool}:∀ {l:List α},allL p l=true→∀ x∈l,p x=true
 |[],_,x,h=>by cases h
 |y::l,h,x,hx=>by
  simp only [allL,Bool.and_eq_true] at h
  cases hx with
  |head=>exact h.1
  |tail _ hx=>exact allL_mem h.2 x hx
theorem memNat_iff {n:Nat}:∀ {l:List Nat},memNat n l=true↔n∈l
 |[]=>by simp [memNat]
 |a::l=>by
  simp only [memNat,Bool.or_eq_true,List.mem_cons,memNat_iff (l:=l)]
  constructor
  ·rintro (h|h)
   ·exact .inl (Nat.eq_of_beq_eq_true h)
   ·exact .inr h
  ·rintro (h|h)
   ·exact .inl (by subst h;exact Nat.beq_refl n)
   ·exact .inr h
theorem hasFst_mem {e:Nat}:∀ {l:List (Nat×Oper)},hasFst e l=true→∃ o,(e,o)∈l
 |[],h=>by cases h
 |(i,o)::l,h=>by
  simp only [hasFst,Bool.or_eq_true] at h
  rcases h with h|h
  ·have:=Nat.eq_of_beq_eq_true h;subst this;exact ⟨o,.head _⟩
  ·obtain ⟨o,ho⟩:=hasFst_mem h;exact ⟨o,.tail _ ho⟩
theorem mem_directs {e:Nat} {o:Oper}:e∈directs o↔∃ d∈o.after,Region.binds .any d=true∧d.on=e:=by
 simp [directs,and_assoc]
theorem mem_pairs {ops:Array Oper}:∀ {l:List Nat} {x:Nat×Oper},x∈pairs ops l→ops[x.1]?=some x.2
 |[],_,h=>by cases h
 |i::l,x,h=>by
  simp only [pairs] at h
  split at h
  ·rename_i o ho
   cases h with
   |head=>exact ho
   |tail _ h=>exact mem_pairs h
  ·exact mem_pairs h
theorem pick_mem {seen:List (Nat×Oper)}:∀ {l r:List (Nat×Oper)} {x:Nat×Oper},pickL seen l=some (x,r)→∀ y,y=x∨y∈r→y∈l
 |[],_,_,h=>by cases h
 |(i,o)::l,r,x,h=>by
  simp only [pickL] at h
  cases hc:allL (fun e=>hasFst e seen) (directs o) with
  |true=>
   rw [hc] at h;simp only [cond_true,Option.some.injEq,Prod.mk.injEq] at h
   obtain ⟨rfl,rfl⟩:=h
   rintro y (rfl|hy)
   ·exact .head _
   ·exact .tail _ hy
  |false=>
   rw [hc] at h;simp only [cond_false] at h
   split at h
   case h_2=>cases h
   rename_i x' r' hp
   cases h
   rintro y (rfl|hy)
   ·exact .tail _ (pick_mem hp _ (.inl rfl))
   ·cases hy with
    |head=>exact .head _
    |tail _ hy=>exact .tail _ (pick_mem hp _ (.inr hy))
theorem sort_mem:∀ {n:Nat} {seen l:List (Nat×Oper)},(sortL n seen l).length≤n∧∀ y∈sortL n seen l,y∈l
 |0,_,_=>⟨Nat.le_refl 0,fun y h=>by cases h⟩
 |n+1,seen,l=>by
  simp only [sortL]
  split
  ·rename_i x r hp
   obtain ⟨h1,h2⟩:=sort_mem (n:=n) (seen:=x::seen) (l:=r)
   refine ⟨by simp [h1],fun y hy=>?_⟩
   cases hy with
   |head=>exact pick_mem hp _ (.inl rfl)
   |tail _ hy=>exact pick_mem hp _ (.inr (h2 y hy))
  ·exact ⟨by simp,fun y h=>by cases h⟩
theorem order_mem {ops:Array Oper}:(orderL ops).length≤ops.size∧∀ x∈orderL ops,ops[x.1]?=some x.2:=
 ⟨sort_mem.1,fun x hx=>mem_pairs (sort_mem.2 x hx)⟩
theorem data_at {ops:Array Oper}:∀ {L seen:List (Nat×Oper)},dataOk ops seen L=true→∀ (m1:List (Nat×Oper)) (x:Nat×Oper) (m2:List (Nat×Oper)),L=m1++x::m2 →
  (∀ y,y∈seen∨y∈m1→∀ d,y.2.dst=some d→d∈x.2.looksAt ops→y.1∈directs x.2) ∧
  (∀ y∈x::m2,∀ d,y.2.dst=some d→d∉x.2.looksAt ops) ∧
  (∀ d,x.2.dst=some d→∀ y∈m2,y.2.dst≠some d) ∧
  (∀ e∈directs x.2,∃ o,(e,o)∈seen∨(e,o)∈m1)
 |[],_,_,m1,x,m2,e=>by simp at e
 |(i,o)::L,seen,h,m1,x,m2,e=>by
  simp only [dataOk,Bool.and_eq_true] at h
  obtain ⟨⟨⟨⟨h1,h2⟩,h3⟩,h4⟩,h5⟩:=h
  cases m1 with
  |nil=>
   simp only [List.nil_append,List.cons.injEq] at e
   obtain ⟨rfl,rfl⟩:=e
   refine ⟨?_,?_,?_,?_⟩
   ·rintro y (hy|hy) d hd hl
    ·have:=allL_mem h1 y hy
     simp only [hd,Bool.or_eq_true,Bool.not_eq_true'] at this
     rcases this with this|this
     ·have hm:=memNat_iff.2 hl
      rw [hm] at this;cases this
     ·exact memNat_iff.1 this
    ·cases hy
   ·intro y hy d hd hl
    have:=allL_mem h2 y hy
    simp only [hd,Bool.not_eq_true'] at this
    have hm:=memNat_iff.2 hl
    rw [hm] at this;cases this
   ·intro d hd y hy hyd
    change o.dst=some d at hd
    rw [hd] at h3
    have:=allL_mem h3 y hy
    simp only [hyd,Bool.not_eq_true'] at this
    rw [Nat.beq_refl] at this;cases this
   ·intro e he
    obtain ⟨o',ho⟩:=hasFst_mem (allL_mem h4 e he)
    exact ⟨o',.inl ho⟩
  |cons z m1=>
   simp only [List.cons_append,List.cons.injEq] at e
   obtain ⟨rfl,rfl⟩:=e
   obtain ⟨g1,g2,g3,g4⟩:=data_at h5 m1 x m2 rfl
   refine ⟨?_,g2,g3,?_⟩
   ·rintro y (hy|hy)
    ·exact g1 y (.inl (.tail _ hy))
    ·cases hy with
     |head=>exact g1 _ (.inl (.head _))
     |tail _ hy=>exact g1 y (.inr hy)
   ·intro e he
    obtain ⟨o',ho|ho⟩:=g4 e he
    ·cases ho with
     |head=>exact ⟨_,.inr (.head _)⟩
     |tail _ ho=>exact ⟨o',.inl ho⟩
    ·exact ⟨o',.inr (.tail _ ho)⟩
section
variable {V:VP} {C:CallF} {ops:Array Oper}
theorem evals_congr {a b:LAct}:∀ {l:List Operand},(∀ t,Operand.tmp t∈l→a.get t=b.get t)→evals a l=evals b l
 |[],_=>rfl
 |o::l,h=>by
  have h1:evalO a o=evalO b o:=by
   cases o with
   |tmp t=>simp only [evalO];rw [h t (.head _)]
   |_=>rfl
  simp only [evals,h1,evals_congr (l:=l) fun t ht=>h t (.tail _ ht)]
theorem out_congr {a b:LAct} {σ:St} {o:Oper} (h:∀ t∈o.looksAt ops,a.get t=b.get t):outL V C ops a σ o=outL V C ops b σ o:=by
 have h1:wantedL ops a o=wantedL ops b o:=by
  unfold wantedL
  split
  ·rfl
  ·rename_i j want hg
   split
   ·rename_i g hj
    split
    ·rename_i d hd
     rw [h d (List.mem_append_right _ (by simp [hg,hj,hd]))]
    ·rfl
   ·rfl
 have h2:=evals_congr (a:=a) (b:=b) (l:=o.op.operands.toList) fun t ht=>h t (looks_operand ht)
 unfold outL
 rw [h1,h2]
theorem out_quiet {a:LAct} {σ σ':St} {o:Oper} {v:LV} {d:Option Dfr} (hq:quiet V o.op=true) (h:outL V C ops a σ o=some (v,σ',d)):σ'=σ∧d=none:=by
 unfold outL at h
 split at h
 ·cases h
 ·cases h;exact ⟨rfl,rfl⟩
 ·split at h
  ·cases h
  split at h
  ·cases h
  all_goals (rename_i hd;obtain ⟨v',e⟩:=quiet_op hq hd;cases e)
  cases h;exact ⟨rfl,rfl⟩
theorem out_pure {a:LAct} {σ σ':St} {o:Oper} {v:LV} {d:Option Dfr} (hq:pureOp o.op=true) (h:outL V C ops a σ o=some (v,σ',d)) (σ2:St):outL V C ops a σ2 o=some (v,σ2,none):=by
 unfold outL at h ⊢
 split at h
 ·cases h
 ·rename_i hw
  cases h;simp [hw]
 ·rename_i hw
  split at h
  ·cases h
  rename_i vs hvs
  split at h
  ·cases h
  all_goals (rename_i hd;obtain ⟨v',e,h2⟩:=pure_op hq hd;cases e)
  cases h
  simp [hw,hvs,h2 σ2]
def Walked (V:VP) (C:CallF) (ops:Array Oper) (A:LAct) (τ:St):St→List Rec→Prop
 |σ,[]=>σ=τ
 |σ,r::rest=>r.σ=σ∧(∃ σ',outL V C ops A σ r.o=some (r.v,σ',none)∧Walked V C ops A τ σ' rest)∧∀ d,r.o.dst=some d→A.get d=r.v∧d < A.n
theorem walk_ok:∀ {L seen:List (Nat×Oper)} {a A:LAct} {σ τ:St} {rs:List Rec},dataOk ops seen L=true→walkL V C ops L a σ=some (rs,A,τ) →
  rs.map (fun r=>(r.i,r.o))=L∧Walked V C ops A τ σ rs∧A.n=a.n∧A.defers=a.defers∧(∀ t,(∀ x∈L,x.2.dst≠some t)→A.get t=a.get t)
 |[],_,a,A,σ,τ,rs,_,h=>by
  simp only [walkL,Option.some.injEq,Prod.mk.injEq] at h
  obtain ⟨rfl,rfl,rfl⟩:=h
  exact ⟨rfl,rfl,rfl,rfl,fun _ _=>rfl⟩
 |(i,o)::L,seen,a,A,σ,τ,rs,hd,h=>by
  simp only [walkL] at h
  split at h
  case h_2=>cases h
  rename_i v σ' ho
  split at h
  case h_2=>cases h
  rename_i a1 hp
  split at h
  case h_2=>cases h
  rename_i rs' A' τ' hw
  cases h
  have hd':=hd
  simp only [dataOk,Bool.and_eq_true] at hd'
  obtain ⟨h1,h2,h3,h4,h5⟩:=walk_ok hd'.2 hw
  obtain ⟨_,g2,g3,_⟩:=data_at hd [] (i,o) L rfl
  have a1n:a1.n=a.n∧a1.defers=a.defers∧(∀ t,o.dst≠some t→a1.get t=a.get t)∧∀ d,o.dst=some d→a1.get d=v∧d < a.n:=by
   cases hdst:o.dst with
   |none=>
    rw [hdst] at hp;simp only [putO,Option.some.injEq] at hp;subst hp
    exact ⟨rfl,rfl,fun _ _=>rfl,fun _ h=>by cases h⟩
   |some d=>
    rw [hdst] at hp;simp only [putO,LAct.put] at hp
    cases hb:Nat.blt d a.n with
    |false=>rw [hb] at hp;cases hp
    |true=>
     rw [hb] at hp;simp only [cond_true,Option.some.injEq] at hp;subst hp
     refine ⟨rfl,rfl,fun t ht=>?_,fun d' hd'=>?_⟩
     ·simp only [LAct.get,Tr.get_put]
      rw [if_neg (fun e=>ht (by rw [e]))]
     ·cases hd'
      refine ⟨by simp [LAct.get,Tr.get_put],Nat.le_of_ble_eq_true hb⟩
  obtain ⟨n1,n2,n3,n4⟩:=a1n
  have hget:∀ t,(∀ x∈(i,o)::L,x.2.dst≠some t)→A.get t=a.get t:=by
   intro t ht
   rw [h5 t (fun x hx=>ht x (.tail _ hx)),n3 t (ht _ (.head _))]
  refine ⟨by simp [h1],⟨rfl,⟨σ',?_,h2⟩,?_⟩,h3.trans n1,h4.trans n2,hget⟩
  ·rw [← ho]
   refine out_congr fun t ht=>hget t fun x hx he=>?_
   exact g2 x hx t he ht
  ·intro d hdst
   have:=h5 d (fun x hx=>g3 d hdst x hx)
   exact ⟨by rw [this];exact (n4 d hdst).1,by rw [h3,n1];exact (n4 d hdst).2⟩
theorem Walked.head {A:LAct} {σ τ:St}:∀ {rs:List Rec},Walked V C ops A τ σ rs→headS rs τ=σ
 |[],h=>h.symm
 |_::_,h=>h.1
theorem Walked.at {A:LAct} {τ:St}:∀ {m1:List Rec} {r:Rec} {m2:List Rec} {σ:St},Walked V C ops A τ σ (m1++r::m2) →
  outL V C ops A r.σ r.o=some (r.v,headS m2 τ,none)∧∀ d,r.o.dst=some d→A.get d=r.v∧d < A.n
 |[],r,m2,σ,h=>by
  obtain ⟨rfl,⟨σ',h1,h2⟩,h3⟩:=h
  rw [h2.head];exact ⟨h1,h3⟩
 |x::m1,r,m2,σ,h=>by
  obtain ⟨_,⟨σ',_,h2⟩,_⟩:=h
  exact Walked.at h2
theorem Walked.drop {A:LAct} {τ:St}:∀ {m1 m2:List Rec} {σ:St},Walked V C ops A τ σ (m1++m2)→Walked V C ops A τ (headS m2 τ) m2
 |[],m2,σ,h=>by
  have h':Walked V C ops A τ σ m2:=h
  rw [h'.head];exact h'
 |x::m1,m2,σ,h=>by
  obtain ⟨_,⟨σ',_,h2⟩,_⟩:=h
  exact Walked.drop h2
theorem Walked.skip {A:LAct} {τ:St}:∀ {k1 k2:List Rec} {σ:St},Walked V C ops A τ σ (k1++k2)→(∀ x∈k1,quiet V x.o.op=true)→headS (k1++k2) τ=headS k2 τ
 |[],_,_,_,_=>rfl
 |x::k1,k2,σ,h,hq=>by
  obtain ⟨e,⟨σ',h1,h2⟩,_⟩:=h
  have:=(out_quiet (hq x (.head _)) h1).1
  have h2':Walked V C ops A τ σ' (k1++k2):=h2
  rw [← Walked.skip h2' fun y hy=>hq y (.tail _ hy),h2'.head,this]
  exact e
theorem orAll_bit {T:Tr Nat} {k:Nat}:∀ {l:List Nat},Nat.testBit (orAll T l) k=true→∃ e∈l,k=e∨Nat.testBit (maskOf T e) k=true
 |[],h=>by simp [orAll] at h
 |e::l,h=>by
  simp only [orAll,Nat.lor_eq,Nat.testBit_or,Nat.testBit_two_pow,Bool.or_eq_true,decide_eq_true_eq] at h
  rcases h with (h|h)|h
  ·exact ⟨e,.head _,.inl h.symm⟩
  ·exact ⟨e,.head _,.inr h⟩
  ·obtain ⟨e',h1,h2⟩:=orAll_bit h
   exact ⟨e',.tail _ h1,h2⟩
theorem line_at {T:Tr Nat}:∀ {l2 l1:List Rec},lineOk V T l1 l2=true→∀ (m1:List Rec) (r:Rec) (m2:List Rec),l2=m1++r::m2→quiet V r.o.op=false →
  ∀ x,x∈l1∨x∈m1→quiet V x.o.op=false→Nat.testBit (maskOf T r.i) x.i=true
 |[],_,_,m1,r,m2,e=>by simp at e
 |y::l2,l1,h,m1,r,m2,e=>by
  simp only [lineOk,Bool.and_eq_true,Bool.or_eq_true] at h
  cases m1 with
  |nil=>
   simp only [List.nil_append,List.cons.injEq] at e
   obtain ⟨rfl,rfl⟩:=e
   rintro hr x (hx|hx) hq
   ·have h1:=h.1.resolve_left (by rw [hr];simp)
    have:=allL_mem h1 x hx
    simp only [hq,Bool.false_or] at this
    exact this
   ·cases hx
  |cons z m1=>
   simp only [List.cons_append,List.cons.injEq] at e
   obtain ⟨rfl,rfl⟩:=e
   rintro hr x (hx|hx) hq
   ·exact line_at h.2 m1 r m2 rfl hr x (.inl (.tail _ hx)) hq
   ·cases hx with
    |head=>exact line_at h.2 m1 r m2 rfl hr _ (.inl (.head _)) hq
    |tail _ hx=>exact line_at h.2 m1 r m2 rfl hr x (.inr hx) hq
theorem cut_here {T:Tr Nat} {A:LAct} {τ:St} {r:Rec} {l1 l2:List Rec} (h:cutHere V C ops T A τ r l1 l2=true) (hc:l1=[]∨∃ x l,l1=x::l∧quiet V x.o.op=false)
  (h1:∀ x∈l1,quiet V x.o.op=false→Nat.testBit (maskOf T x.i) r.i=false)
  (h2:∀ x∈l2,quiet V x.o.op=false→Nat.testBit (maskOf T r.i) x.i=false):sameAt V C ops A r (headS l2 τ)=true:=by
 have mk:∀ {p:Rec→Bool} {l:List Rec},(∀ x∈l,p x=true)→allL p l=true:=by
  intro p l
  induction l with
  |nil=>intro _;rfl
  |cons y l ih=>intro h;simp only [allL,Bool.and_eq_true];exact ⟨h y (.head _),ih fun x hx=>h x (.tail _ hx)⟩
 unfold cutHere at h
 have e1:allL (fun x=>quiet V x.o.op||!Nat.testBit (maskOf T x.i) r.i) l1=true:=mk fun x hx=>by
  cases hq:quiet V x.o.op with
  |true=>rfl
  |false=>simp [h1 x hx hq]
 have e2:allL (fun x=>quiet V x.o.op||!Nat.testBit (maskOf T r.i) x.i) l2=true:=mk fun x hx=>by
  cases hq:quiet V x.o.op with
  |true=>rfl
  |false=>simp [h2 x hx hq]
 rw [e1,e2] at h
 rcases hc with rfl|⟨x,l,rfl,hq⟩
 ·simpa using h
 ·simpa [hq] using h
theorem cut_at {T:Tr Nat} {A:LAct} {τ:St} {r:Rec}:∀ {l2 l1:List Rec},cutOk V C ops T A τ r l1 l2=true→∀ k1 k2,l2=k1++k2→cutHere V C ops T A τ r (k1.reverse++l1) k2=true
 |[],l1,h,k1,k2,e=>by
  obtain ⟨rfl,rfl⟩:=List.append_eq_nil_iff.1 e.symm
  exact h
 |y::l2,l1,h,k1,k2,e=>by
  simp only [cutOk,Bool.and_eq_true] at h
  cases k1 with
  |nil=>
   simp only [List.nil_append] at e
   subst e;exact h.1
  |cons z k1=>
   simp only [List.cons_append,List.cons.injEq] at e
   obtain ⟨rfl,rfl⟩:=e
   have:=cut_at h.2 k1 k2 rfl
   simpa using this
structure DInv (s:Atoms) (base:Nat) (w0:World) (ops:Array Oper) (T:Tr Nat) (rs:List Rec) (A:LAct) (τ:St) (V:VP) (listed:Array Bool) (a':Act) (w:World) (ρ:Rho):Prop where
 size:a'.tmps.size=A.n
 lsize:listed.size=ops.size
 tmp:∀ t,(∀ r∈rs,listed.getD r.i false=false→r.o.dst≠some t)→RV s ρ (A.get t) (a'.tmps.getD t Go.undef)
 defers:RDfrs s ρ A.defers a'.defers
 closed:∀ r∈rs,listed.getD r.i false=true→∀ i,Nat.testBit (maskOf T r.i) i=true→listed.getD i false=true
 heap:∃ l1 l2,rs=l1++l2∧(l1=[]∨∃ l0 x,l1=l0++[x]∧quiet V x.o.op=false)∧(∀ x∈l1,quiet V x.o.op=false→listed.getD x.i false=true) ∧
  (∀ x∈l2,quiet V x.o.op=false→listed.getD x.i false=false)∧RW V s base w0 ρ (headS l2 τ) w
theorem firstOf {α:Type} {p:α→Bool}:∀ {l:List α},(∃ x∈l,p x=false)→∃ m1 x m2,l=m1++x::m2∧p x=false∧∀ y∈m1,p y=true
 |[],h=>by obtain ⟨_,h,_⟩:=h;cases h
 |y::l,h=>by
  cases hp:p y with
  |false=>exact ⟨[],y,l,rfl,hp,fun _ h=>by cases h⟩
  |true=>
   obtain ⟨x,hx,hpx⟩:=h
   cases hx with
   |head=>rw [hp] at hpx;cases hpx
   |tail _ hx=>
    obtain ⟨m1,z,m2,rfl,h1,h2⟩:=firstOf ⟨x,hx,hpx⟩
    refine ⟨y::m1,z,m2,rfl,h1,fun u hu=>?_⟩
    cases hu with
    |head=>exact hp
    |tail _ hu=>exact h2 u hu
theorem set_get {listed:Array Bool} {i j:Nat} (hi:i < listed.size):(listed.setIfInBounds i true).getD j false=if j=i then true else listed.getD j false:=by
 by_cases e:j=i
 ·subst e;simp [hi]
 ·simp [Array.getElem?_setIfInBounds_ne (Ne.symm e),e]
theorem getD_both {listed:Array Bool} {i:Nat} (hi:i < listed.size) (d e:Bool):listed.getD i d=listed.getD i e:=by
 simp [Array.getD,hi]
end
end Vx
set_option linter.unusedVariables false
set_option linter.unusedSimpArgs false
namespace Vx
open Go Go.RowKit
section
variable {V:VP} {P:Program} {s:Atoms} {C:CallF}
structure Drawn (V:VP) (C:CallF) (ops:Array Oper) (T:Tr Nat) (rs:List Rec) (A:LAct) (σ τ:St):Prop where
 mem:∀ r∈rs,ops[r.i]?=some r.o
 data:∀ m1 r m2,rs=m1++r::m2 →
  (∀ y∈m1,∀ d,y.o.dst=some d→d∈r.o.looksAt ops→y.i∈directs r.o) ∧
  (∀ y∈r::m2,∀ d,y.o.dst=some d→d∉r.o.looksAt ops) ∧
  (∀ e∈directs r.o,∃ y∈m1,y.i=e)
 mask:∀ r∈rs,maskOf T r.i=orAll T (directs r.o)
 cover:∀ i < ops.size,∃ r∈rs,r.i=i
 walked:Walked V C ops A τ σ rs
 line:lineOk V T [] rs=true
 reads:readsOk V C ops T A τ rs=true
theorem any_ok (hV:V.Ok P s) (hX:ExtsOk V P s) (hC:CallsOk V P s C) {base:Nat} {w0:World} {ops:Array Oper} {T:Tr Nat} {rs:List Rec} {A:LAct} {σ τ:St} (D:Drawn V C ops T rs A σ τ) {Q:Exit→Act→World→Prop}:
  ∀ (fuel:Nat) {listed:Array Bool} {a':Act} {w:World} {ρ:Rho},DInv s base w0 ops T rs A τ V listed a' w ρ→rs.countP (fun r=>!listed.getD r.i false)≤fuel →
  (∀ ρ' w' A',ρ <+: ρ'→RW V s base w0 ρ' τ w'→RAct s ρ' A A'→Q .normal A' w')→wpAny P .any ops Q fuel listed a' w:=by
 have hdone:∀ {listed:Array Bool} {a':Act} {w:World} {ρ:Rho},DInv s base w0 ops T rs A τ V listed a' w ρ→(∀ ρ' w' A',ρ <+: ρ'→RW V s base w0 ρ' τ w'→RAct s ρ' A A'→Q .normal A' w') →
   (∀ r∈rs,listed.getD r.i false=true)→Q .normal a' w:=by
  intro listed a' w ρ I hq hall
  obtain ⟨l1,l2,hl,hc,hl1,hl2,hw⟩:=I.heap
  refine hq ρ w a' (List.prefix_refl _) ?_ ⟨I.size,fun t=>I.tmp t fun r hr hun=>(by rw [hall r hr] at hun;cases hun),I.defers⟩
  have hdrop:Walked V C ops A τ _ l2:=(by rw [hl] at D;exact D.walked:Walked V C ops A τ σ (l1++l2)).drop
  have hq2:∀ x∈l2,quiet V x.o.op=true:=by
   intro x hx
   cases hxq:quiet V x.o.op with
   |true=>rfl
   |false=>
    have h1:=hl2 x hx hxq
    rw [hall x (by rw [hl];exact List.mem_append_right _ hx)] at h1;cases h1
  have:=(by rw [List.append_nil];exact hdrop:Walked V C ops A τ _ (l2++[])).skip hq2
  rw [List.append_nil] at this
  rw [this] at hw
  exact hw
 have hready:∀ {listed:Array Bool} {a':Act} {w:World} {ρ:Rho},DInv s base w0 ops T rs A τ V listed a' w ρ→Region.ready .any ops listed=[]→∀ r∈rs,listed.getD r.i false=true:=by
  intro listed a' w ρ I hr
  cases hall:rs.all (fun r=>listed.getD r.i false) with
  |true=>exact fun r hm=>List.all_eq_true.1 hall r hm
  |false=>
   obtain ⟨r,hm,hf⟩:=List.all_eq_false.1 hall
   obtain ⟨m1,x,m2,e,hx,hm1⟩:=firstOf (p:=fun r=>listed.getD r.i false) ⟨r,hm,by simpa using hf⟩
   have hxm:x∈rs:=by rw [e];simp
   have ho:=D.mem x hxm
   have hb:x.i < listed.size:=by rw [I.lsize];exact (Array.getElem?_eq_some_iff.1 ho).1
   have:x.i∈Region.ready .any ops listed:=mem_ready.2 ⟨by rw [getD_both hb true false];exact hx,x.o,ho,fun d hd hbi=>by
    obtain ⟨y,hy,hye⟩:=(D.data m1 x m2 e).2.2 d.on (mem_directs.2 ⟨d,hd,hbi,rfl⟩)
    rw [← hye];exact hm1 y hy⟩
   rw [hr] at this;cases this
 intro fuel
 induction fuel with
 |zero=>
  intro listed a' w ρ I hf hq
  have hall:∀ r∈rs,listed.getD r.i false=true:=by
   intro r hr
   have:=List.countP_eq_zero.1 (Nat.le_zero.1 hf) r hr
   simpa using this
  refine ⟨?_,hdone I hq hall⟩
  rw [List.eq_nil_iff_forall_not_mem]
  intro i hi
  obtain ⟨hun,o,ho,_⟩:=mem_ready.1 hi
  have hib:i < listed.size:=by rw [I.lsize];exact (Array.getElem?_eq_some_iff.1 ho).1
  obtain ⟨r,hr,rfl⟩:=D.cover i (by rw [← I.lsize];exact hib)
  rw [getD_both hib true false,hall r hr] at hun
  cases hun
 |succ fuel ih=>
  intro listed a' w ρ I hf hq
  have bound:∀ r∈rs,r.i < listed.size:=fun r hr=>by
   rw [I.lsize];exact (Array.getElem?_eq_some_iff.1 (D.mem r hr)).1
  refine ⟨fun h0=>hdone I hq (hready I h0),?_⟩
  ·intro i hi
   obtain ⟨hun,o,ho,hedge⟩:=mem_ready.1 hi
   have hib:i < listed.size:=by rw [I.lsize];exact (Array.getElem?_eq_some_iff.1 ho).1
   rw [getD_both hib true false] at hun
   obtain ⟨r,hr,rfl⟩:=D.cover i (by rw [← I.lsize];exact hib)
   have hro:r.o=o:=by have:=D.mem r hr;rw [ho] at this;exact (Option.some.inj this).symm
   subst hro
   have hdir:∀ e∈directs r.o,listed.getD e false=true:=by
    intro e he
    obtain ⟨d,h1,h2,rfl⟩:=mem_directs.1 he
    exact hedge d h1 h2
   obtain ⟨m1,m2,hrs⟩:=List.append_of_mem hr
   obtain ⟨d1,d2,d3⟩:=D.data m1 r m2 hrs
   have hmask:∀ k,Nat.testBit (maskOf T r.i) k=true→listed.getD k false=true:=by
    intro k hk
    rw [D.mask r hr] at hk
    obtain ⟨e,he,h|h⟩:=orAll_bit hk
    ·subst h;exact hdir _ he
    ·obtain ⟨y,hy,rfl⟩:=d3 e he
     exact I.closed y (by rw [hrs];exact List.mem_append_left _ hy) (hdir _ he) k h
   have hlook:∀ t∈r.o.looksAt ops,RV s ρ (A.get t) (a'.tmps.getD t Go.undef):=by
    intro t ht
    refine I.tmp t fun r' hr' hun' hdst=>?_
    rw [hrs] at hr'
    rcases List.mem_append.1 hr' with h|h
    ·have:=hdir _ (d1 r' h t hdst ht)
     rw [this] at hun';cases hun'
    ·exact d2 r' h t hdst ht
   obtain ⟨hat,hdst⟩:=(hrs▸D.walked:Walked V C ops A τ σ (m1++r::m2)).at
   have hself:Nat.testBit (maskOf T r.i) r.i=false:=by
    cases h:Nat.testBit (maskOf T r.i) r.i with
    |false=>rfl
    |true=>have:=hmask _ h;rw [hun] at this;cases this
   have hnew:∀ (x:Value) (w':World) (ρ':Rho),ρ <+: ρ'→RV s ρ' r.v x →
     (∃ l1 l2,rs=l1++l2∧(l1=[]∨∃ l0 x,l1=l0++[x]∧quiet V x.o.op=false)∧(∀ x∈l1,quiet V x.o.op=false→(listed.setIfInBounds r.i true).getD x.i false=true) ∧
      (∀ x∈l2,quiet V x.o.op=false→(listed.setIfInBounds r.i true).getD x.i false=false)∧RW V s base w0 ρ' (headS l2 τ) w') →
     wpAny P .any ops Q fuel (listed.setIfInBounds r.i true) (a'.put r.o.dst x) w':=by
    intro x w' ρ' hp hx hheap
    refine ih ⟨?_,by simp [I.lsize],?_,?_,?_,hheap⟩ ?_ (fun ρ'' w'' A' g1=>hq ρ'' w'' A' (hp.trans g1))
    ·cases r.o.dst <;> simp [Act.put,I.size]
    ·intro t ht
     by_cases hd:r.o.dst=some t
     ·obtain ⟨e1,e2⟩:=hdst t hd
      rw [e1,hd]
      have:t < a'.tmps.size:=by rw [I.size];exact e2
      simpa [Act.put,this] using hx
     ·have e:(a'.put r.o.dst x).tmps.getD t Go.undef=a'.tmps.getD t Go.undef:=by
       cases hdd:r.o.dst with
       |none=>rfl
       |some d=>
        have hne:d≠t:=fun e=>hd (by rw [hdd,e])
        simp [Act.put,Array.getElem?_setIfInBounds_ne hne]
      rw [e]
      refine (I.tmp t fun r' hr' hun'=>?_).pre hp
      by_cases hii:r'.i=r.i
      ·have:r'.o=r.o:=by have h1:=D.mem r' hr';rw [hii,ho] at h1;exact (Option.some.inj h1).symm
       rw [this];exact hd
      ·exact ht r' hr' (by rw [set_get hib,if_neg hii];exact hun')
    ·have:(a'.put r.o.dst x).defers=a'.defers:=by cases r.o.dst <;> rfl
     rw [this];exact I.defers.pre hp
    ·intro r' hr' hl k hk
     rw [set_get hib] at hl ⊢
     by_cases hki:k=r.i
     ·simp [hki]
     ·rw [if_neg hki]
      by_cases hii:r'.i=r.i
      ·rw [hii] at hk;exact hmask k hk
      ·rw [if_neg hii] at hl;exact I.closed r' hr' hl k hk
    ·have hlt:rs.countP (fun r'=>!(listed.setIfInBounds r.i true).getD r'.i false) < rs.countP (fun r'=>!listed.getD r'.i false):=by
      rw [hrs]
      simp only [List.countP_append,List.countP_cons]
      have g:∀ l:List Rec,l.countP (fun r'=>!(listed.setIfInBounds r.i true).getD r'.i false)≤l.countP (fun r'=>!listed.getD r'.i false):=by
       intro l
       refine List.countP_mono_left fun y _ hy=>?_
       rw [set_get hib] at hy
       by_cases hii:y.i=r.i
       ·simp [hii] at hy
       ·simpa [hii] using hy
      have g1:=g m1
      have g2:=g m2
      have e1:(listed.setIfInBounds r.i true).getD r.i false=true:=by rw [set_get hib,if_pos rfl]
      rw [e1,hun]
      simp only [Bool.not_true,Bool.not_false,if_true,Bool.false_eq_true,if_false]
      omega
     omega
   unfold wpOp
   rw [ho]
   simp only
   obtain ⟨l1,l2,hl,hc,hl1,hl2,hw⟩:=I.heap
   cases hqt:quiet V r.o.op with
   |true=>
    have hout:outL V C ops A (headS l2 τ) r.o=some (r.v,headS l2 τ,none):=by
     cases hpu:pureOp r.o.op with
     |true=>exact out_pure hpu hat _
     |false=>
      have hrd:readOp V r.o.op=true:=by simpa [quiet,hpu] using hqt
      have:=allL_mem D.reads r hr
      rw [hpu,hrd] at this
      simp only [Bool.not_true,Bool.or_self,Bool.false_or] at this
      have hcut:=cut_at this l1 l2 hl
      rw [List.append_nil] at hcut
      have hsame:=cut_here hcut (by
       rcases hc with rfl|⟨l0,x,rfl,hx⟩
       ·exact .inl rfl
       ·exact .inr ⟨x,l0.reverse,by simp,hx⟩) (by
       intro x hx hxq
       rw [List.mem_reverse] at hx
       cases hb:Nat.testBit (maskOf T x.i) r.i with
       |false=>rfl
       |true=>
        have:=I.closed x (by rw [hl];exact List.mem_append_left _ hx) (hl1 x hx hxq) _ hb
        rw [hun] at this;cases this) (by
       intro x hx hxq
       cases hb:Nat.testBit (maskOf T r.i) x.i with
       |false=>rfl
       |true=>
        have:=hmask _ hb
        rw [hl2 x hx hxq] at this;cases this)
      unfold sameAt at hsame
      split at hsame
      case h_2=>cases hsame
      rename_i v' σ' he
      obtain ⟨rfl,_⟩:=out_quiet hqt he
      rw [he,beqLV_eq hsame]
    refine out_ok hV hX hC hw hlook hout ?_
    intro x w' ρ' dd h1 h2 h3 h4
    have:pushA a' dd=a':=by cases dd with|none=>rfl|some _=>exact h4.elim
    rw [this]
    refine hnew x w' ρ' h1 h3 ⟨l1,l2,hl,hc,?_,?_,h2⟩
    ·intro y hy hyq
     rw [set_get hib]
     split
     ·rfl
     ·exact hl1 y hy hyq
    ·intro y hy hyq
     rw [set_get hib]
     by_cases hii:y.i=r.i
     ·have:y.o=r.o:=by
       have h1:=D.mem y (by rw [hl];exact List.mem_append_right _ hy);rw [hii,ho] at h1;exact (Option.some.inj h1).symm
      rw [this,hqt] at hyq;cases hyq
     ·rw [if_neg hii];exact hl2 y hy hyq
   |false=>
    have hr2:r∈l2:=by
     have:=hr;rw [hl] at this
     rcases List.mem_append.1 this with h|h
     ·have:=hl1 r h hqt;rw [hun] at this;cases this
     ·exact h
    have hline:=fun m1 r m2 e hq x hx hxq=>line_at D.line m1 r m2 e hq x (.inr hx) hxq
    obtain ⟨k1,k2,rfl⟩:=List.append_of_mem hr2
    have hrs2:rs=(l1++k1)++r::k2:=by rw [hl];simp
    have hat2:=((by rw [← hrs2];exact D.walked:Walked V C ops A τ σ ((l1++k1)++r::k2))).at.1
    have hk1:∀ x∈k1,quiet V x.o.op=true:=by
     intro x hx
     cases hxq:quiet V x.o.op with
     |true=>rfl
     |false=>
      have h1:=hmask _ (hline _ r k2 hrs2 hqt x (List.mem_append_right _ hx) hxq)
      have h2:=hl2 x (List.mem_append_left _ hx) hxq
      rw [h1] at h2;cases h2
    have hhead:headS (k1++r::k2) τ=r.σ:=by
     have hdrop:Walked V C ops A τ _ (k1++r::k2):=(by rw [hl] at D;exact D.walked:Walked V C ops A τ σ (l1++(k1++r::k2))).drop
     rw [hdrop.skip hk1];rfl
    rw [hhead] at hw
    refine out_ok hV hX hC hw hlook hat2 ?_
    intro x w' ρ' dd h1 h2 h3 h4
    have:pushA a' dd=a':=by cases dd with|none=>rfl|some _=>exact h4.elim
    rw [this]
    refine hnew x w' ρ' h1 h3 ⟨(l1++k1)++[r],k2,by rw [hrs2];simp,.inr ⟨_,r,rfl,hqt⟩,?_,?_,h2⟩
    ·intro y hy hyq
     rw [set_get hib]
     split
     ·rfl
     ·rename_i hii
      rcases List.mem_append.1 hy with hy|hy
      ·rcases List.mem_append.1 hy with hy|hy
       ·exact hl1 y hy hyq
       ·rw [hk1 y hy] at hyq;cases hyq
      ·rw [List.mem_singleton] at hy;subst hy;exact absurd rfl hii
    ·intro y hy hyq
     obtain ⟨j1,j2,rfl⟩:=List.append_of_mem hy
     have hb:=hline (((l1++k1)++r::j1)) y j2 (by rw [hrs2];simp) hyq r (by simp) hqt
     rw [set_get hib]
     by_cases hii:y.i=r.i
     ·rw [hii,hself] at hb;cases hb
     ·rw [if_neg hii];exact hl2 y (by simp) hyq
theorem draw_ok (hV:V.Ok P s) (hX:ExtsOk V P s) (hC:CallsOk V P s C) {base:Nat} {w0:World} {ops:Array Oper} {ρ:Rho} {σ τ:St} {w:World} {a A:LAct} {a':Act} (hw:RW V s base w0 ρ σ w) (ha:RAct s ρ a a')
  (h:drawL V C ops a σ=some (A,τ)) {Q:Exit→Act→World→Prop} (hq:∀ ρ' w' A',ρ <+: ρ'→RW V s base w0 ρ' τ w'→RAct s ρ' A A'→Q .normal A' w'):
  wpAny P .any ops Q ops.size (Array.replicate ops.size false) a' w:=by
 unfold drawL at h
 cases hc:(dataOk ops [] (orderL ops)&&masksOk (masksL (orderL ops) .nil) (orderL ops)&&cover (orderL ops) ops.size) with
 |false=>rw [hc] at h;cases h
 |true=>
  rw [hc] at h;simp only [cond_true] at h
  simp only [Bool.and_eq_true] at hc
  obtain ⟨⟨hdat,hmsk⟩,hcov⟩:=hc
  split at h
  case h_2=>cases h
  rename_i rs A' τ' hwalk
  cases hc2:(lineOk V (masksL (orderL ops) .nil) [] rs&&readsOk V C ops (masksL (orderL ops) .nil) A' τ' rs) with
  |false=>rw [hc2] at h;cases h
  |true=>
   rw [hc2] at h;simp only [cond_true,Option.some.injEq,Prod.mk.injEq] at h
   obtain ⟨rfl,rfl⟩:=h
   simp only [Bool.and_eq_true] at hc2
   generalize hT:masksL (orderL ops) .nil=T at *
   obtain ⟨w1,w2,w3,w4,w5⟩:=walk_ok hdat hwalk
   have hmem:∀ r∈rs,(r.i,r.o)∈orderL ops:=fun r hr=>by rw [← w1];exact List.mem_map.2 ⟨r,hr,rfl⟩
   have D:Drawn V C ops T rs A' σ τ':=by
    refine ⟨fun r hr=>order_mem.2 _ (hmem r hr),?_,fun r hr=>?_,?_,w2,hc2.1,hc2.2⟩
    ·intro m1 r m2 e
     have e':orderL ops=m1.map (fun r=>(r.i,r.o))++(r.i,r.o)::m2.map (fun r=>(r.i,r.o)):=by rw [← w1,e];simp
     obtain ⟨g1,g2,_,g4⟩:=data_at hdat _ _ _ e'
     refine ⟨fun y hy d hd hl=>g1 (y.i,y.o) (.inr (List.mem_map.2 ⟨y,hy,rfl⟩)) d hd hl,fun y hy d hd hl=>?_,fun e he=>?_⟩
     ·refine g2 (y.i,y.o) ?_ d hd hl
      cases hy with
      |head=>exact .head _
      |tail _ hy=>exact .tail _ (List.mem_map.2 ⟨y,hy,rfl⟩)
     ·obtain ⟨o,ho|ho⟩:=g4 e he
      ·cases ho
      ·obtain ⟨y,hy,hye⟩:=List.mem_map.1 ho
       cases hye;exact ⟨y,hy,rfl⟩
    ·exact Nat.eq_of_beq_eq_true (allL_mem hmsk _ (hmem r hr))
    ·have hcv:∀ n,cover (orderL ops) n=true→∀ i < n,∃ o,(i,o)∈orderL ops:=by
      intro n
      induction n with
      |zero=>intro _ i hi;omega
      |succ n ih=>
       intro h i hi
       simp only [cover,Bool.and_eq_true] at h
       by_cases e:i=n
       ·subst e;exact hasFst_mem h.1
       ·exact ih h.2 i (by omega)
     intro i hi
     obtain ⟨o,ho⟩:=hcv _ hcov i hi
     rw [← w1] at ho
     obtain ⟨r,hr,hre⟩:=List.mem_map.1 ho
     cases hre;exact ⟨r,hr,rfl⟩
   have hrep:∀ i,(Array.replicate ops.size false).getD i false=false:=by
    intro i;simp [Array.getD]
   refine any_ok hV hX hC D ops.size ⟨by rw [w3];exact ha.size,by simp,?_,by rw [w4];exact ha.defers,?_,?_⟩ ?_ hq
   ·intro t ht
    rw [w5 t fun x hx=>?_]
    ·exact ha.tmp t
    ·rw [← w1] at hx
     obtain ⟨r,hr,rfl⟩:=List.mem_map.1 hx
     exact ht r hr (hrep _)
   ·intro r _ h;rw [hrep] at h;cases h
   ·exact ⟨[],rs,rfl,.inl rfl,fun x hx=>(by cases hx),fun x _ _=>hrep _,(by rw [w2.head];exact hw)⟩
   ·refine Nat.le_trans List.countP_le_length ?_
    have:rs.length=(orderL ops).length:=by rw [← w1];simp
    rw [this];exact order_mem.1
end
end Vx
set_option linter.unusedVariables false
set_option linter.unusedSimpArgs false
namespace Vx
open Go Go.RowKit
def exitOf:LExit→Exit
 |.normal=>.normal
 |.exit id=>.exit id
 |.ret=>.ret
def RunOk (V:VP) (P:Program) (s:Atoms) (E:Run):Prop:=
 ∀ (base:Nat) (w0:World) (ρ:Rho) (σ τ:St) (w:World) (c:Code) (a A:LAct) (a':Act) (e:LExit) (Q:Exit→Act→World→Prop),RW V s base w0 ρ σ w→RAct s ρ a a'→E c a σ=some (e,A,τ) →
  (∀ ρ' w' A',ρ <+: ρ'→RW V s base w0 ρ' τ w'→RAct s ρ' A A'→Q (exitOf e) A' w')→c.wp P Q a' w
def resOf (tmps:Array Value):ResultVar→Sem Value
 |.tmp t=>pure (tmps.getD t Go.undef)
 |.cell a t=>do loadVar t (← asAddr (tmps.getD a Go.undef))
theorem least {p:Nat→Prop} (h:∃ m,p m):∃ m,p m∧∀ k,p k→m≤k:=by
 obtain ⟨m,hm⟩:=h
 induction m using Nat.strongRecOn with
 |_ m ih=>
  by_cases e:∃ k,k < m∧p k
  ·obtain ⟨k,h1,h2⟩:=e
   exact ih k h1 h2
  ·exact ⟨m,hm,fun k hk=>by
    rcases Nat.lt_or_ge k m with h|h
    ·exact absurd ⟨k,h,hk⟩ e
    ·exact h⟩
section
variable {V:VP} {P:Program} {s:Atoms} {C:CallF}
open Classical in
theorem exec_ok (hV:V.Ok P s) (hX:ExtsOk V P s) (hM:P.follows .mixedOrders=true) (hC:CallsOk V P s C):∀ n,RunOk V P s (execL V C n):=by
 intro n
 induction n using Nat.strongRecOn with
 |_ n IH=>
 cases n with
 |zero=>intro base w0 ρ σ τ w c a A a' e Q _ _ h;cases h
 |succ n=>
  intro base w0 ρ σ τ w c a A a' e Q hw ha h hq
  have ih:=IH n (Nat.lt_succ_self n)
  have h0:=h
  simp only [execL] at h
  unfold stepL at h
  split at h
  ·cases h
   exact wp_skip (hq ρ w a' (List.prefix_refl _) hw ha)
  ·rename_i id ops draw
   split at h
   case h_2=>cases h
   rename_i A1 τ1 hr
   cases h
   cases draw with
   |true=>
    refine wp_region_any hM ?_
    exact draw_ok hV hX hC (allocRow hw (.inr rfl)) ha hr hq
   |false=>
    refine wp_region ?_
    rw [List.range_eq_range']
    exact ops_ok hV hX hC ops.size 0 (by omega) hw ha (by simpa using hr) hq
  ·rename_i x y
   split at h
   ·rename_i a1 σ1 hx
    refine wp_seq (ih base w0 ρ σ σ1 w x a a1 a' _ _ hw ha hx ?_)
    intro ρ1 w1 a1' h1 h2 h3
    exact ih base w0 ρ1 σ1 τ w1 y a1 A a1' e Q h2 h3 h fun ρ' w' A' g1=>hq ρ' w' A' (h1.trans g1)
   ·rename_i r hr
    refine wp_seq (ih base w0 ρ σ τ w x a A a' e _ hw ha h ?_)
    intro ρ1 w1 a1' h1 h2 h3
    have:=hq ρ1 w1 a1' h1 h2 h3
    cases e with
    |normal=>exact absurd h (hr A τ)
    |exit id=>exact this
    |ret=>exact this
  ·rename_i c x y
   split at h
   ·rename_i hc
    have hv:=evalO_ok (fun t _=>ha.tmp t) hc
    simp only [RV] at hv
    exact wp_cond_true hv (ih base w0 ρ σ τ w x a A a' e Q hw ha h hq)
   ·rename_i hc
    have hv:=evalO_ok (fun t _=>ha.tmp t) hc
    simp only [RV] at hv
    exact wp_cond_false hv (ih base w0 ρ σ τ w y a A a' e Q hw ha h hq)
   ·cases h
  ·rename_i id x
   split at h
   ·rename_i i a1 σ1 hx
    refine wp_block (ih base w0 ρ σ σ1 w x a a1 a' _ _ hw ha hx ?_)
    intro ρ1 w1 a1' h1 h2 h3
    cases hb:Nat.beq i id with
    |true=>
     rw [hb] at h;cases h
     have:=Nat.eq_of_beq_eq_true hb
     simp only [exitOf,Exit.inBlock,if_pos this]
     exact hq ρ1 w1 a1' h1 h2 h3
    |false=>
     rw [hb] at h;cases h
     have:=Nat.ne_of_beq_eq_false hb
     simp only [exitOf,Exit.inBlock,if_neg this]
     exact hq ρ1 w1 a1' h1 h2 h3
   ·rename_i r hr
    refine wp_block (ih base w0 ρ σ τ w x a A a' e _ hw ha h ?_)
    intro ρ1 w1 a1' h1 h2 h3
    have:=hq ρ1 w1 a1' h1 h2 h3
    cases e with
    |normal=>exact this
    |exit id=>exact absurd h (hr id A τ)
    |ret=>exact this
  ·rename_i x
   let Good (m:Nat) (b:Act) (u:World):Prop:=∃ ρ1 σ1 la,ρ <+: ρ1∧RW V s base w0 ρ1 σ1 u∧RAct s ρ1 la b∧execL V C m (.loop x) la σ1=some (e,A,τ)
   let I (b:Act) (u:World):Prop:=∃ m,m≤n+1∧Good m b u
   let μ (b:Act) (u:World):Nat:=if h:∃ m,Good m b u then choose (least h) else 0
   have hμ:∀ b u m,Good m b u→Good (μ b u) b u∧μ b u≤m:=by
    intro b u m hg
    have hex:∃ m,Good m b u:=⟨m,hg⟩
    have e1:μ b u=choose (least hex):=dif_pos hex
    rw [e1]
    exact ⟨(choose_spec (least hex)).1,(choose_spec (least hex)).2 m hg⟩
   refine wp_loop I μ ⟨n+1,Nat.le_refl _,ρ,σ,a,List.prefix_refl _,hw,ha,h0⟩ ?_
   rintro b u ⟨m,hm,hg⟩
   obtain ⟨hg0,hle⟩:=hμ b u m hg
   generalize hm0:μ b u=m0 at *
   obtain ⟨ρ1,σ1,la,g1,g2,g3,g4⟩:=hg0
   cases m0 with
   |zero=>cases g4
   |succ j=>
    have ihj:=IH j (by omega)
    simp only [execL] at g4
    unfold stepL at g4
    simp only at g4
    split at g4
    ·rename_i a2 σ2 hx
     refine ihj base w0 ρ1 σ1 σ2 u x la a2 b _ _ g2 g3 hx ?_
     intro ρ2 w2 a2' k1 k2 k3
     have hgj:Good j a2' w2:=⟨ρ2,σ2,a2,g1.trans k1,k2,k3,g4⟩
     exact ⟨⟨j,by omega,hgj⟩,by have:=(hμ a2' w2 j hgj).2;omega⟩
    ·rename_i r hr
     refine ihj base w0 ρ1 σ1 τ u x la A b e _ g2 g3 g4 ?_
     intro ρ2 w2 a2' k1 k2 k3
     have:=hq ρ2 w2 a2' (g1.trans k1) k2 k3
     cases e with
     |normal=>exact absurd g4 (hr A τ)
     |exit id=>exact this
     |ret=>exact this
  ·cases h
   exact wp_exit (hq ρ w a' (List.prefix_refl _) hw ha)
  ·cases h
   exact wp_ret (hq ρ w a' (List.prefix_refl _) hw ha)
  ·cases h
theorem res_ok (hV:V.Ok P s) {base:Nat} {w0:World} {ρ:Rho} {σ:St} {w:World} {A:LAct} {A':Act} (hw:RW V s base w0 ρ σ w) (ha:RAct s ρ A A'):∀ {l:List ResultVar} {vs:List LV},resL V σ A l=some vs →
  ∃ xs,(l.mapM (resOf A'.tmps)).run P w=.ok xs w∧RVs s ρ vs xs
 |[],vs,h=>by simp only [resL,Option.some.injEq] at h;subst h;exact ⟨[],by simp,rfl⟩
 |.tmp t::r,vs,h=>by
  simp only [resL] at h
  split at h
  case h_2=>cases h
  rename_i vs' hr
  cases h
  obtain ⟨xs,h1,h2⟩:=res_ok hV hw ha hr
  refine ⟨A'.tmps.getD t Go.undef::xs,?_,_,_,rfl,ha.tmp t,h2⟩
  simp only [List.mapM_cons,Sem.run_bind,resOf,Sem.run_pure,Result.andThen_ok,h1]
 |.cell p t::r,vs,h=>by
  simp only [resL] at h
  split at h
  case h_2=>cases h
  rename_i v vs' hl hr
  cases h
  obtain ⟨xs,h1,h2⟩:=res_ok hV hw ha hr
  obtain ⟨a,x,e,l1,l2⟩:=loadV_ok hV hw (ha.tmp p) hl
  refine ⟨x::xs,?_,_,_,rfl,l2,h2⟩
  have hA:asAddr (A'.tmps.getD p Go.undef)=pure a:=by rw [e];rfl
  simp only [List.mapM_cons,Sem.run_bind,resOf,hA,Sem.run_pure,Result.andThen_ok,l1,h1]
theorem results_ok (hV:V.Ok P s) {base:Nat} {w0:World} {ρ:Rho} {σ:St} {w:World} {A:LAct} {A':Act} (hw:RW V s base w0 ρ σ w) (ha:RAct s ρ A A') {fn:Func} {vs:List LV} (h:resL V σ A fn.results.toList=some vs):
  ∃ x,(results fn A'.tmps).run P w=.ok x w∧RV s ρ (oneOr vs) x:=by
 obtain ⟨xs,h1,h2⟩:=res_ok hV hw ha h
 have hm:(fn.results.mapM (resOf A'.tmps)).run P w=.ok xs.toArray w:=by
  rw [← Array.toArray_toList (xs:=fn.results),List.mapM_toArray,Sem.run_map',h1];rfl
 refine ⟨if h:xs.toArray.size=1 then xs.toArray[0] else .tuple xs.toArray,?_,?_⟩
 ·have:results fn A'.tmps=(do let vs ← fn.results.mapM (resOf A'.tmps);pure (if h:vs.size=1 then vs[0] else .tuple vs)):=rfl
  rw [this,Sem.run_bind,hm];rfl
 ·have hl:=h2.length
  unfold oneOr
  split
  ·obtain ⟨x,e,hx⟩:=one_of h2
   subst e
   exact hx
  ·rename_i hne
   have:¬ xs.toArray.size=1:=by
    intro e
    have:vs.length=1:=by rw [← hl];simpa using e
    obtain ⟨v,rfl⟩:=List.length_eq_one_iff.1 this
    exact hne v rfl
   rw [dif_neg this]
   exact ⟨_,rfl,h2⟩
end
end Vx
set_option linter.unusedVariables false
set_option linter.unusedSimpArgs false
namespace Vx
open Go Go.RowKit
theorem leavesD_steps {P:Program} {fn:Func} {tmps:Array Value} {R:Ending→World→Prop}:∀ (ds:List Deferred) (u:FrameMode) (w:World) (fr:Frame)
  (cs:List Frame),fr.mode=u→fr.defers=ds→fr.tmps=tmps→P.funcs[fr.fn]?=some fn→fr.kind=.deferred→Leaves P fn tmps R ds u w →
  ∃ e w' fr',R e w'∧Comes P (lone fr cs w) (lone fr' cs w') e∧fr'.kind=.deferred∧fr'.going P w' e:=by
 intro ds
 induction ds with
 |nil=>
  intro u w fr cs hu hd ht hf hk h
  cases u with
  |run=>exact h.elim
  |returning=>
   obtain ⟨v,hr,hR⟩:=h
   exact ⟨.returned v,w,fr,hR,Steps.refl P _,hk,hu,hd,fn,hf,ht▸hr⟩
  |panicking chain=>exact ⟨.panicked chain,w,fr,h,Steps.refl P _,hk,hu,hd,fn,hf⟩
 |cons d ds ih=>
  intro u w fr cs hu hd ht hf hk h
  obtain ⟨hrun,fv,cap,f,args,htar,hinv,hcall⟩:=h
  have h1:=step_defer (cs:=cs) (hu▸hrun) hd htar hinv
  obtain ⟨e,u',w',frX,hR,hsteps,hkX,hgo⟩:=hcall { fr with defers:=ds } cs hu
  cases e with
  |returned v=>
   have h2:=step_going_returned (c:={ { fr with defers:=ds } with mode:=u' }) (cs:=cs) hkX hgo
   obtain ⟨e',w'',fr',hR',hs',hk',hl'⟩:=ih (settle u') w' { { { fr with defers:=ds } with mode:=u' } with mode:=settle u' } cs rfl rfl ht hf hk hR
   exact ⟨e',w'',fr',hR',Comes.of_steps (.head h1 (Steps.trans hsteps (.one h2))) hs',hk',hl'⟩
  |panicked chain=>
   have h2:=step_going_panicked (c:={ { fr with defers:=ds } with mode:=u' }) (cs:=cs) hgo
   obtain ⟨e',w'',fr',hR',hs',hk',hl'⟩:=ih (raised u' chain) w' { { { fr with defers:=ds } with mode:=u' } with mode:=raised u' chain } cs rfl rfl ht hf hk hR
   exact ⟨e',w'',fr',hR',Comes.of_steps (.head h1 (Steps.trans hsteps (.one h2))) hs',hk',hl'⟩
  |outgrown=>exact ⟨.outgrown,w',{ fr with kind:=.deferred },hR,Outgrown.of_steps (.one h1) hsteps,rfl,trivial⟩
theorem callsD_of_wp_defers {P:Program} {f:FuncId} {fn:Func} {c:Code} {args:Array Value} {u:FrameMode} {w:World} {R:Ending→World→Prop}
  (hf:P.funcs[f]?=some fn) (hb:fn.body=some c)
  (h:c.wp P (bodyPostD P fn R) { tmps:=args++Array.replicate (fn.ntmps - args.size) Go.undef,defers:=[] } w):
  CallsD P f args u w fun e u' w'=>u'=u∧R e w':=by
 intro c₀ cs hu
 let b:Frame:={ (default:Frame) with fn:=f,kind:=.deferred }
 have henter:Frame.enter P f args .deferred=
   b.at { tmps:=args++Array.replicate (fn.ntmps - args.size) Go.undef,defers:=[] } [.code c]:=by
  simp [Frame.enter,Frame.at,hf,hb,b]
 have hc:({ c₀ with mode:=u }:Frame)=c₀:=by subst hu;rfl
 obtain ⟨e,a',w',hq,harr⟩:=h b [] (c₀::cs)
 rw [← henter] at harr
 cases e with
 |normal=>
  obtain ⟨e',w'',fr',hR,hs,hk,hl⟩:=leavesD_steps a'.defers .returning w' { b.at a' [] with mode:=.returning } (c₀::cs) rfl rfl rfl hf rfl hq
  exact ⟨e',u,w'',fr',⟨rfl,hR⟩,(by rw [hc];exact Comes.of_steps (Steps.trans harr (.one step_end)) hs),hk,hl⟩
 |ret=>
  obtain ⟨todo,hs₀⟩:=harr
  obtain ⟨e',w'',fr',hR,hs,hk,hl⟩:=leavesD_steps a'.defers .returning w' { b.at a' todo with mode:=.returning } (c₀::cs) rfl rfl rfl hf rfl hq
  exact ⟨e',u,w'',fr',⟨rfl,hR⟩,(by rw [hc];exact Comes.of_steps hs₀ hs),hk,hl⟩
 |panic chain=>
  obtain ⟨todo,hs₀⟩:=harr
  obtain ⟨e',w'',fr',hR,hs,hk,hl⟩:=leavesD_steps a'.defers (.panicking chain) w' { b.at a' todo with mode:=.panicking chain } (c₀::cs) rfl rfl rfl hf rfl hq
  exact ⟨e',u,w'',fr',⟨rfl,hR⟩,(by rw [hc];exact Comes.of_steps hs₀ hs),hk,hl⟩
 |exit id=>exact hq.elim
 |goto l=>exact hq.elim
 |outgrown=>exact ⟨.outgrown,u,w',b,⟨rfl,hq⟩,harr.resolve_left (by simp [b]),rfl,trivial⟩
def CallsDOk (V:VP) (P:Program) (s:Atoms) (D:CallF):Prop:=
 ∀ (base:Nat) (w0:World) (ρ:Rho) (σ:St) (w:World) (f:FuncId) (args:List LV) (as:Array Value) (v:LV) (σ':St) (u:FrameMode),RW V s base w0 ρ σ w→RVs s ρ args as.toList→D f args σ=some (v,σ') →
  CallsD P f as u w fun e u' w'=>u'=u∧∃ x ρ',e=.returned x∧ρ <+: ρ'∧RW V s base w0 ρ' σ' w'∧RV s ρ' v x
def GuardOk (P:Program) (guard:FuncId) (gty:TypeId):Prop:=
 ∀ (g:FuncId) (first cap:Array Value) (w:World) (R:World→Prop),((callFunc g (first++cap)).run P (w.alloc (.cells #[.bool false] gty))=.ok (.enter g (first++cap)) (w.alloc (.cells #[.bool false] gty))) →
  Calls P g (first++cap) (w.alloc (.cells #[.bool false] gty)) (fun e w'=>(∃ x,e=.returned x)∧w'.heap[w.heap.size]?=some (.cells #[.bool false] gty (0,0))∧R w') →
  Calls P guard #[.func (.func g) first cap] w fun e w'=>e=.returned (.bool false)∧∃ w2,R w2∧Below w2.heap.size w2 w'
theorem setArgs_get:∀ (l:List LV) (k:Nat) (T:Tr LV) (t:Nat),(setArgs l k T).get t=if k≤t∧t < k+l.length then l[t - k]? else T.get t
 |[],k,T,t=>by
  simp only [setArgs,List.length_nil]
  rw [if_neg (by omega)]
 |v::l,k,T,t=>by
  simp only [setArgs,setArgs_get l,Tr.get_put,List.length_cons]
  by_cases h:k+1≤t∧t < k+1+l.length
  ·rw [if_pos h,if_pos (by omega)]
   have:t - k=(t - (k+1))+1:=by omega
   rw [this];rfl
  ·rw [if_neg h]
   by_cases e:t=k
   ·subst e;rw [if_pos rfl,if_pos (by omega)];simp
   ·rw [if_neg e,if_neg (by omega)]
theorem rvs_get {s:Atoms} {ρ:Rho}:∀ {l:List LV} {vs:List Value},RVs s ρ l vs→∀ (i:Nat) (v:LV),l[i]?=some v→∃ x,vs[i]?=some x∧RV s ρ v x
 |[],_,_,i,v,h=>by simp at h
 |u::l,vs,h,i,v,hi=>by
  obtain ⟨x,xs,rfl,h1,h2⟩:=h
  cases i with
  |zero=>simp at hi;subst hi;exact ⟨x,rfl,h1⟩
  |succ i=>simp at hi;obtain ⟨y,g1,g2⟩:=rvs_get h2 i v hi;exact ⟨y,by simpa using g1,g2⟩
theorem enter_act {s:Atoms} {ρ:Rho} {args:List LV} {as:Array Value} {n:Nat} (ha:RVs s ρ args as.toList) (hn:args.length≤n):
  RAct s ρ { n:=n,tmps:=setArgs args 0 .nil,defers:=[] } { tmps:=as++Array.replicate (n - as.size) Go.undef,defers:=[] }:=by
 have hl:as.size=args.length:=by rw [← ha.length];simp
 refine ⟨by simp;omega,fun t=>?_,rfl⟩
 simp only [LAct.get,setArgs_get,Nat.zero_le,true_and,Nat.zero_add,Nat.sub_zero]
 by_cases h:t < args.length
 ·rw [if_pos h]
  obtain ⟨x,g1,g2⟩:=rvs_get ha t _ (List.getElem?_eq_getElem h)
  rw [List.getElem?_eq_getElem h]
  have:(as++Array.replicate (n - as.size) Go.undef).getD t Go.undef=x:=by
   rw [Array.getD_eq_getD_getElem?,Array.getElem?_append_left (by omega)]
   rw [Array.getElem?_toList] at g1
   rw [g1];rfl
  rw [this];exact g2
 ·rw [if_neg h]
  have:(as++Array.replicate (n - as.size) Go.undef).getD t Go.undef=Go.undef:=by
   rw [Array.getD_eq_getD_getElem?,Array.getElem?_append_right (by omega),Array.getElem?_replicate]
   split <;> rfl
  rw [this]
  exact rv_undef s ρ
section
variable {V:VP} {P:Program} {s:Atoms}
theorem leaves_ok (hV:V.Ok P s) (hX:ExtsOk V P s) {base:Nat} {w0:World} {D:CallF} (hD:CallsDOk V P s D) {fn:Func} {tmps:Array Value} {R:Ending→World→Prop} {τ:St}:∀ {ds:List Dfr} {ρ:Rho} {σ:St} {w:World} {ds':List Deferred},RW V s base w0 ρ σ w →
  RDfrs s ρ ds ds'→defersL V D ds σ=some τ→(∀ ρ' w',ρ <+: ρ'→RW V s base w0 ρ' τ w'→∃ v,(results fn tmps).run P w'=.ok v w'∧R (.returned v) w')→Leaves P fn tmps R ds' .returning w
 |[],ρ,σ,w,ds',hw,hd,h,hq=>by
  simp only [RDfrs] at hd;subst hd
  simp only [defersL,Option.some.injEq] at h;subst h
  exact hq ρ w (List.prefix_refl _) hw
 |d::ds,ρ,σ,w,ds',hw,hd,h,hq=>by
  obtain ⟨⟨tg,dargs⟩,r',rfl,⟨⟨c,h1,h2⟩,h3⟩,h4⟩:=hd
  simp only at h1 h3;subst h1
  simp only [defersL] at h
  split at h
  case h_2=>cases h
  rename_i f args σ1 hi
  split at h
  case h_2=>cases h
  rename_i x σ2 hc
  obtain ⟨as,e,rfl,ha⟩:=invokeL_ok hV hX hw h2 h3 hi
  refine leaves_cons (by simp) e ?_
  refine CallsD.mono (hD base w0 ρ _ w f args as _ _ .returning hw ha hc) ?_
  rintro e u' w' ⟨rfl,y,ρ',rfl,g1,g2,_⟩
  exact leaves_ok hV hX hD g2 (h4.pre g1) h fun ρ'' w'' k1=>hq ρ'' w'' (g1.trans k1)
theorem body_ok (hV:V.Ok P s) (hX:ExtsOk V P s) {E:CallF→Run} (hE:∀ C,CallsOk V P s C→RunOk V P s (E C)) {C:CallF} (hC:CallsOk V P s C) {D:CallF} (hD:CallsDOk V P s D):CallsOk V P s (bodyL V E C D):=by
 intro base w0 ρ σ w f args as v σ' hw ha h
 unfold bodyL at h
 split at h
 case h_2=>cases h
 rename_i fn hf
 split at h
 ·cases h
 rename_i c hc
 cases hn:Nat.ble args.length fn.ntmps with
 |false=>rw [hn] at h;cases h
 |true=>
  rw [hn] at h;simp only [cond_true] at h
  have hact:=enter_act ha (Nat.le_of_ble_eq_true hn)
  refine calls_of_wp_defers (hV.fn f fn hf).1 hc ?_
  have fin:∀ {e:LExit} {A:LAct} {τ:St},E C c { n:=fn.ntmps,tmps:=setArgs args 0 .nil,defers:=[] } σ=some (e,A,τ)→(∀ id,e≠.exit id) →
    (match defersL V D A.defers τ with
    |none=>none
    |some σ=>match resL V σ A fn.results.toList with
     |some vs=>some (oneOr vs,σ)
     |none=>none)=some (v,σ') →
    c.wp P (bodyPostD P fn fun e w'=>∃ x ρ',e=.returned x∧ρ <+: ρ'∧RW V s base w0 ρ' σ' w'∧RV s ρ' v x) { tmps:=as++Array.replicate (fn.ntmps - as.size) Go.undef,defers:=[] } w:=by
   intro e A τ he hne hr
   refine hE C hC base w0 ρ σ τ w c _ A _ e _ hw hact he ?_
   intro ρ1 w1 A' g1 g2 g3
   split at hr
   ·cases hr
   rename_i σ2 hdf
   split at hr
   case h_2=>cases hr
   rename_i vs hvs
   cases hr
   have hl:Leaves P fn A'.tmps (fun e w'=>∃ x ρ',e=.returned x∧ρ <+: ρ'∧RW V s base w0 ρ' σ' w'∧RV s ρ' (oneOr vs) x) A'.defers .returning w1:=by
    refine leaves_ok hV hX hD g2 g3.defers hdf ?_
    intro ρ2 w2 k1 k2
    obtain ⟨x,r1,r2⟩:=results_ok hV k2 (g3.pre k1) hvs
    exact ⟨x,r1,x,ρ2,rfl,g1.trans k1,k2,r2⟩
   cases e with
   |normal=>exact hl
   |exit id=>exact absurd rfl (hne id)
   |ret=>exact hl
  split at h
  ·cases h
  ·rename_i e A τ hne he
   exact fin he (fun id he=>hne id he) h
  ·cases h
theorem noCall_ok:CallsOk V P s noCall:=fun _ _ _ _ _ _ _ _ _ _ _ _ h=>by cases h
theorem noCallD_ok:CallsDOk V P s noCall:=fun _ _ _ _ _ _ _ _ _ _ _ _ _ h=>by cases h
theorem bodyD_ok (hV:V.Ok P s) (hX:ExtsOk V P s) {E:CallF→Run} (hE:∀ C,CallsOk V P s C→RunOk V P s (E C)) {C:CallF} (hC:CallsOk V P s C) {D:CallF} (hD:CallsDOk V P s D):CallsDOk V P s (bodyL V E C D):=by
 intro base w0 ρ σ w f args as v σ' u hw ha h
 unfold bodyL at h
 split at h
 case h_2=>cases h
 rename_i fn hf
 split at h
 ·cases h
 rename_i c hc
 cases hn:Nat.ble args.length fn.ntmps with
 |false=>rw [hn] at h;cases h
 |true=>
  rw [hn] at h;simp only [cond_true] at h
  have hact:=enter_act ha (Nat.le_of_ble_eq_true hn)
  refine callsD_of_wp_defers (hV.fn f fn hf).1 hc ?_
  have fin:∀ {e:LExit} {A:LAct} {τ:St},E C c { n:=fn.ntmps,tmps:=setArgs args 0 .nil,defers:=[] } σ=some (e,A,τ)→(∀ id,e≠.exit id) →
    (match defersL V D A.defers τ with
    |none=>none
    |some σ=>match resL V σ A fn.results.toList with
     |some vs=>some (oneOr vs,σ)
     |none=>none)=some (v,σ') →
    c.wp P (bodyPostD P fn fun e w'=>∃ x ρ',e=.returned x∧ρ <+: ρ'∧RW V s base w0 ρ' σ' w'∧RV s ρ' v x) { tmps:=as++Array.replicate (fn.ntmps - as.size) Go.undef,defers:=[] } w:=by
   intro e A τ he hne hr
   refine hE C hC base w0 ρ σ τ w c _ A _ e _ hw hact he ?_
   intro ρ1 w1 A' g1 g2 g3
   split at hr
   ·cases hr
   rename_i σ2 hdf
   split at hr
   case h_2=>cases hr
   rename_i vs hvs
   cases hr
   have hl:Leaves P fn A'.tmps (fun e w'=>∃ x ρ',e=.returned x∧ρ <+: ρ'∧RW V s base w0 ρ' σ' w'∧RV s ρ' (oneOr vs) x) A'.defers .returning w1:=by
    refine leaves_ok hV hX hD g2 g3.defers hdf ?_
    intro ρ2 w2 k1 k2
    obtain ⟨x,r1,r2⟩:=results_ok hV k2 (g3.pre k1) hvs
    exact ⟨x,r1,x,ρ2,rfl,g1.trans k1,k2,r2⟩
   cases e with
   |normal=>exact hl
   |exit id=>exact absurd rfl (hne id)
   |ret=>exact hl
  split at h
  ·cases h
  ·rename_i e A τ hne he
   exact fin he (fun id he=>hne id he) h
  ·cases h
theorem enter_same (hV:V.Ok P s) {σ σ0:St} (w:World) {ρ:Rho} {f g:FuncId} {args as':List LV} {as:Array Value} (ha:RVs s ρ args as.toList) (h:enterL V σ g args=some (.enter f as' σ0)):
  (callFunc g as).run P w=.ok (.enter g as) w∧σ0=σ∧RVs s ρ as' as.toList∧f=g:=by
 unfold enterL at h
 split at h
 case h_2=>cases h
 rename_i fn hf
 obtain ⟨g1,g2⟩:=hV.fn g fn hf
 split at h
 ·rename_i c hc
  cases h
  refine ⟨?_,rfl,ha,rfl⟩
  simp only [callFunc,Sem.run_bind,run_program,Result.andThen_ok,g1,g2,hc,Option.isNone_some,Bool.false_eq_true,if_false,Sem.run_pure]
 ·split at h <;> cases h
theorem both_ok (hV:V.Ok P s) (hX:ExtsOk V P s) {E:CallF→Run} (hE:∀ C,CallsOk V P s C→RunOk V P s (E C)) (hS:CallsOk V P s V.sums) (hG:GuardOk P V.guard V.gty) (d:Nat):CallsOk V P s (bothL V E d).1∧CallsDOk V P s (bothL V E d).2:=by
 induction d with
 |zero=>exact ⟨noCall_ok,noCallD_ok⟩
 |succ d ihd=>
  obtain ⟨ih,ihD⟩:=ihd
  refine ⟨?_,bodyD_ok hV hX hE ih ihD⟩
  intro base w0 ρ σ w f args as v σ' hw ha h
  simp only [bothL] at h
  split at h
  ·rename_i r hr
   cases h
   exact hS base w0 ρ σ w f args as v σ' hw ha hr
  ·cases hb:Nat.beq f V.guard with
   |false=>
    rw [hb] at h;simp only [cond_false] at h
    exact body_ok hV hX hE ih ihD base w0 ρ σ w f args as v σ' hw ha h
   |true=>
    rw [hb] at h;simp only [cond_true] at h
    have:=Nat.eq_of_beq_eq_true hb;subst this
    split at h
    case h_2=>cases h
    rename_i g first cap _
    simp only [newOb] at h
    split at h
    case h_2=>cases h
    rename_i f args σ0 hent
    split at h
    case h_2=>cases h
    rename_i x σ1 hc
    split at h
    case h_2=>cases h
    rename_i e hl
    cases he:Nat.beq e V.gty with
    |false=>rw [he] at h;cases h
    |true=>
     rw [he] at h
     cases h
     have:=Nat.eq_of_beq_eq_true he;subst this
     obtain ⟨y,e,f',c',rfl,h1,h2⟩:=one_of ha
     have eas:as=#[.func (.func g) f' c']:=by apply Array.ext';simpa using e
     subst eas
     have hn:=RW.newRow (cs:=[.bool false]) (k:=.exact) (e:=V.gty) (c:=#[.bool false]) (sp:=#[]) hw 0 ⟨_,_,rfl,rfl,rfl⟩ (fun _=>rfl) (by simp)
     have hn':RW V s base w0 (ρ++[.row w.heap.size 0]) ⟨σ.heap.put σ.next (.row V.gty [.bool false] .exact),σ.next+1⟩ (w.alloc (.cells #[.bool false] V.gty)):=hn
     have hargs:RVs s (ρ++[.row w.heap.size 0]) (first++cap) (f'++c').toList:=by rw [Array.toList_append];exact (h1.ext _).append (h2.ext _)
     obtain ⟨hrun,hσ,has,rfl⟩:=enter_same hV (w.alloc (.cells #[.bool false] V.gty)) hargs hent
     subst hσ
     refine Calls.mono (hG _ f' c' w (fun w'=>∃ ρ',ρ <+: ρ'∧RW V s base w0 ρ' σ' w') hrun ?_) ?_
     ·refine Calls.mono (ih base w0 _ _ _ f args (f'++c') x σ' hn' has hc) ?_
      rintro e w' ⟨y,ρ',rfl,k1,k2,_⟩
      have hρ:ρ'[σ.next]?=some (.row w.heap.size 0):=by
       obtain ⟨z,rfl⟩:=k1
       refine get_ext ?_
       rw [← hw.len];simp
      obtain ⟨bd,g1,g2⟩:=k2.ob _ _ hl
      rw [hρ] at g1;cases g1
      obtain ⟨b,K,c,sp,fr,q1,q2,q3,q4,q5,_⟩:=g2
      cases q1
      have hsp:=q4 rfl;subst hsp
      have hfr:fr=(0,0):=q5
      subst hfr
      obtain ⟨v,vs,e1,e2,e3⟩:=q3
      simp only [RV] at e2
      have e3':vs=[]:=e3
      subst e2 e3'
      have hcc:c=#[.bool false]:=by apply Array.ext';simpa using e1
      subst hcc
      exact ⟨⟨y,rfl⟩,by simpa using q2,ρ',(List.prefix_append _ _).trans k1,k2⟩
     ·rintro e w' ⟨rfl,w2,⟨ρ',k1,k2⟩,hb2⟩
      exact ⟨_,ρ',rfl,k1,k2.world hb2,rfl⟩
theorem call_ok (hV:V.Ok P s) (hX:ExtsOk V P s) {E:CallF→Run} (hE:∀ C,CallsOk V P s C→RunOk V P s (E C)) (hS:CallsOk V P s V.sums) (hG:GuardOk P V.guard V.gty) (d:Nat):CallsOk V P s (callL V E d):=(both_ok hV hX hE hS hG d).1
end
end Vx
set_option linter.unusedVariables false
set_option linter.unusedSimpArgs false
namespace Vx
open Go Go.RowKit
structure SortN where
 valueOf:FuncId
 swapper:FuncId
 len:FuncId
 sw1:FuncId
 sw2:FuncId
 sw9:FuncId
 gs:Nat
 slices:List Nat
def sliceElem (ty:Tr TI) (t:TypeId):Option TypeId:=
 match ty.get t with
 |some i=>match i.und with
  |.slice e=>some e
  |_=>none
 |none=>none
def valueOfL (ty:Tr TI) (N:SortN) (t:TypeId) (v:LV) (σ:St):Option (LV×St):=
 match sliceElem ty t with
 |some _=>match v with
  |.slice l k e n=>match newOb σ (.row t [.slice l k e n] .exact) with
   |(m,σ)=>some (.agg [.gptr N.gs t,.ptr m 0,.int .u64 151],σ)
  |.nils=>match newOb σ (.row t [.nils] .exact) with
   |(m,σ)=>some (.agg [.gptr N.gs t,.ptr m 0,.int .u64 151],σ)
  |_=>none
 |none=>none
def valueLenL (ty:Tr TI) (N:SortN) (g t m:Nat) (σ:St):Option (LV×St):=
 cond (Nat.beq g N.gs&&memNat t N.slices) (match sliceElem ty t with
 |some _=>match σ.heap.get m with
  |some (.row _ (.slice _ _ _ n::[]) _)=>some (.int .i64 n,σ)
  |some (.row _ (.nils::[]) _)=>some (.int .i64 0,σ)
  |_=>none
 |none=>none) none
def bigStruct (i:TI):Bool:=i.info.hasPointers&&Nat.blt 8 i.info.bytes&&(match i.und with|.struct _=>true|_=>false)
def swapperL (ty:Tr TI) (N:SortN) (t:TypeId) (v:LV) (σ:St):Option (LV×St):=
 match sliceElem ty t with
 |some e=>match ty.get e with
  |some i=>cond (bigStruct i) (match v with
   |.slice l k s n=>match n with
    |0=>some (.func (.func N.sw1) [] [],σ)
    |1=>some (.func (.func N.sw2) [] [],σ)
    |n+2=>some (.func (.func N.sw9) [] [.slice l k s (n+2),.gptr N.gs e],σ)
   |.nils=>some (.func (.func N.sw1) [] [],σ)
   |_=>none) none
  |none=>none
 |none=>none
def swapL (U:VP) (N:SortN) (i j:Nat) (l k s n:Nat) (g e:Nat) (σ:St):Option (LV×St):=
 cond (Nat.beq g N.gs&&Nat.blt i n&&Nat.blt j n&&(match sizeT U e with|some z=>Nat.beq z s|none=>false))
  (match loadV U σ e (.ptr l ((k+i) * s)),loadV U σ e (.ptr l ((k+j) * s)) with
  |some x,some y=>match storeV U σ e (.ptr l ((k+i) * s)) y with
   |some σ=>match storeV U σ e (.ptr l ((k+j) * s)) x with
    |some σ=>some (.tuple [],σ)
    |none=>none
   |none=>none
  |_,_=>none) none
def sortExts (U:VP) (N:SortN) (f:FuncId) (args:List LV) (σ:St):Option (LV×St):=
 cond (Nat.beq f N.valueOf) (match args with
  |.iface t v::[]=>valueOfL U.ty N t v σ
  |_=>none)
 (cond (Nat.beq f N.swapper) (match args with
  |.iface t v::[]=>swapperL U.ty N t v σ
  |_=>none)
 (cond (Nat.beq f N.len) (match args with
  |.agg (.gptr g t::.ptr m 0::.int .u64 151::[])::[]=>valueLenL U.ty N g t m σ
  |_=>none)
 (cond (Nat.beq f N.sw9) (match args with
  |.int .i64 (.ofNat i)::.int .i64 (.ofNat j)::.slice l k s n::.gptr g e::[]=>swapL U N i j l k s n g e σ
  |_=>none) none)))
structure SortOk (P:Program) (N:SortN):Prop where
 gs:P.globals.size=N.gs
 valueOf:∃ fn,P.funcs[N.valueOf]?=some fn∧(fn.name == "runtime.NumGoroutine")=false∧fn.body.isNone=true∧Extern.findNext fn=none∧Extern.find fn=some (fun args=>Extern.ReflectliteValue.unpack (args.getD 0 (.tuple #[])))
 swapper:∃ fn,P.funcs[N.swapper]?=some fn∧(fn.name == "runtime.NumGoroutine")=false∧fn.body.isNone=true∧Extern.findNext fn=none∧Extern.find fn=some (Extern.ReflectliteSwapper.swapper "internal/reflectlite" (Extern.ReflectliteValue.valueError "Swapper"))
 len:∃ fn,P.funcs[N.len]?=some fn∧(fn.name == "runtime.NumGoroutine")=false∧fn.body.isNone=true∧Extern.findNext fn=none∧Extern.find fn=some (Extern.ReflectliteValue.method (Extern.ReflectliteValue.valueError "reflectlite.Value.Len" 0) Extern.ReflectliteValue.len)
 sw9:∃ fn,P.funcs[N.sw9]?=some fn∧(fn.name == "runtime.NumGoroutine")=false∧fn.body.isNone=true∧Extern.findNext fn=none∧Extern.find fn=some (Extern.ReflectliteSwapper.swap false)
 n1:P.funcs.findIdx? (·.name == "internal/reflectlite" ++ ".Swapper$" ++ toString 1)=some N.sw1
 n2:P.funcs.findIdx? (·.name == "internal/reflectlite" ++ ".Swapper$" ++ toString 2)=some N.sw2
 n9:P.funcs.findIdx? (·.name == "internal/reflectlite" ++ ".Swapper$" ++ toString 9)=some N.sw9
 unpacked:∀ t,memNat t N.slices=true→P.packed t=false
section
variable {P:Program} {V:VP} {s:Atoms}
open Go.Extern.Rtype Go.Extern
theorem elem_of {t e:TypeId} (h:sliceElem V.ty t=some e):∃ i,V.ty.get t=some i∧i.und=.slice e:=by
 unfold sliceElem at h
 split at h
 case h_2=>cases h
 rename_i i hi
 split at h
 case h_2=>cases h
 rename_i e' he
 cases h
 exact ⟨i,hi,he⟩
theorem under_of (hV:V.Ok P s) {t:TypeId} {i:TI} (h:V.ty.get t=some i) (w:World):∃ u iu,(under t).run P w=.ok (u,iu) w∧iu.desc=i.und:=by
 have h0:=hV.ty t i h
 have h1:=(info_of hV h).1
 unfold tyOf at h0
 have hti:∀ (t:TypeId) (j:TypeInfo),P.info? t=some j→(typeInfo t).run P w=.ok j w:=fun t j hj=>by simp [typeInfo,hj,Result.andThen]
 split at h0
 ·cases h0
 rename_i j hj
 split at h0
 case h_2=>cases h0
 rename_i u z hu hz
 split at h0
 case h_2=>cases h0
 cases h0
 simp only at h1
 split at hu
 ·rename_i nm u' hd
  refine ⟨u',u,?_,rfl⟩
  have hu':P.info? u'=some u:=by
   unfold Tables.info?
   have:=(Array.getElem?_eq_some_iff.1 hu).1
   rw [if_pos this];exact hu
  simp [under,hti t j h1,hd,hti u' u hu',Result.andThen]
 ·cases hu
  rename_i hd
  refine ⟨t,j,?_,rfl⟩
  have:(under t).run P w=((match j.desc with|.named _ u=>do pure (u,← typeInfo u)|_=>pure (t,j):Sem (TypeId×TypeInfo))).run P w:=by
   simp only [under,Sem.run_bind,hti t j h1,Result.andThen_ok]
  rw [this]
  split
  ·rename_i nm u' hd'
   exact absurd hd' (hd nm u')
  ·rfl
theorem kind_slice (hV:V.Ok P s) {t e:TypeId} (h:sliceElem V.ty t=some e) (w:World):(kind t).run P w=.ok 23 w:=by
 obtain ⟨i,hi,he⟩:=elem_of h
 obtain ⟨u,iu,r,hd⟩:=under_of hV hi w
 simp [kind,r,hd,he,Result.andThen]
theorem elem_slice (hV:V.Ok P s) {t e:TypeId} (h:sliceElem V.ty t=some e) (w:World):(elem? t).run P w=.ok (some e) w:=by
 obtain ⟨i,hi,he⟩:=elem_of h
 obtain ⟨u,iu,r,hd⟩:=under_of hV hi w
 simp [elem?,r,hd,he,Result.andThen]
theorem valueOf_run (hV:V.Ok P s) {t e:TypeId} (h:sliceElem V.ty t=some e) (p:Option Addr) (n c:Nat) (w:World):
  (ReflectliteValue.unpack (.iface t (.slice p n c))).run P w=.ok (.agg #[typeHandle P t,.pointer (some ⟨w.heap.size,0,none⟩),.int .u64 151]) (w.alloc (.cells #[.slice p n c] t)):=by
 simp [ReflectliteValue.unpack,ReflectliteValue.mk,newVar,newRow,handle,kind_slice hV h,Result.andThen,Value.cells,ReflectliteValue.flagIndir]
theorem valueLen_run (hV:V.Ok P s) {t e:TypeId} (h:sliceElem V.ty t=some e) (hpk:P.packed t=false) (a:Addr) (p:Option Addr) (n c:Nat) (w:World) (ha:w.cell? a=some (.slice p n c)):
  (ReflectliteValue.method (ReflectliteValue.valueError "reflectlite.Value.Len" 0) ReflectliteValue.len #[.agg #[typeHandle P t,.pointer (some a),.int .u64 151]]).run P w=.ok (.int .i64 n) w:=by
 obtain ⟨i,hi,he⟩:=elem_of h
 have hu:=(info_of hV hi).2.1
 rw [he] at hu
 obtain ⟨u,iu,r,hd⟩:=under_of hV hi w
 rw [Lib.rl_method]
 simp only [Sem.run_bind,Lib.run_parts t a hpk w,Result.andThen]
 simp [handleType,typeHandle,ReflectliteValue.len,r,hd,he,loadVar,isAgg,underlying,hu,ha,Builtin.len_,goInt,Result.andThen]
theorem ext_run {f:FuncId} {e:Array Value→Sem Value} (h:∃ fn,P.funcs[f]?=some fn∧(fn.name == "runtime.NumGoroutine")=false∧fn.body.isNone=true∧Extern.findNext fn=none∧Extern.find fn=some e) {args:Array Value} {w w':World} {v:Value} (hr:(e args).run P w=.ok v w'):
  (callFunc f args).run P w=.ok (.value v) w':=by
 obtain ⟨fn,h1,h2,h3,h4,h5⟩:=h
 rw [run_callFunc_extern h1 h2 h3 h4 h5,hr];rfl
theorem valueOf_ok (hV:V.Ok P s) {N:SortN} (hN:SortOk P N) {base:Nat} {w0:World} {ρ:Rho} {σ σ':St} {w:World} (hw:RW V s base w0 ρ σ w) {t:TypeId} {v r:LV} {x:Value} (hx:RV s ρ v x) (h:valueOfL V.ty N t v σ=some (r,σ')):
  ∃ y w' ρ',(callFunc N.valueOf #[.iface t x]).run P w=.ok (.value y) w'∧ρ <+: ρ'∧RW V s base w0 ρ' σ' w'∧RV s ρ' r y:=by
 unfold valueOfL at h
 split at h
 case h_2=>cases h
 rename_i e he
 have main:∀ (p:Option Addr) (n c:Nat),x=.slice p n c→v.one=true→∃ y w' ρ',(callFunc N.valueOf #[.iface t x]).run P w=.ok (.value y) w'∧ρ <+: ρ'∧RW V s base w0 ρ' (newOb σ (.row t [v] .exact)).2 w'∧RV s ρ' (.agg [.gptr N.gs t,.ptr (newOb σ (.row t [v] .exact)).1 0,.int .u64 151]) y:=by
  rintro p n c rfl h1
  have hn:=RW.newRow (cs:=[v]) (k:=.exact) (e:=t) (c:=#[.slice p n c]) (sp:=#[]) hw 0 ⟨_,_,rfl,hx,rfl⟩ (fun _=>rfl) (by simp)
  refine ⟨_,_,_,ext_run hN.valueOf (valueOf_run hV he p n c w),List.prefix_append _ _,by simpa using hn,?_⟩
  refine ⟨_,rfl,_,_,rfl,?_,_,_,rfl,new_ptr hw.len _,_,_,rfl,rfl,rfl⟩
  simp only [RV,typeHandle,hN.gs]
 split at h
 ·obtain ⟨b,K,h1,h2,rfl⟩:=hx
  cases h
  exact main _ _ _ rfl rfl
 ·simp only [RV] at hx;subst hx
  cases h
  exact main _ _ _ rfl rfl
 ·cases h
theorem valueLen_ok (hV:V.Ok P s) {N:SortN} (hN:SortOk P N) {base:Nat} {w0:World} {ρ:Rho} {σ σ':St} {w:World} (hw:RW V s base w0 ρ σ w) {g t m:Nat} {r:LV} {x:Value} (hx:RV s ρ (.agg [.gptr g t,.ptr m 0,.int .u64 151]) x) (h:valueLenL V.ty N g t m σ=some (r,σ')):
  ∃ y w' ρ',(callFunc N.len #[x]).run P w=.ok (.value y) w'∧ρ <+: ρ'∧RW V s base w0 ρ' σ' w'∧RV s ρ' r y:=by
 unfold valueLenL at h
 cases hb:(Nat.beq g N.gs&&memNat t N.slices) with
 |false=>rw [hb] at h;cases h
 |true=>
  rw [hb] at h;simp only [cond_true] at h
  simp only [Bool.and_eq_true] at hb
  obtain ⟨hg,hm⟩:=hb
  have:=Nat.eq_of_beq_eq_true hg;subst this
  split at h
  case h_2=>cases h
  rename_i e he
  obtain ⟨a,rfl,y1,ys1,e1,r1,y2,ys2,rfl,r2,y3,ys3,rfl,r3,r4⟩:=hx
  simp only [RV] at r1 r3
  obtain ⟨b,K,hr,rfl⟩:=r2
  have r4':ys3=[]:=r4
  subst r1 r3 r4'
  have ea:a=#[typeHandle P t,.pointer (some ⟨b,0,none⟩),.int .u64 151]:=by
   apply Array.ext'
   rw [e1,typeHandle,hN.gs]
  subst ea
  have fin:∀ (p:Option Addr) (n c:Nat),w.cell? ⟨b,0,none⟩=some (.slice p n c)→∃ y w' ρ',(callFunc N.len #[.agg #[typeHandle P t,.pointer (some ⟨b,0,none⟩),.int .u64 151]]).run P w=.ok (.value y) w'∧ρ <+: ρ'∧RW V s base w0 ρ' σ w'∧RV s ρ' (.int .i64 n) y:=by
   intro p n c hc
   exact ⟨_,w,ρ,ext_run hN.len (valueLen_run hV he (hN.unpacked t hm) _ p n c w hc),List.prefix_refl _,hw,rfl⟩
  split at h
  ·rename_i ty l' k' e' n kk hl
   cases h
   obtain ⟨c,sp,fr,q1,q2,_⟩:=row_of hw hl hr
   obtain ⟨v,vs,e1,e2,e3⟩:=q2
   have e3':vs=[]:=e3
   subst e3'
   obtain ⟨b2,K2,_,_,rfl⟩:=e2
   refine fin (some ⟨b2,k' * e',none⟩) n (K2 - k') ?_
   rw [row_cell q1,Array.getElem?_append_left (by rw [← Array.length_toList,e1];exact Nat.zero_lt_one),← Array.getElem?_toList,e1];rfl
  ·rename_i ty kk hl
   cases h
   obtain ⟨c,sp,fr,q1,q2,_⟩:=row_of hw hl hr
   obtain ⟨v,vs,e1,e2,e3⟩:=q2
   have e3':vs=[]:=e3
   subst e3'
   simp only [RV] at e2;subst e2
   refine fin none 0 0 ?_
   rw [row_cell q1,Array.getElem?_append_left (by rw [← Array.length_toList,e1];exact Nat.zero_lt_one),← Array.getElem?_toList,e1];rfl
  ·cases h
theorem swapper_run (hV:V.Ok P s) {t e:TypeId} (h:sliceElem V.ty t=some e) {i:TI} (hi:V.ty.get e=some i) (hb:bigStruct i=true) (p:Option Addr) (n c:Nat) (f:Nat)
  (hf:P.funcs.findIdx? (·.name == "internal/reflectlite" ++ ".Swapper$" ++ toString (Lib.swapperK n i.info 25))=some f) (w:World):
  (ReflectliteSwapper.swapper "internal/reflectlite" (ReflectliteValue.valueError "Swapper") #[.iface t (.slice p n c)]).run P w
   = .ok (.func (.func f) #[] (if Lib.swapperK n i.info 25≤2 then #[] else #[.slice p n c,typeHandle P e])) w:=by
 have hie:=(info_of hV hi).1
 have hst:∃ fs,i.und=.struct fs:=by
  unfold bigStruct at hb
  simp only [Bool.and_eq_true] at hb
  obtain ⟨_,hb⟩:=hb
  split at hb
  ·rename_i fs hfs;exact ⟨fs,hfs⟩
  ·cases hb
 obtain ⟨fs,hfs⟩:=hst
 have hke:∀ w,(kind e).run P w=.ok 25 w:=by
  intro w
  obtain ⟨u,iu,r,hd⟩:=under_of hV hi w
  simp [kind,r,hd,hfs,Result.andThen]
 rw [Lib.rl_swapper]
 simp only [Sem.run_bind,elem_slice hV h,Result.andThen,Lib.rl_info e i.info hie,hke,handle,Sem.run_pure]
 change Sem.run P (ReflectliteSwapper.literal "internal/reflectlite" (Lib.swapperK n i.info 25) (if Lib.swapperK n i.info 25≤2 then #[] else #[.slice p n c,typeHandle P e])) w=_
 simp at hf
 simp [ReflectliteSwapper.literal,hf,Result.andThen]
theorem swapper_ok (hV:V.Ok P s) {N:SortN} (hN:SortOk P N) {base:Nat} {w0:World} {ρ:Rho} {σ σ':St} {w:World} (hw:RW V s base w0 ρ σ w) {t:TypeId} {v r:LV} {x:Value} (hx:RV s ρ v x) (h:swapperL V.ty N t v σ=some (r,σ')):
  ∃ y w' ρ',(callFunc N.swapper #[.iface t x]).run P w=.ok (.value y) w'∧ρ <+: ρ'∧RW V s base w0 ρ' σ' w'∧RV s ρ' r y:=by
 unfold swapperL at h
 split at h
 case h_2=>cases h
 rename_i e he
 split at h
 case h_2=>cases h
 rename_i i hi
 cases hb:bigStruct i with
 |false=>rw [hb] at h;cases h
 |true=>
  rw [hb] at h;simp only [cond_true] at h
  have hb2:=hb
  unfold bigStruct at hb2
  simp only [Bool.and_eq_true] at hb2
  obtain ⟨⟨p1,p2⟩,_⟩:=hb2
  have hby:¬ i.info.bytes=8:=by have:=Nat.le_of_ble_eq_true p2;omega
  have k9:∀ n,Lib.swapperK (n+2) i.info 25=9:=by
   intro n
   simp [Lib.swapperK,p1,hby]
  split at h
  ·rename_i l k s' n
   obtain ⟨b,K,q1,q2,rfl⟩:=hx
   split at h
   ·cases h
    exact ⟨_,w,ρ,ext_run hN.swapper (swapper_run hV he hi hb _ 0 _ N.sw1 hN.n1 w),List.prefix_refl _,hw,⟨_,_,rfl,rfl,rfl⟩⟩
   ·cases h
    exact ⟨_,w,ρ,ext_run hN.swapper (swapper_run hV he hi hb _ 1 _ N.sw2 hN.n2 w),List.prefix_refl _,hw,⟨_,_,rfl,rfl,rfl⟩⟩
   ·rename_i n
    cases h
    have hr:=swapper_run hV he hi hb (some ⟨b,k * s',none⟩) (n+2) (K - k) N.sw9 (by rw [k9];exact hN.n9) w
    rw [k9,if_neg (by decide)] at hr
    refine ⟨_,w,ρ,ext_run hN.swapper hr,List.prefix_refl _,hw,⟨_,_,rfl,rfl,_,_,rfl,⟨b,K,q1,q2,rfl⟩,_,_,rfl,?_,rfl⟩⟩
    simp only [RV,typeHandle,hN.gs]
  ·simp only [RV] at hx;subst hx
   cases h
   exact ⟨_,w,ρ,ext_run hN.swapper (swapper_run hV he hi hb none 0 0 N.sw1 hN.n1 w),List.prefix_refl _,hw,⟨_,_,rfl,rfl,rfl⟩⟩
  ·cases h
theorem swap_ok (hV:V.Ok P s) {U:VP} (hU:U.ty=V.ty) {N:SortN} (hN:SortOk P N) {base:Nat} {w0:World} {ρ:Rho} {σ σ':St} {w:World} (hw:RW V s base w0 ρ σ w) {i j l k z n g e:Nat} {r:LV} {xs xh:Value} (hs:RV s ρ (.slice l k z n) xs) (hh:RV s ρ (.gptr g e) xh)
  (h:swapL U N i j l k z n g e σ=some (r,σ')):
  ∃ y w' ρ',(callFunc N.sw9 #[.int .i64 (Int.ofNat i),.int .i64 (Int.ofNat j),xs,xh]).run P w=.ok (.value y) w'∧ρ <+: ρ'∧RW V s base w0 ρ' σ' w'∧RV s ρ' r y:=by
 have hl:∀ σ t p,loadV U σ t p=loadV V σ t p:=fun σ t p=>by unfold loadV;rw [hU]
 have hst:∀ σ t p v,storeV U σ t p v=storeV V σ t p v:=fun σ t p v=>by unfold storeV;rw [hU]
 have hsz:sizeT U e=sizeT V e:=by unfold sizeT;rw [hU]
 unfold swapL at h
 rw [hsz] at h
 simp only [hl,hst] at h
 cases hb:(Nat.beq g N.gs&&Nat.blt i n&&Nat.blt j n&&(match sizeT V e with|some q=>Nat.beq q z|none=>false)) with
 |false=>rw [hb] at h;cases h
 |true=>
  rw [hb] at h;simp only [cond_true] at h
  simp only [Bool.and_eq_true] at hb
  obtain ⟨⟨⟨hg,hi⟩,hj⟩,hq⟩:=hb
  have:=Nat.eq_of_beq_eq_true hg;subst this
  have hi:i < n:=Nat.le_of_ble_eq_true hi
  have hj:j < n:=Nat.le_of_ble_eq_true hj
  split at hq
  case h_2=>cases hq
  rename_i q hqe
  have:=Nat.eq_of_beq_eq_true hq;subst this
  obtain ⟨ti,hti,hqi⟩:∃ ti,V.ty.get e=some ti∧ti.size=q:=by
   unfold sizeT at hqe
   split at hqe
   ·rename_i ti hti;cases hqe;exact ⟨ti,hti,rfl⟩
   ·cases hqe
  obtain ⟨b,K,h1,h2,rfl⟩:=hs
  simp only [RV] at hh;subst hh
  split at h
  case h_2=>cases h
  rename_i x y hx hy
  split at h
  case h_2=>cases h
  rename_i σ1 hs1
  split at h
  case h_2=>cases h
  rename_i σ2 hs2
  cases h
  have pi:RV s ρ (.ptr l ((k+i) * q)) (.pointer (some ⟨b,k * q+i * q,none⟩)):=⟨b,K,h1,by rw [Nat.add_mul]⟩
  have pj:RV s ρ (.ptr l ((k+j) * q)) (.pointer (some ⟨b,k * q+j * q,none⟩)):=⟨b,K,h1,by rw [Nat.add_mul]⟩
  obtain ⟨a1,vx,e1,r1,rx⟩:=loadV_ok hV hw pi hx
  obtain ⟨a2,vy,e2,r2,ry⟩:=loadV_ok hV hw pj hy
  obtain ⟨a3,w1,e3,s1,hw1⟩:=storeV_ok hV hw pi ry hs1
  obtain ⟨a4,w2,e4,s2,hw2⟩:=storeV_ok hV hw1 pj rx hs2
  cases e1;cases e2;cases e3;cases e4
  have hie:=(info_of hV hti).1
  have hs':ti.info.size=q:=hqi
  refine ⟨.tuple #[],w2,ρ,ext_run hN.sw9 ?_,List.prefix_refl _,hw2,⟨#[],rfl,rfl⟩⟩
  have i0:¬ ((i:Int) < 0):=by omega
  have i1:¬ ((i:Int)≥n):=by omega
  have j0:¬ ((j:Int) < 0):=by omega
  have j1:¬ ((j:Int)≥n):=by omega
  have hge:(Value.pointer (some { block:=N.gs,off:=e }))=typeHandle P e:=by rw [typeHandle,hN.gs]
  rw [hge,Int.ofNat_eq_natCast,Int.ofNat_eq_natCast,Lib.rl_swap]
  simp [i0,i1,j0,j1,ofHandle,handleType,typeHandle,ReflectliteSwapper.exchange,Go.sizeOf,Lib.rl_info e ti.info hie,hs',Addr.add_lit,r1,r2,s1,s2,Result.andThen]
theorem sortExts_ok (hV:V.Ok P s) {U:VP} (hU:U.ty=V.ty) {N:SortN} (hN:SortOk P N) (hE:V.exts=sortExts U N):ExtsOk V P s:=by
 intro base w0 ρ σ w f args as v σ' hw ha h
 rw [hE] at h
 unfold sortExts at h
 rw [hU] at h
 have arr:∀ {l:List Value},as.toList=l→as=l.toArray:=fun e=>by apply Array.ext';simpa using e
 cases h1:Nat.beq f N.valueOf with
 |true=>
  rw [h1] at h;simp only [cond_true] at h
  have:=Nat.eq_of_beq_eq_true h1;subst this
  split at h
  case h_2=>cases h
  obtain ⟨x,xs,e1,r1,r2⟩:=ha
  have r2':xs=[]:=r2
  subst r2'
  obtain ⟨y,rfl,hy⟩:=r1
  rw [arr e1]
  exact valueOf_ok hV hN hw hy h
 |false=>
 rw [h1] at h;simp only [cond_false] at h
 cases h2:Nat.beq f N.swapper with
 |true=>
  rw [h2] at h;simp only [cond_true] at h
  have:=Nat.eq_of_beq_eq_true h2;subst this
  split at h
  case h_2=>cases h
  obtain ⟨x,xs,e1,r1,r2⟩:=ha
  have r2':xs=[]:=r2
  subst r2'
  obtain ⟨y,rfl,hy⟩:=r1
  rw [arr e1]
  exact swapper_ok hV hN hw hy h
 |false=>
 rw [h2] at h;simp only [cond_false] at h
 cases h3:Nat.beq f N.len with
 |true=>
  rw [h3] at h;simp only [cond_true] at h
  have:=Nat.eq_of_beq_eq_true h3;subst this
  split at h
  case h_2=>cases h
  obtain ⟨x,xs,e1,r1,r2⟩:=ha
  have r2':xs=[]:=r2
  subst r2'
  rw [arr e1]
  exact valueLen_ok hV hN hw r1 h
 |false=>
 rw [h3] at h;simp only [cond_false] at h
 cases h4:Nat.beq f N.sw9 with
 |true=>
  rw [h4] at h;simp only [cond_true] at h
  have:=Nat.eq_of_beq_eq_true h4;subst this
  split at h
  case h_2=>cases h
  obtain ⟨x1,xs1,e1,r1,x2,xs2,rfl,r2,x3,xs3,rfl,r3,x4,xs4,rfl,r4,r5⟩:=ha
  have r5':xs4=[]:=r5
  simp only [RV] at r1 r2
  subst r5' r1 r2
  rw [arr e1]
  exact swap_ok hV hU hN hw r3 r4 h
 |false=>rw [h4] at h;cases h
end
end Vx
