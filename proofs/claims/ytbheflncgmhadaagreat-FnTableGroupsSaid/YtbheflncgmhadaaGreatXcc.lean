/- The executor again, made for the kernel. Conditions: those in each statement. -/
import Derived.Test.YtbheflncgmhadaaGreatXc
set_option linter.unusedVariables false
set_option linter.unusedSimpArgs false
set_option maxHeartbeats 40000000
set_option maxRecDepth 100000
namespace Vx
open Go
theorem brec_cond {α:Type} (c:Bool) (t f:α):@Bool.rec (fun _=>α) f t c=cond c t f:=by cases c <;> rfl
section
variable {α:Type}
theorem Tr.par (n:Nat):Nat.beq ((n+1) % 2) 0=!(Nat.beq (n % 2) 0):=by
 rcases Nat.mod_two_eq_zero_or_one n with h|h
 ·rw [h,show (n+1) % 2=1 by omega];rfl
 ·rw [h,show (n+1) % 2=0 by omega];rfl
noncomputable def Tr.getF:Tr α→Nat→Option α:=@Tr.rec α (fun _=>Nat→Option α) (fun _=>none)
 (fun _ v _ il ir n=>@Bool.rec (fun _=>Option α) (@Bool.rec (fun _=>Option α) (il (Nat.div (Nat.sub n 1) 2)) (ir (Nat.div (Nat.sub n 1) 2)) (Nat.beq (Nat.mod n 2) 0)) v (Nat.beq n 0))
theorem Tr.getF_eq:∀ (t:Tr α) (n:Nat),t.getF n=t.get n
 |.nil,n=>rfl
 |.node l v r,0=>rfl
 |.node l v r,n+1=>by
  change @Bool.rec (fun _=>Option α) (l.getF (n / 2)) (r.getF (n / 2)) (Nat.beq ((n+1) % 2) 0)=cond (Nat.beq (n % 2) 0) (l.get (n / 2)) (r.get (n / 2))
  rw [Tr.getF_eq l,Tr.getF_eq r,Tr.par]
  cases Nat.beq (n % 2) 0 <;> rfl
noncomputable def Tr.setD:Nat→Option α→Tr α→Nat→Tr α:=@Nat.rec (fun _=>Option α→Tr α→Nat→Tr α) (fun _ t _=>t)
 (fun _ ih a t n=>@Bool.rec (fun _=>Tr α) (@Bool.rec (fun _=>Tr α)
   (@Tr.rec α (fun _=>Tr α) (.node (ih a .nil (Nat.div (Nat.sub n 1) 2)) none .nil) (fun l v r _ _=>.node (ih a l (Nat.div (Nat.sub n 1) 2)) v r) t)
   (@Tr.rec α (fun _=>Tr α) (.node .nil none (ih a .nil (Nat.div (Nat.sub n 1) 2))) (fun l v r _ _=>.node l v (ih a r (Nat.div (Nat.sub n 1) 2))) t) (Nat.beq (Nat.mod n 2) 0))
  (@Tr.rec α (fun _=>Tr α) (.node .nil a .nil) (fun l _ r _ _=>.node l a r) t) (Nat.beq n 0))
theorem Tr.setD_eq:∀ (k f:Nat) (t:Tr α) (n:Nat) (a:Option α),n+1 < 2 ^ k→n < f→Tr.setD k a t n=setF f t n a
 |0,f,t,n,a,h,_=>by simp at h
 |k+1,0,t,n,a,_,h=>by omega
 |k+1,f+1,t,0,a,_,_=>by cases t <;> rfl
 |k+1,f+1,t,n+1,a,h,hf=>by
  have hk:n / 2+1 < 2 ^ k:=by rw [Nat.pow_succ] at h;omega
  have h1:=Tr.setD_eq k f t.lft (n / 2) a hk (by omega)
  have h2:=Tr.setD_eq k f t.rgt (n / 2) a hk (by omega)
  change @Bool.rec (fun _=>Tr α) (@Tr.rec α (fun _=>Tr α) (.node (Tr.setD k a .nil (n / 2)) none .nil) (fun l v r _ _=>.node (Tr.setD k a l (n / 2)) v r) t)
   (@Tr.rec α (fun _=>Tr α) (.node .nil none (Tr.setD k a .nil (n / 2))) (fun l v r _ _=>.node l v (Tr.setD k a r (n / 2))) t) (Nat.beq ((n+1) % 2) 0)=
   cond (Nat.beq (n % 2) 0) (Tr.node (setF f t.lft (n / 2) a) t.mid t.rgt) (Tr.node t.lft t.mid (setF f t.rgt (n / 2) a))
  rw [← h1,← h2,Tr.par]
  cases t <;> cases Nat.beq (n % 2) 0 <;> rfl
noncomputable def Tr.putF (t:Tr α) (n:Nat) (a:α):Tr α:=@Bool.rec (fun _=>Tr α) (t.put n a) (Tr.setD 12 (some a) t n) (Nat.ble n 4000)
theorem Tr.putF_eq (t:Tr α) (n:Nat) (a:α):t.putF n a=t.put n a:=by
 unfold Tr.putF
 cases h:Nat.ble n 4000 with
 |true=>
  have:n≤4000:=Nat.le_of_ble_eq_true h
  exact Tr.setD_eq 12 (n+1) t n (some a) (by omega) (by omega)
 |false=>rfl
end
noncomputable def asBool:LV→Option (Bool):=@LV.rec (fun _=>Option (Bool)) (fun _=>Unit) (fun b=>some b) (fun _ _=>none) (fun _=>none) (fun _=>none) (none) (fun _ _=>none) (fun _ _=>none) (none) (fun _ _ _ _=>none) (fun _ _=>none) (none) (fun _=>none) (fun _ _ _ _ _=>none) (none) (fun _ _ _=>none) (none) (fun _ _=>none) (fun _ _=>none) () (fun _ _ _ _=>())
noncomputable def asInt:LV→Option (IntKind×Int):=@LV.rec (fun _=>Option (IntKind×Int)) (fun _=>Unit) (fun _=>none) (fun k n=>some (k,n)) (fun _=>none) (fun _=>none) (none) (fun _ _=>none) (fun _ _=>none) (none) (fun _ _ _ _=>none) (fun _ _=>none) (none) (fun _=>none) (fun _ _ _ _ _=>none) (none) (fun _ _ _=>none) (none) (fun _ _=>none) (fun _ _=>none) () (fun _ _ _ _=>())
noncomputable def asStr:LV→Option (Txt):=@LV.rec (fun _=>Option (Txt)) (fun _=>Unit) (fun _=>none) (fun _ _=>none) (fun t=>some t) (fun _=>none) (none) (fun _ _=>none) (fun _ _=>none) (none) (fun _ _ _ _=>none) (fun _ _=>none) (none) (fun _=>none) (fun _ _ _ _ _=>none) (none) (fun _ _ _=>none) (none) (fun _ _=>none) (fun _ _=>none) () (fun _ _ _ _=>())
noncomputable def asPtr:LV→Option (Nat×Nat):=@LV.rec (fun _=>Option (Nat×Nat)) (fun _=>Unit) (fun _=>none) (fun _ _=>none) (fun _=>none) (fun _=>none) (none) (fun l o=>some (l,o)) (fun _ _=>none) (none) (fun _ _ _ _=>none) (fun _ _=>none) (none) (fun _=>none) (fun _ _ _ _ _=>none) (none) (fun _ _ _=>none) (none) (fun _ _=>none) (fun _ _=>none) () (fun _ _ _ _=>())
noncomputable def asFunc:LV→Option (Fn×List LV×List LV):=@LV.rec (fun _=>Option (Fn×List LV×List LV)) (fun _=>Unit) (fun _=>none) (fun _ _=>none) (fun _=>none) (fun _=>none) (none) (fun _ _=>none) (fun _ _=>none) (none) (fun _ _ _ _=>none) (fun _ _=>none) (none) (fun _=>none) (fun f a c _ _=>some (f,a,c)) (none) (fun _ _ _=>none) (none) (fun _ _=>none) (fun _ _=>none) () (fun _ _ _ _=>())
noncomputable def asAgg:LV→Option (List LV):=@LV.rec (fun _=>Option (List LV)) (fun _=>Unit) (fun _=>none) (fun _ _=>none) (fun _=>none) (fun _=>none) (none) (fun _ _=>none) (fun _ _=>none) (none) (fun _ _ _ _=>none) (fun _ _=>none) (none) (fun _=>none) (fun _ _ _ _ _=>none) (none) (fun _ _ _=>none) (none) (fun cs _=>some cs) (fun _ _=>none) () (fun _ _ _ _=>())
noncomputable def asTup:LV→Option (List LV):=@LV.rec (fun _=>Option (List LV)) (fun _=>Unit) (fun _=>none) (fun _ _=>none) (fun _=>none) (fun _=>none) (none) (fun _ _=>none) (fun _ _=>none) (none) (fun _ _ _ _=>none) (fun _ _=>none) (none) (fun _=>none) (fun _ _ _ _ _=>none) (none) (fun _ _ _=>none) (none) (fun _ _=>none) (fun vs _=>some vs) () (fun _ _ _ _=>())
noncomputable def oneF:LV→Bool:=@LV.rec (fun _=>Bool) (fun _=>Unit) (fun _=>true) (fun _ _=>true) (fun _=>true) (fun _=>true) (true) (fun _ _=>true) (fun _ _=>true) (true) (fun _ _ _ _=>true) (fun _ _=>true) (true) (fun _=>true) (fun _ _ _ _ _=>true) (true) (fun _ _ _=>true) (true) (fun _ _=>false) (fun _ _=>false) () (fun _ _ _ _=>())
noncomputable def refB:LV→Bool:=@LV.rec (fun _=>Bool) (fun _=>Unit) (fun _=>false) (fun _ _=>false) (fun _=>false) (fun _=>false) (false) (fun _ _=>true) (fun _ _=>true) (false) (fun _ _ _ _=>true) (fun _ _=>false) (false) (fun _=>false) (fun _ _ _ _ _=>false) (false) (fun _ _ _=>true) (false) (fun _ _=>false) (fun _ _=>false) () (fun _ _ _ _=>())
noncomputable def aggD:TypeDesc→Bool:=@TypeDesc.rec (fun _=>Bool) (false) (false) (fun _=>false) (fun _=>false) (fun _=>false) (false) (false) (fun _=>false) (fun _=>false) (fun _ _=>true) (fun _ _=>false) (fun _ _=>false) (fun _=>true) (fun _ _ _=>false) (fun _=>false) (fun _=>false) (fun _ _=>false)
noncomputable def strD:TypeDesc→Bool:=@TypeDesc.rec (fun _=>Bool) (false) (false) (fun _=>false) (fun _=>false) (fun _=>false) (true) (false) (fun _=>false) (fun _=>false) (fun _ _=>false) (fun _ _=>false) (fun _ _=>false) (fun _=>false) (fun _ _ _=>false) (fun _=>false) (fun _=>false) (fun _ _=>false)
noncomputable def intD:TypeDesc→Bool:=@TypeDesc.rec (fun _=>Bool) (false) (false) (fun _=>true) (fun _=>false) (fun _=>false) (false) (false) (fun _=>false) (fun _=>false) (fun _ _=>false) (fun _ _=>false) (fun _ _=>false) (fun _=>false) (fun _ _ _=>false) (fun _=>false) (fun _=>false) (fun _ _=>false)
noncomputable def funcOf:Fn→Option FuncId:=@Fn.rec (fun _=>Option FuncId) (fun f=>some f) (fun _=>none) (fun _ _=>none) (fun _ _ _ _=>none) (fun _=>none)
noncomputable def asRow:Ob→Option (TypeId×List LV×RK):=@Ob.rec (fun _=>Option (TypeId×List LV×RK)) (fun e cs k=>some (e,cs,k)) (fun _=>none) (fun _=>none) (fun _=>none)
theorem oneF_eq (v:LV):oneF v=v.one:=by cases v <;> rfl
theorem aggD_eq (d:TypeDesc):aggD d=isAggD d:=by cases d <;> rfl
noncomputable def LAct.getF (a:LAct) (t:Nat):LV:=@Option.rec LV (fun _=>LV) undef (fun v=>v) (Tr.getF a.tmps t)
theorem LAct.getF_eq (a:LAct) (t:Nat):a.getF t=a.get t:=by
 unfold LAct.getF LAct.get
 rw [Tr.getF_eq]
 cases a.tmps.get t <;> rfl
noncomputable def LAct.putF (a:LAct) (d:Nat) (v:LV):Option LAct:=@LAct.rec (fun _=>Option LAct) (fun n T ds=>@Bool.rec (fun _=>Option LAct) none (some ⟨n,T.putF d v,ds⟩) (Nat.ble (Nat.succ d) n)) a
theorem LAct.putF_eq (a:LAct) (d:Nat) (v:LV):a.putF d v=a.put d v:=by
 cases a with
 |mk n T ds=>
  change @Bool.rec (fun _=>Option LAct) none (some ⟨n,T.putF d v,ds⟩) (Nat.ble (Nat.succ d) n)=cond (Nat.blt d n) (some (LAct.mk n (T.put d v) ds)) none
  rw [Tr.putF_eq,brec_cond]
  rfl
noncomputable def evalF:Operand→LAct→Option LV:=@Operand.rec (fun _=>LAct→Option LV) (fun t a=>some (a.getF t)) (fun v _=>@Option.rec LV (fun _=>Option LV) none (fun x=>some x) (ofV v)) (fun g _=>some (.gptr g 0)) (fun f _=>some (.func (.func f) [] []))
theorem evalF_eq (o:Operand) (a:LAct):evalF o a=evalO a o:=by
 cases o with
 |tmp t=>change some (a.getF t)=some (a.get t);rw [LAct.getF_eq]
 |const v=>
  change @Option.rec LV (fun _=>Option LV) none (fun x=>some x) (ofV v)=ofV v
  cases ofV v <;> rfl
 |global g=>rfl
 |func f=>rfl
noncomputable def evalsF:List Operand→LAct→Option (List LV):=@List.rec Operand (fun _=>LAct→Option (List LV)) (fun _=>some [])
 (fun o _ ih a=>@Option.rec LV (fun _=>Option (List LV)) none (fun v=>@Option.rec (List LV) (fun _=>Option (List LV)) none (fun vs=>some (v::vs)) (ih a)) (evalF o a))
theorem evalsF_eq (a:LAct):∀ l:List Operand,evalsF l a=evals a l
 |[]=>rfl
 |o::r=>by
  change @Option.rec LV (fun _=>Option (List LV)) none (fun v=>@Option.rec (List LV) (fun _=>Option (List LV)) none (fun vs=>some (v::vs)) (evalsF r a)) (evalF o a)=evals a (o::r)
  rw [evalsF_eq a r,evalF_eq]
  simp only [evals]
  cases evalO a o <;> cases evals a r <;> rfl
noncomputable def dropF:Nat→List LV→List LV:=@Nat.rec (fun _=>List LV→List LV) (fun l=>l) (fun _ ih l=>ih (@List.rec LV (fun _=>List LV) [] (fun _ r _=>r) l))
theorem dropF_eq:∀ (n:Nat) (l:List LV),dropF n l=dropN n l
 |0,l=>rfl
 |n+1,[]=>by
  change dropF n []=[]
  rw [dropF_eq n []]
  cases n <;> rfl
 |n+1,_::r=>dropF_eq n r
noncomputable def subF (l:List LV) (off n:Nat):Option (List LV):=takeN n (dropF off l)
theorem subF_eq (l:List LV) (off n:Nat):subF l off n=sub l off n:=by unfold subF sub;rw [dropF_eq]
noncomputable def mkF (d:TypeDesc) (cs:List LV):Option LV:=cond (aggD d) (some (.agg cs)) (match cs with|v::[]=>some v|_=>none)
theorem mkF_eq (d:TypeDesc) (cs:List LV):mkF d cs=mkVar d cs:=by unfold mkF mkVar;rw [aggD_eq];rfl
noncomputable def loadF (V:VP) (σ:St) (t:TypeId) (p:LV):Option LV:=
 match asPtr p with
 |none=>none
 |some (l,off)=>match V.ty.getF t with
  |none=>none
  |some i=>match σ.heap.getF l with
   |none=>none
   |some o=>match asRow o with
    |none=>none
    |some (_,cs,_)=>match subF cs off i.size with
     |some c=>mkF i.und c
     |none=>none
theorem loadF_eq (V:VP) (σ:St) (t:TypeId) (p:LV):loadF V σ t p=loadV V σ t p:=by
 unfold loadF loadV
 simp only [Tr.getF_eq,subF_eq,mkF_eq]
 cases p <;> try rfl
 rename_i l off
 change (match V.ty.get t with|none=>none|some i=>_)=(match V.ty.get t,σ.heap.get l with
  |some i,some (.row _ cs _)=>(match sub cs off i.size with
   |some c=>mkVar i.und c
   |none=>none)
  |_,_=>none)
 cases V.ty.get t with
 |none=>rfl
 |some i=>
  change (match σ.heap.get l with|none=>none|some o=>_)=_
  cases σ.heap.get l with
  |none=>rfl
  |some o=>cases o <;> rfl
noncomputable def cellsF (v:LV):List LV:=match asAgg v with|some cs=>cs|none=>[v]
theorem cellsF_eq (v:LV):cellsF v=v.cells:=by cases v <;> rfl
noncomputable def allF:List LV→Bool:=@List.rec LV (fun _=>Bool) true (fun v _ ih=>oneF v&&ih)
theorem allF_eq:∀ l,allF l=allOne l
 |[]=>rfl
 |v::r=>by
  change (oneF v&&allF r)=(v.one&&allOne r)
  rw [oneF_eq,allF_eq r]
noncomputable def setSF (σ:St) (l:Nat) (o:Ob):St:=@St.rec (fun _=>St) (fun h n=>⟨h.putF l o,n⟩) σ
theorem setSF_eq (σ:St) (l:Nat) (o:Ob):setSF σ l o=σ.set l o:=by
 cases σ with
 |mk h n=>
  change St.mk (h.putF l o) n=St.mk (h.put l o) n
  rw [Tr.putF_eq]
noncomputable def newF (σ:St) (o:Ob):Nat×St:=(σ.next,{ heap:=σ.heap.putF σ.next o,next:=σ.next+1 })
theorem newF_eq (σ:St) (o:Ob):newF σ o=newOb σ o:=by unfold newF newOb;rw [Tr.putF_eq]
noncomputable def storeF (V:VP) (σ:St) (t:TypeId) (p v:LV):Option St:=
 match asPtr p with
 |none=>none
 |some (l,off)=>match V.ty.getF t with
  |none=>none
  |some i=>match σ.heap.getF l with
   |none=>none
   |some o=>match asRow o with
    |none=>none
    |some (e,cs,k)=>cond (Nat.beq (cellsF v).length i.size&&allF (cellsF v)&&k.plain)
     (match over cs off (cellsF v) with
     |some cs=>some (setSF σ l (.row e cs k))
     |none=>none) none
theorem storeF_eq (V:VP) (σ:St) (t:TypeId) (p v:LV):storeF V σ t p v=storeV V σ t p v:=by
 unfold storeF storeV
 simp only [Tr.getF_eq,cellsF_eq,allF_eq,setSF_eq]
 cases p <;> try rfl
 rename_i l off
 change (match V.ty.get t with|none=>none|some i=>_)=(match V.ty.get t,σ.heap.get l with
  |some i,some (.row e cs k)=>
   cond (Nat.beq v.cells.length i.size&&allOne v.cells&&k.plain)
    (match over cs off v.cells with
    |some cs=>some (σ.set l (.row e cs k))
    |none=>none) none
  |_,_=>none)
 cases V.ty.get t with
 |none=>rfl
 |some i=>
  change (match σ.heap.get l with|none=>none|some o=>_)=_
  cases σ.heap.get l with
  |none=>rfl
  |some o=>cases o <;> rfl
noncomputable def eqF (V:VP) (σ:St) (t:TypeId) (x y:LV):Option Bool:=
 match asStr x with
 |some a=>(match asStr y with
  |some b=>(match V.ty.getF t with
   |some i=>cond (strD i.und) (Txt.eq? V.facts a b) none
   |none=>none)
  |none=>eqV V σ 50 t x y)
 |none=>(match asInt x with
  |some (k,n)=>(match asInt y with
   |some (k',n')=>(match V.ty.getF t with
    |some i=>cond (intD i.und) (cond (kindBeq k k') (some (n==n')) none) none
    |none=>none)
   |none=>eqV V σ 50 t x y)
  |none=>eqV V σ 50 t x y)
theorem eqF_eq (V:VP) (σ:St) (t:TypeId) (x y:LV):eqF V σ t x y=eqV V σ 50 t x y:=by
 unfold eqF
 rw [Tr.getF_eq]
 cases x <;> try rfl
 ·rename_i k n
  cases y <;> try rfl
  rename_i k' n'
  change (match V.ty.get t with|some i=>cond (intD i.und) (cond (kindBeq k k') (some (n==n')) none) none|none=>none)=_
  rw [eqV]
  cases V.ty.get t with
  |none=>rfl
  |some i=>
   generalize hu:i.und=u
   cases u <;> simp only [hu] <;> rfl
 ·rename_i a
  cases y <;> try rfl
  rename_i b
  change (match V.ty.get t with|some i=>cond (strD i.und) (Txt.eq? V.facts a b) none|none=>none)=_
  rw [eqV]
  cases V.ty.get t with
  |none=>rfl
  |some i=>
   generalize hu:i.und=u
   cases u <;> simp only [hu] <;> rfl
noncomputable def plainB:LV→Bool:=@LV.rec (fun _=>Bool) (fun _=>Unit) (fun _=>true) (fun _ _=>true) (fun _=>true) (fun _=>false) (true) (fun _ _=>true) (fun _ _=>false) (true) (fun _ _ _ _=>true) (fun _ _=>false) (false) (fun _=>false) (fun _ _ _ _ _=>false) (false) (fun _ _ _=>false) (false) (fun _ _=>false) (fun _ _=>false) () (fun _ _ _ _=>())
noncomputable def eqOkF (V:VP) (t:TypeId) (c:Bool) (x y:LV):Bool:=cond (plainB x&&plainB y) true (eqOk V t c x y)
theorem eqOkF_eq (V:VP) (t:TypeId) (c:Bool) (x y:LV):eqOkF V t c x y=eqOk V t c x y:=by
 unfold eqOkF
 cases x <;> cases y <;> rfl
noncomputable def eqlF (V:VP) (σ:St) (t:TypeId) (c:Bool) (x y:LV):Option LV:=cond (eqOkF V t c x y) (match eqF V σ t x y with|some b=>some (.bool b)|none=>none) none
noncomputable def neqF (V:VP) (σ:St) (t:TypeId) (c:Bool) (x y:LV):Option LV:=cond (eqOkF V t c x y) (match eqF V σ t x y with|some b=>some (.bool (!b))|none=>none) none
noncomputable def binF:BinOp→VP→St→TypeId→Bool→LV→LV→Option LV:=@BinOp.rec (fun _=>VP→St→TypeId→Bool→LV→LV→Option LV) (fun V σ t c x y=>binL V σ .add t c x y) (fun V σ t c x y=>binL V σ .sub t c x y) (fun V σ t c x y=>binL V σ .mul t c x y) (fun V σ t c x y=>binL V σ .quo t c x y) (fun V σ t c x y=>binL V σ .rem t c x y) (fun V σ t c x y=>binL V σ .and t c x y) (fun V σ t c x y=>binL V σ .or t c x y) (fun V σ t c x y=>binL V σ .xor t c x y) (fun V σ t c x y=>binL V σ .shl t c x y) (fun V σ t c x y=>binL V σ .shr t c x y) (fun V σ t c x y=>binL V σ .andNot t c x y) eqlF neqF (fun V σ t c x y=>binL V σ .lss t c x y) (fun V σ t c x y=>binL V σ .leq t c x y) (fun V σ t c x y=>binL V σ .gtr t c x y) (fun V σ t c x y=>binL V σ .geq t c x y)
theorem binF_eq (op:BinOp) (V:VP) (σ:St) (t:TypeId) (c:Bool) (x y:LV):binF op V σ t c x y=binL V σ op t c x y:=by
 cases op <;> try rfl
 ·change eqlF V σ t c x y=_
  unfold eqlF
  rw [eqOkF_eq,eqF_eq];rfl
 ·change neqF V σ t c x y=_
  unfold neqF
  rw [eqOkF_eq,eqF_eq];rfl
noncomputable def invokeF (V:VP) (σ:St) (fn:Fn) (captured args:List LV):Option ORes:=match funcOf fn with
 |some f=>enterL V σ f (args++captured)
 |none=>invokeL V σ fn captured args
theorem invokeF_eq (V:VP) (σ:St) (fn:Fn) (captured args:List LV):invokeF V σ fn captured args=invokeL V σ fn captured args:=by cases fn <;> rfl
noncomputable def callOpF (c:Call) (V:VP) (σ:St) (vs:List LV):Option ORes:=
 @Callee.rec (fun _=>Call→VP→St→List LV→Option ORes)
  (fun _ _ V σ vs=>match vs with
   |x::args=>(match asFunc x with
    |some (fn,first,captured)=>invokeF V σ fn captured (first++args)
    |none=>none)
   |[]=>none)
  (fun _ _ c V σ vs=>doOp V σ (.call c) vs) (fun b c V σ vs=>toVal (builtinL V σ b c.argTypes.toList vs)) c.callee c V σ vs
theorem callOpF_eq (c:Call) (V:VP) (σ:St) (vs:List LV):callOpF c V σ vs=doOp V σ (.call c) vs:=by
 obtain ⟨callee,args,ats⟩:=c
 unfold callOpF
 cases callee with
 |value f=>
  cases vs with
  |nil=>rfl
  |cons x r=>
   cases x <;> try rfl
   change invokeF _ _ _ _ _=_
   rw [invokeF_eq];rfl
 |invoke r m=>rfl
 |builtin b=>rfl
noncomputable def pairL {α:Type} (vs:List LV) (F:LV→LV→Option α):Option α:=@List.rec LV (fun _=>Option α) none (fun v r _=>@List.rec LV (fun _=>Option α) none (fun u r _=>@List.rec LV (fun _=>Option α) (F v u) (fun _ _ _=>none) r) r) vs
noncomputable def loneL {α:Type} (vs:List LV) (F:LV→Option α):Option α:=@List.rec LV (fun _=>Option α) none (fun v r _=>@List.rec LV (fun _=>Option α) (F v) (fun _ _ _=>none) r) vs
noncomputable def op1 (σ:St) (vs:List LV):Option ORes:=loneL vs fun v=>some (.val v σ)
noncomputable def pickF (σ:St) (vs:List LV):Option ORes:=match vs with
 |b::x::y::[]=>(match asBool b with|some b=>some (.val (cond b x y) σ)|none=>none)
 |_=>none
noncomputable def vOfF (σ:St) (r:Option LV):Option ORes:=@Option.rec LV (fun _=>Option ORes) none (fun v=>some (.val v σ)) r
theorem vOfF_eq (σ:St) (r:Option LV):vOfF σ r=vOf σ r:=by cases r <;> rfl
noncomputable def loadO (V:VP) (σ:St) (t:TypeId) (vs:List LV):Option ORes:=loneL vs fun p=>vOfF σ (loadF V σ t p)
noncomputable def storeO (V:VP) (σ:St) (t:TypeId) (vs:List LV):Option ORes:=pairL vs fun p x=>(match storeF V σ t p x with|some σ=>some (.skip σ)|none=>none)
noncomputable def binO (V:VP) (σ:St) (op:BinOp) (t:TypeId) (x y:Operand) (vs:List LV):Option ORes:=pairL vs fun a b=>vOfF σ (binF op V σ t (isConstO x||isConstO y) a b)
noncomputable def nilO (V:VP) (σ:St) (x0:Operand) (vs:List LV):Option ORes:=loneL vs fun x=>@Bool.rec (fun _=>Option ORes) (doOp V σ (.nilCheck x0) (x::[])) (some (.val x σ)) (refB x)
noncomputable def fieldPF (V:VP) (p:LV) (f:Field):Option LV:=match asPtr p with
 |some (l,off)=>(match sizeT V f.type with
  |some (_+1)=>some (.ptr l (off+f.offset))
  |_=>none)
 |none=>none
noncomputable def fieldO (V:VP) (σ:St) (s:TypeId) (f:Nat) (vs:List LV):Option ORes:=loneL vs fun x=>(match fieldOf V s f with
 |some f=>vOfF σ (fieldPF V x f)
 |none=>none)
noncomputable def extractO (σ:St) (i:Nat) (vs:List LV):Option ORes:=match vs with
 |x::[]=>(match asTup x with|some l=>vOf σ (nthV l i)|none=>none)
 |_=>none
noncomputable def allocO (V:VP) (σ:St) (e:TypeId) (vs:List LV):Option ORes:=match vs with
 |[]=>(match V.ty.getF e with
  |some i=>(match newF σ (.row e i.zero .exact) with|(l,σ)=>some (.val (.ptr l 0) σ))
  |none=>none)
 |_=>none
noncomputable def boxO (σ:St) (e:TypeId) (vs:List LV):Option ORes:=match vs with
 |x::[]=>(match newF σ (.row e (cellsF x) .exact) with|(l,σ)=>some (.val (.ptr l 0) σ))
 |_=>none
noncomputable def funcO (σ:St) (fn:Fn) (first:Array Operand) (vs:List LV):Option ORes:=match splitL first.size vs with
 |some (f,c)=>some (.val (.func fn f c) σ)
 |none=>none
noncomputable def doOpF:Op→VP→St→List LV→Option ORes:=
 @Op.rec (fun _=>VP→St→List LV→Option ORes)
 (fun _=>fun _ σ vs=>op1 σ vs)
 (fun _=>fun _ σ vs=>op1 σ vs)
 (fun _ _ _=>fun _ σ vs=>pickF σ vs)
 (fun x0=>fun V σ vs=>allocO V σ x0 vs)
 (fun x0 _=>fun _ σ vs=>boxO σ x0 vs)
 (fun x0 x1=>fun V σ vs=>doOp V σ (.build x0 x1) vs)
 (fun x0 x1 x2=>fun V σ vs=>doOp V σ (.buildSlice x0 x1 x2) vs)
 (fun x0 x1 x2 x3=>fun V σ vs=>doOp V σ (.insert x0 x1 x2 x3) vs)
 (fun x0 _=>fun V σ vs=>loadO V σ x0 vs)
 (fun x0 _ _=>fun V σ vs=>storeO V σ x0 vs)
 (fun x0=>fun V σ vs=>doOp V σ (.ready x0) vs)
 (fun x0=>fun V σ vs=>doOp V σ (.waits x0) vs)
 (fun x0=>fun V σ vs=>nilO V σ x0 vs)
 (fun x0 x1 x2 x3 _=>fun V σ vs=>binO V σ x0 x1 x2 x3 vs)
 (fun x0 x1 x2=>fun V σ vs=>doOp V σ (.unOp x0 x1 x2) vs)
 (fun x0 x1 x2=>fun V σ vs=>doOp V σ (.convert x0 x1 x2) vs)
 (fun x0 x1=>fun V σ vs=>doOp V σ (.sliceToArrayPointer x0 x1) vs)
 (fun x0 x1=>fun V σ vs=>doOp V σ (.makeInterface x0 x1) vs)
 (fun x0 x1 _=>fun _ σ vs=>funcO σ x0 x1 vs)
 (fun x0 x1=>fun V σ vs=>doOp V σ (.makeMap x0 x1) vs)
 (fun x0 x1=>fun V σ vs=>doOp V σ (.makeChan x0 x1) vs)
 (fun x0 x1 x2=>fun V σ vs=>doOp V σ (.makeSlice x0 x1 x2) vs)
 (fun x0 x1 x2 x3 x4=>fun V σ vs=>doOp V σ (.slice x0 x1 x2 x3 x4) vs)
 (fun x0 _ x2=>fun V σ vs=>fieldO V σ x0 x2 vs)
 (fun x0 x1 x2=>fun V σ vs=>doOp V σ (.field x0 x1 x2) vs)
 (fun x0 x1 x2=>fun V σ vs=>doOp V σ (.indexAddr x0 x1 x2) vs)
 (fun x0 x1 x2=>fun V σ vs=>doOp V σ (.index x0 x1 x2) vs)
 (fun x0 x1 x2 x3=>fun V σ vs=>doOp V σ (.lookup x0 x1 x2 x3) vs)
 (fun x0 x1 x2 x3=>fun V σ vs=>doOp V σ (.mapUpdate x0 x1 x2 x3) vs)
 (fun x0 x1 x2=>fun V σ vs=>doOp V σ (.mapEntry x0 x1 x2) vs)
 (fun x0 x1 x2 x3=>fun V σ vs=>doOp V σ (.entryStore x0 x1 x2 x3) vs)
 (fun x0 x1=>fun V σ vs=>doOp V σ (.range x0 x1) vs)
 (fun x0 x1=>fun V σ vs=>doOp V σ (.next x0 x1) vs)
 (fun x0=>fun V σ vs=>doOp V σ (.entry x0) vs)
 (fun x0 x1 x2 x3=>fun V σ vs=>doOp V σ (.typeAssert x0 x1 x2 x3) vs)
 (fun _ x1=>fun _ σ vs=>extractO σ x1 vs)
 (fun x0=>callOpF x0)
 (fun x0=>fun V σ vs=>doOp V σ (.go x0) vs)
 (fun x0=>fun V σ vs=>doOp V σ (.defer x0) vs)
 (fun x0=>fun V σ vs=>doOp V σ (.panic x0) vs)
 (fun x0 x1=>fun V σ vs=>doOp V σ (.send x0 x1) vs)
 (fun x0 x1 x2=>fun V σ vs=>doOp V σ (.recv x0 x1 x2) vs)
 (fun x0 x1=>fun V σ vs=>doOp V σ (.select x0 x1) vs)
theorem doOpF_eq (op:Op) (V:VP) (σ:St) (vs:List LV):doOpF op V σ vs=doOp V σ op vs:=by
 cases op <;> try rfl
 case move x=>rcases vs with _|⟨v,_|⟨u,r⟩⟩ <;> rfl
 case assign x=>rcases vs with _|⟨v,_|⟨u,r⟩⟩ <;> rfl
 case pick x y z=>
  change pickF σ vs=_
  rcases vs with _|⟨v,_|⟨u,_|⟨t,_|⟨s,r⟩⟩⟩⟩ <;> try rfl
  all_goals (cases v <;> rfl)
 case alloc e=>
  change allocO V σ e vs=_
  cases vs with
  |nil=>
   unfold allocO
   rw [Tr.getF_eq]
   simp only [newF_eq]
   rfl
  |cons x r=>rfl
 case box e x=>
  change boxO σ e vs=_
  rcases vs with _|⟨v,_|⟨u,r⟩⟩ <;> try rfl
  unfold boxO
  simp only [newF_eq,cellsF_eq]
  rfl
 case load t a=>
  change loadO V σ t vs=_
  rcases vs with _|⟨v,_|⟨u,r⟩⟩ <;> try rfl
  change vOfF σ (loadF V σ t v)=_
  rw [loadF_eq,vOfF_eq]
  rfl
 case store t a b=>
  change storeO V σ t vs=_
  rcases vs with _|⟨v,_|⟨u,_|⟨w,r⟩⟩⟩ <;> try rfl
  change (match storeF V σ t v u with|some σ=>some (ORes.skip σ)|none=>none)=_
  rw [storeF_eq]
  rfl
 case nilCheck x0=>
  change nilO V σ x0 vs=_
  rcases vs with _|⟨v,_|⟨u,r⟩⟩ <;> try rfl
  cases v <;> rfl
 case binOp op t x y yt=>
  change binO V σ op t x y vs=_
  rcases vs with _|⟨v,_|⟨u,_|⟨w,r⟩⟩⟩ <;> try rfl
  change vOfF σ (binF op V σ t (isConstO x||isConstO y) v u)=_
  rw [binF_eq,vOfF_eq]
  rfl
 case fieldAddr s x f=>
  change fieldO V σ s f vs=_
  rcases vs with _|⟨v,_|⟨u,r⟩⟩ <;> try rfl
  change (match fieldOf V s f with|some f=>vOfF σ (fieldPF V v f)|none=>none)=_
  simp only [vOfF_eq]
  cases v <;> rfl
 case extract t i=>
  change extractO σ i vs=_
  rcases vs with _|⟨v,_|⟨u,r⟩⟩ <;> try rfl
  all_goals (cases v <;> rfl)
 case call c=>exact callOpF_eq c V σ vs
noncomputable def pureF:Op→Bool:=
 @Op.rec (fun _=>Bool)
 (fun _=>true)
 (fun _=>true)
 (fun _ _ _=>true)
 (fun _=>false)
 (fun _ _=>false)
 (fun _ _=>true)
 (fun _ _ _=>false)
 (fun _ _ _ _=>false)
 (fun _ _=>false)
 (fun _ _ _=>false)
 (fun _=>false)
 (fun _=>false)
 (fun _=>true)
 (fun _ _ _ _ _=>false)
 (fun _ _ _=>true)
 (fun _ _ _=>false)
 (fun _ _=>false)
 (fun _ _=>true)
 (fun _ _ _=>true)
 (fun _ _=>false)
 (fun _ _=>false)
 (fun _ _ _=>false)
 (fun _ _ _ _ _=>true)
 (fun _ _ _=>true)
 (fun _ _ _=>true)
 (fun _ _ _=>true)
 (fun _ _ _=>true)
 (fun _ _ _ _=>false)
 (fun _ _ _ _=>false)
 (fun _ _ _=>false)
 (fun _ _ _ _=>false)
 (fun _ _=>false)
 (fun _ _=>false)
 (fun _=>false)
 (fun _ _ _ _=>true)
 (fun _ _=>true)
 (fun _=>false)
 (fun _=>false)
 (fun _=>false)
 (fun _=>false)
 (fun _ _=>false)
 (fun _ _ _=>false)
 (fun _ _=>false)
theorem pureF_eq (o:Op):pureF o=pureOp o:=by cases o <;> rfl
noncomputable def readF:Op→VP→Bool:=
 @Op.rec (fun _=>VP→Bool)
 (fun _=>fun _=>false)
 (fun _=>fun _=>false)
 (fun _ _ _=>fun _=>false)
 (fun _=>fun _=>false)
 (fun _ _=>fun _=>false)
 (fun _ _=>fun _=>false)
 (fun _ _ _=>fun _=>false)
 (fun _ _ _ _=>fun _=>false)
 (fun _ _=>fun _=>true)
 (fun _ _ _=>fun _=>false)
 (fun _=>fun _=>false)
 (fun _=>fun _=>false)
 (fun _=>fun _=>false)
 (fun _ _ _ _ _=>fun _=>true)
 (fun _ _ _=>fun _=>false)
 (fun x0 x1 x2=>fun V=>readOp V (.convert x0 x1 x2))
 (fun _ _=>fun _=>false)
 (fun _ _=>fun _=>false)
 (fun _ _ _=>fun _=>false)
 (fun _ _=>fun _=>false)
 (fun _ _=>fun _=>false)
 (fun _ _ _=>fun _=>false)
 (fun _ _ _ _ _=>fun _=>false)
 (fun _ _ _=>fun _=>false)
 (fun _ _ _=>fun _=>false)
 (fun _ _ _=>fun _=>false)
 (fun _ _ _=>fun _=>false)
 (fun _ _ _ _=>fun _=>true)
 (fun _ _ _ _=>fun _=>false)
 (fun _ _ _=>fun _=>false)
 (fun _ _ _ _=>fun _=>false)
 (fun _ _=>fun _=>false)
 (fun _ _=>fun _=>false)
 (fun _=>fun _=>false)
 (fun _ _ _ _=>fun _=>false)
 (fun _ _=>fun _=>false)
 (fun x0=>fun V=>readOp V (.call x0))
 (fun _=>fun _=>false)
 (fun _=>fun _=>false)
 (fun _=>fun _=>false)
 (fun _ _=>fun _=>false)
 (fun _ _ _=>fun _=>false)
 (fun _ _=>fun _=>false)
theorem readF_eq (V:VP) (o:Op):readF o V=readOp V o:=by cases o <;> rfl
noncomputable def quietF (V:VP) (o:Op):Bool:=pureF o||readF o V
theorem quietF_eq (V:VP) (o:Op):quietF V o=quiet V o:=by unfold quietF quiet;rw [pureF_eq,readF_eq]
noncomputable def setArgsF:List LV→Nat→Tr LV→Tr LV:=@List.rec LV (fun _=>Nat→Tr LV→Tr LV) (fun _ t=>t) (fun v _ ih n t=>ih (n+1) (t.putF n v))
theorem setArgsF_eq:∀ (l:List LV) (n:Nat) (t:Tr LV),setArgsF l n t=setArgs l n t
 |[],n,t=>rfl
 |v::r,n,t=>by
  change setArgsF r (n+1) (t.putF n v)=setArgs r (n+1) (t.put n v)
  rw [setArgsF_eq r,Tr.putF_eq]
noncomputable def putOF (a:LAct) (dst:Option Tmp) (v:LV):Option LAct:=@Option.rec Tmp (fun _=>Option LAct) (some a) (fun d=>a.putF d v) dst
theorem putOF_eq (a:LAct) (dst:Option Tmp) (v:LV):putOF a dst v=putO a dst v:=by cases dst <;> first|rfl|exact LAct.putF_eq a _ v
noncomputable def wantedF (ops:Array Oper) (a:LAct) (o:Oper):Option Bool:=@Option.rec (Nat×Bool) (fun _=>Option Bool) (some true) (fun _=>wantedL ops a o) o.guard
theorem wantedF_eq (ops:Array Oper) (a:LAct) (o:Oper):wantedF ops a o=wantedL ops a o:=by
 unfold wantedF
 cases h:o.guard with
 |none=>unfold wantedL;rw [h]
 |some g=>rfl
noncomputable def doneF (C:CallF):ORes→Option (LV×St×Option Dfr):=@ORes.rec (fun _=>Option (LV×St×Option Dfr)) (fun v σ=>some (v,σ,none)) (fun σ=>some (undef,σ,none))
 (fun f args σ=>match C f args σ with
  |some (v,σ)=>some (v,σ,none)
  |none=>none) (fun d σ=>some (undef,σ,some d))
noncomputable def outF (V:VP) (C:CallF) (ops:Array Oper) (a:LAct) (σ:St) (o:Oper):Option (LV×St×Option Dfr):=
 @Option.rec Bool (fun _=>Option (LV×St×Option Dfr)) none (fun b=>@Bool.rec (fun _=>Option (LV×St×Option Dfr)) (some (undef,σ,none))
  (@Option.rec (List LV) (fun _=>Option (LV×St×Option Dfr)) none (fun vs=>@Option.rec ORes (fun _=>Option (LV×St×Option Dfr)) none (doneF C) (doOpF o.op V σ vs)) (evalsF o.op.operands.toList a)) b) (wantedF ops a o)
theorem outF_eq (V:VP) (C:CallF) (ops:Array Oper) (a:LAct) (σ:St) (o:Oper):outF V C ops a σ o=outL V C ops a σ o:=by
 unfold outF outL
 rw [wantedF_eq,evalsF_eq]
 cases wantedL ops a o with
 |none=>rfl
 |some b=>
  cases b with
  |false=>rfl
  |true=>
   change @Option.rec (List LV) (fun _=>Option (LV×St×Option Dfr)) none (fun vs=>@Option.rec ORes (fun _=>Option (LV×St×Option Dfr)) none (doneF C) (doOpF o.op V σ vs)) (evals a o.op.operands.toList)=_
   cases evals a o.op.operands.toList with
   |none=>rfl
   |some vs=>
    change @Option.rec ORes (fun _=>Option (LV×St×Option Dfr)) none (doneF C) (doOpF o.op V σ vs)=_
    rw [doOpF_eq]
    change _=(match doOp V σ o.op vs with
     |none=>none
     |some (.val v σ)=>some (v,σ,none)
     |some (.skip σ)=>some (undef,σ,none)
     |some (.enter f args σ)=>match C f args σ with
      |some (v,σ)=>some (v,σ,none)
      |none=>none
     |some (.defer d σ)=>some (undef,σ,some d))
    cases doOp V σ o.op vs with
    |none=>rfl
    |some r=>cases r <;> rfl
noncomputable def opsF (V:VP) (C:CallF) (ops:Array Oper):List Oper→LAct→St→Option (LAct×St):=@List.rec Oper (fun _=>LAct→St→Option (LAct×St)) (fun a σ=>some (a,σ))
 (fun o _ ih a σ=>@Option.rec (LV×St×Option Dfr) (fun _=>Option (LAct×St)) none (fun x=>@Prod.rec LV (St×Option Dfr) (fun _=>Option (LAct×St)) (fun v y=>@Prod.rec St (Option Dfr) (fun _=>Option (LAct×St))
  (fun σ d=>@Option.rec LAct (fun _=>Option (LAct×St)) none (fun a=>ih a σ) (putOF (@Option.rec Dfr (fun _=>LAct) a (fun d=>pushD a (some d)) d) o.dst v)) y) x) (outF V C ops a σ o))
theorem opsF_eq (V:VP) (C:CallF) (ops:Array Oper):∀ (l:List Oper) (a:LAct) (σ:St),opsF V C ops l a σ=opsL V C ops l a σ
 |[],a,σ=>rfl
 |o::r,a,σ=>by
  have ih:=opsF_eq V C ops r
  change @Option.rec (LV×St×Option Dfr) (fun _=>Option (LAct×St)) none (fun x=>@Prod.rec LV (St×Option Dfr) (fun _=>Option (LAct×St)) (fun v y=>@Prod.rec St (Option Dfr) (fun _=>Option (LAct×St))
   (fun σ d=>@Option.rec LAct (fun _=>Option (LAct×St)) none (fun a=>opsF V C ops r a σ) (putOF (@Option.rec Dfr (fun _=>LAct) a (fun d=>pushD a (some d)) d) o.dst v)) y) x) (outF V C ops a σ o)=_
  rw [outF_eq]
  unfold opsL
  cases outL V C ops a σ o with
  |none=>rfl
  |some x=>
   obtain ⟨v,σ1,d⟩:=x
   have e:(@Option.rec Dfr (fun _=>LAct) a (fun d=>pushD a (some d)) d)=pushD a d:=by cases d <;> rfl
   change @Option.rec LAct (fun _=>Option (LAct×St)) none (fun a=>opsF V C ops r a σ1) (putOF (@Option.rec Dfr (fun _=>LAct) a (fun d=>pushD a (some d)) d) o.dst v)=(match putO (pushD a d) o.dst v with|some a=>opsL V C ops r a σ1|none=>none)
   rw [e,putOF_eq]
   cases putO (pushD a d) o.dst v with
   |none=>rfl
   |some a1=>exact ih a1 σ1
noncomputable def walkF (V:VP) (C:CallF) (ops:Array Oper):List (Nat×Oper)→LAct→St→Option (List Rec×LAct×St):=@List.rec (Nat×Oper) (fun _=>LAct→St→Option (List Rec×LAct×St)) (fun a σ=>some ([],a,σ))
 (fun x _ ih a σ=>match outF V C ops a σ x.2 with
  |some (v,σ',none)=>(match putOF a x.2.dst v with
   |some a=>(match ih a σ' with
    |some (rs,a,τ)=>some (⟨x.1,x.2,v,σ⟩::rs,a,τ)
    |none=>none)
   |none=>none)
  |_=>none)
theorem walkF_eq (V:VP) (C:CallF) (ops:Array Oper):∀ (l:List (Nat×Oper)) (a:LAct) (σ:St),walkF V C ops l a σ=walkL V C ops l a σ
 |[],a,σ=>rfl
 |(i,o)::r,a,σ=>by
  change (match outF V C ops a σ o with|some (v,σ',none)=>(match putOF a o.dst v with|some a=>(match walkF V C ops r a σ' with|some (rs,a,τ)=>some ((⟨i,o,v,σ⟩:Rec)::rs,a,τ)|none=>none)|none=>none)|_=>none)=_
  simp only [outF_eq,putOF_eq,walkF_eq V C ops r]
  rfl
noncomputable def lineF (V:VP) (T:Tr Nat):List Rec→List Rec→Bool
 |_,[]=>true
 |l1,r::l2=>(quietF V r.o.op||allL (fun x=>quietF V x.o.op||Nat.testBit (maskOf T r.i) x.i) l1)&&lineF V T (r::l1) l2
theorem lineF_eq (V:VP) (T:Tr Nat):∀ (l1 l2:List Rec),lineF V T l1 l2=lineOk V T l1 l2
 |_,[]=>rfl
 |l1,r::l2=>by simp only [lineF,lineOk,quietF_eq,lineF_eq V T (r::l1) l2]
noncomputable def sameF (V:VP) (C:CallF) (ops:Array Oper) (A:LAct) (r:Rec) (σ:St):Bool:=
 match outF V C ops A σ r.o with
 |some (v,_,none)=>beqLV v r.v
 |_=>false
theorem sameF_eq (V:VP) (C:CallF) (ops:Array Oper) (A:LAct) (r:Rec) (σ:St):sameF V C ops A r σ=sameAt V C ops A r σ:=by
 unfold sameF sameAt
 rw [outF_eq];rfl
noncomputable def cutF (V:VP) (C:CallF) (ops:Array Oper) (T:Tr Nat) (A:LAct) (τ:St) (r:Rec) (l1 l2:List Rec):Bool:=
 (match l1 with|[]=>false|x::_=>quietF V x.o.op) ||
  !(allL (fun x=>quietF V x.o.op||!Nat.testBit (maskOf T x.i) r.i) l1&&allL (fun x=>quietF V x.o.op||!Nat.testBit (maskOf T r.i) x.i) l2) ||
  sameF V C ops A r (headS l2 τ)
theorem cutF_eq (V:VP) (C:CallF) (ops:Array Oper) (T:Tr Nat) (A:LAct) (τ:St) (r:Rec) (l1 l2:List Rec):cutF V C ops T A τ r l1 l2=cutHere V C ops T A τ r l1 l2:=by
 unfold cutF cutHere
 simp only [quietF_eq,sameF_eq]
 rfl
noncomputable def cutsF (V:VP) (C:CallF) (ops:Array Oper) (T:Tr Nat) (A:LAct) (τ:St) (r:Rec):List Rec→List Rec→Bool
 |l1,[]=>cutF V C ops T A τ r l1 []
 |l1,x::l2=>cutF V C ops T A τ r l1 (x::l2)&&cutsF V C ops T A τ r (x::l1) l2
theorem cutsF_eq (V:VP) (C:CallF) (ops:Array Oper) (T:Tr Nat) (A:LAct) (τ:St) (r:Rec):∀ (l1 l2:List Rec),cutsF V C ops T A τ r l1 l2=cutOk V C ops T A τ r l1 l2
 |l1,[]=>by simp only [cutsF,cutOk,cutF_eq]
 |l1,x::l2=>by simp only [cutsF,cutOk,cutF_eq,cutsF_eq V C ops T A τ r (x::l1) l2]
noncomputable def readsF (V:VP) (C:CallF) (ops:Array Oper) (T:Tr Nat) (A:LAct) (τ:St) (rs:List Rec):Bool:=
 allL (fun r=>pureF r.o.op||!readF r.o.op V||cutsF V C ops T A τ r [] rs) rs
theorem readsF_eq (V:VP) (C:CallF) (ops:Array Oper) (T:Tr Nat) (A:LAct) (τ:St) (rs:List Rec):readsF V C ops T A τ rs=readsOk V C ops T A τ rs:=by
 unfold readsF readsOk
 simp only [pureF_eq,readF_eq,cutsF_eq]
noncomputable def drawF (V:VP) (C:CallF) (ops:Array Oper) (a:LAct) (σ:St):Option (LAct×St):=
 cond (dataOk ops [] (orderL ops)&&masksOk (masksL (orderL ops) .nil) (orderL ops)&&cover (orderL ops) ops.size)
  (match walkF V C ops (orderL ops) a σ with
  |some (rs,A,τ)=>cond (lineF V (masksL (orderL ops) .nil) [] rs&&readsF V C ops (masksL (orderL ops) .nil) A τ rs) (some (A,τ)) none
  |none=>none) none
theorem drawF_eq (V:VP) (C:CallF) (ops:Array Oper) (a:LAct) (σ:St):drawF V C ops a σ=drawL V C ops a σ:=by
 unfold drawF drawL
 simp only [walkF_eq,lineF_eq,readsF_eq]
 rfl
noncomputable def stepF:Code→VP→CallF→Run→LAct→St→Option (LExit×LAct×St):=@Code.rec (fun _=>VP→CallF→Run→LAct→St→Option (LExit×LAct×St))
 (fun _ _ _ a σ=>some (.normal,a,σ))
 (fun _ ops draw V C _ a σ=>match (match draw with|true=>drawF V C ops a σ|false=>opsF V C ops ops.toList a σ) with
  |some (a,σ)=>some (.normal,a,σ)
  |none=>none)
 (fun x y _ _ _ _ E a σ=>match E x a σ with
  |some (.normal,a,σ)=>E y a σ
  |r=>r)
 (fun c x y _ _ _ _ E a σ=>match evalF c a with
  |some v=>(match asBool v with
   |some b=>cond b (E x a σ) (E y a σ)
   |none=>none)
  |none=>none)
 (fun id x _ _ _ E a σ=>match E x a σ with
  |some (.exit i,a,σ)=>cond (Nat.beq i id) (some (.normal,a,σ)) (some (.exit i,a,σ))
  |r=>r)
 (fun x _ _ _ E a σ=>match E x a σ with
  |some (.normal,a,σ)=>E (.loop x) a σ
  |r=>r)
 (fun _ _ _ _ _ _ _ _ _ _ _=>none)
 (fun id _ _ _ a σ=>some (.exit id,a,σ))
 (fun _ _ _ _ _ _ _=>none)
 (fun _ _ _ _ _ _=>none)
 (fun _ _ _ _ _ _=>none)
 (fun _ _ _ a σ=>some (.ret,a,σ))
 (fun _ _ _ _ _ _=>none)
theorem stepF_eq (V:VP) (C:CallF) (E:Run) (c:Code) (a:LAct) (σ:St):stepF c V C E a σ=stepL V C E c a σ:=by
 cases c <;> try rfl
 case region id ops draw=>
  change (match (match draw with|true=>drawF V C ops a σ|false=>opsF V C ops ops.toList a σ) with|some (a,σ)=>some (LExit.normal,a,σ)|none=>none)=_
  rw [drawF_eq,opsF_eq];rfl
 case cond c x y=>
  change (match evalF c a with|some v=>(match asBool v with|some b=>_root_.cond b (E x a σ) (E y a σ)|none=>none)|none=>none)=_
  rw [evalF_eq]
  change _=(match evalO a c with|some (.bool true)=>E x a σ|some (.bool false)=>E y a σ|_=>none)
  cases evalO a c with
  |none=>rfl
  |some v=>
   cases v <;> try rfl
   rename_i b
   cases b <;> rfl
noncomputable def execF (V:VP) (C:CallF):Nat→Run:=@Nat.rec (fun _=>Run) (fun _ _ _=>none) (fun _ ih c a σ=>stepF c V C ih a σ)
theorem execF_eq (V:VP) (C:CallF):∀ n,execF V C n=execL V C n
 |0=>rfl
 |n+1=>by
  funext c a σ
  change stepF c V C (execF V C n) a σ=stepL V C (execL V C n) c a σ
  rw [execF_eq V C n,stepF_eq]
noncomputable def bodyF (V:VP) (E:CallF→Run) (C:CallF) (D:CallF) (f:FuncId) (args:List LV) (σ:St):Option (LV×St):=
 match V.fn.getF f with
 |some fn=>
  match fn.body with
  |none=>none
  |some c=>
   cond (Nat.ble args.length fn.ntmps)
   (match E C c { n:=fn.ntmps,tmps:=setArgsF args 0 .nil,defers:=[] } σ with
   |some (.exit _,_,_)=>none
   |some (_,a,σ)=>
    match defersL V D a.defers σ with
    |none=>none
    |some σ=>
     match resL V σ a fn.results.toList with
     |some vs=>some (oneOr vs,σ)
     |none=>none
   |none=>none) none
 |none=>none
theorem bodyF_eq (V:VP) (E:CallF→Run) (C D:CallF):bodyF V E C D=bodyL V E C D:=by
 funext f args σ
 unfold bodyF bodyL
 simp only [Tr.getF_eq,setArgsF_eq]
 rfl
noncomputable def bothF (V:VP) (E:CallF→Run):Nat→CallF×CallF:=@Nat.rec (fun _=>CallF×CallF) (noCall,noCall)
 (fun _ ih=>(fun f args σ=>
  match V.sums f args σ with
  |some r=>some r
  |none=>
   cond (Nat.beq f V.guard)
    (match args with
    |.func (.func g) first captured::[]=>match newOb σ (.row V.gty [.bool false] .exact) with
     |(l,σ1)=>match enterL V σ1 g (first++captured) with
      |some (.enter f args σ1)=>match ih.1 f args σ1 with
       |some (_,σ2)=>match σ2.heap.get l with
        |some (.row e (.bool false::[]) .exact)=>cond (Nat.beq e V.gty) (some (.bool false,σ2)) none
        |_=>none
       |none=>none
      |_=>none
    |_=>none)
    (bodyF V E ih.1 ih.2 f args σ),
  fun f args σ=>bodyF V E ih.1 ih.2 f args σ))
theorem bothF_eq (V:VP) (E:CallF→Run):∀ d,bothF V E d=bothL V E d
 |0=>rfl
 |d+1=>by
  have ih:=bothF_eq V E d
  have e:bothF V E (d+1)=(fun f args σ=>
   match V.sums f args σ with
   |some r=>some r
   |none=>
    cond (Nat.beq f V.guard)
     (match args with
     |.func (.func g) first captured::[]=>match newOb σ (.row V.gty [.bool false] .exact) with
      |(l,σ1)=>match enterL V σ1 g (first++captured) with
       |some (.enter f args σ1)=>match (bothF V E d).1 f args σ1 with
        |some (_,σ2)=>match σ2.heap.get l with
         |some (.row e (.bool false::[]) .exact)=>cond (Nat.beq e V.gty) (some (.bool false,σ2)) none
         |_=>none
        |none=>none
       |_=>none
     |_=>none)
     (bodyF V E (bothF V E d).1 (bothF V E d).2 f args σ),
   fun f args σ=>bodyF V E (bothF V E d).1 (bothF V E d).2 f args σ):=rfl
  rw [e,ih,bodyF_eq]
  rfl
noncomputable def callF (V:VP) (n d:Nat):CallF:=(bothF V (fun C=>execF V C n) d).1
theorem callF_eq (V:VP) (n d:Nat):callF V n d=callL V (fun C=>execL V C n) d:=by
 unfold callF callL
 have:(fun C=>execF V C n)=(fun C=>execL V C n):=funext fun C=>execF_eq V C n
 rw [this,bothF_eq]
end Vx
