/- NewConverter and its plugins, by the executor. Conditions: those in each statement. -/
import Derived.Test.YtbheflncgmhadaaGreatXc
import Derived.Test.YtbheflncgmhadaaGreatXcc
import Derived.Test.YtbheflncgmhadaaGreatXd
import Derived.KernelRfl
import Derived.Test.YtbheflncgmhadaaGreatXh
set_option linter.unusedVariables false
set_option linter.unusedSimpArgs false
set_option maxHeartbeats 40000000
set_option maxRecDepth 100000
namespace Vx
open Go Go.Proofs Go.RowKit Go.Proofs.YtbheflncgmhadaaGreat.Hand
set_option maxRecDepth 1000000
theorem noSum_ok {V:VP} {P:Program} {s:Atoms}:CallsOk V P s noCall:=fun _ _ _ _ _ _ _ _ _ _ _ _ h=>by cases h
theorem noExt_ok {V:VP} {P:Program} {s:Atoms} (h:V.exts=noCall):ExtsOk V P s:=fun _ _ _ _ _ _ _ _ _ _ _ _ hx=>by rw [h] at hx;cases hx
noncomputable def tyN:Tr TI:=Tr.full (tyOf Tryz.prog) 10 1 0
noncomputable def fnN:Tr Func:=Tr.full (fun f=>Tryz.prog.funcs[f]?) 10 1 0
def factsN:Facts:={ nonempty:=[],amax:=0,differ:=[] }
noncomputable def VN:VP:={ ty:=tyN,fn:=fnN,facts:=factsN,sums:=noCall,exts:=noCall,guard:=14,gty:=4,bty:=5 }
def atomsN:Atoms:={ txt:=fun _=>[],tied:=fun _ _=>True }
theorem namesN:Tryz.prog.funcs.toList.all (fun g=>!(g.name == "runtime.NumGoroutine"))=true:=by kernel_rfl
theorem VN_ok:VN.Ok Tryz.prog atomsN:=
 {
  ty:=fun t i h=>by
   have:=Tr.get_full (tyOf Tryz.prog) 10 1 0 t i h
   simpa using this
  fn:=fun f g h=>by
   have:=Tr.get_full (fun f=>Tryz.prog.funcs[f]?) 10 1 0 f g h
   simp only [Nat.one_mul,Nat.add_zero] at this
   refine ⟨this,?_⟩
   have hm:g∈Tryz.prog.funcs.toList:=Array.mem_toList_iff.2 (Array.mem_of_getElem? this)
   have:=List.all_eq_true.1 namesN g hm
   simpa using this
  facts:=⟨(fun i h=>by have:memNat i []=true:=h;cases this),(fun i=>Nat.le_refl _),(fun x y h=>by have:memPair x y []=true:=h;cases this)⟩ }
theorem guardN:GuardOk Tryz.prog 14 4:=fun g first cap w R hg h=>guarded_calls g first cap w R hg h
theorem mixedN:Tryz.prog.follows .mixedOrders=true:=by kernel_rfl
theorem run_calls {f:FuncId} {args:List LV} {σ σ':St} {v:LV} (hc:callF VN 100000 60 f args σ=some (v,σ')) {base:Nat} {w0 w:World} {ρ:Rho} {av:Array Value} (hw:RW VN atomsN base w0 ρ σ w) (ha:RVs atomsN ρ args av.toList):
  Calls Tryz.prog f av w fun e w'=>∃ x ρ',e=.returned x∧ρ <+: ρ'∧RW VN atomsN base w0 ρ' σ' w'∧RV atomsN ρ' v x:=by
 rw [callF_eq] at hc
 have hX:ExtsOk VN Tryz.prog atomsN:=noExt_ok rfl
 have hE:∀ C,CallsOk VN Tryz.prog atomsN C→RunOk VN Tryz.prog atomsN (execL VN C 100000):=fun C hC=>exec_ok VN_ok hX mixedN hC 100000
 exact call_ok VN_ok hX hE noSum_ok guardN 60 base w0 ρ σ w f args av v σ' hw ha hc
def cmCells:List LV:=[.str [.lit [42]],.str [.lit [42,42]],.str [.lit [42,32,42,32,42]],.str [.lit [45]],.bool false,.str [.lit [96,96,96]],.str [.lit [97,116,120]],.str [.lit [105,110,108,105,110,101,100]],.str [.lit [114,101,110,100,101,114]],.str [.lit [114,101,110,100,101,114]]]
theorem run_commonmark:(callF VN 100000 60 18 [.nils] { heap:=.nil,next:=0 }).map (fun r=>(r.1,r.2.heap.get 2))=some (.iface 83 (.ptr 2 0),some (.row 82 cmCells .exact)):=by kernel_rfl
def tpCells (sp nl pd:Txt) (b1 b2 b3:Bool):List LV:=[.nili,.str sp,.str nl,.bool b1,.bool b2,.bool b3,.str pd]
def boxC:List LV:=[.int .i64 3,.str [],.str [],.nils,.slice 7 0 5 1]
def startC (sp nl pd:Txt) (b1 b2 b3:Bool):St:={ next:=8,heap:=((((((Tr.nil.put 0 (Ob.row 82 cmCells .exact)).put 1 (.row 168 (tpCells sp nl pd b1 b2 b3) .exact)).put 2 (.row 70 [] .exact)).put 3
 (.row 46 [.iface 71 (.ptr 2 0),.iface 83 (.ptr 0 0),.iface 166 (.ptr 1 0)] .exact)).put 4 (.row 50 [.slice 3 0 1 3] .exact)).put 5 (.row 58 [.func (.func 39) [] [.ptr 4 0]] .exact)).put 6 (.row 33 boxC .exact) }
def f0 (f:FuncId) (first:List LV):LV:=.func (.func f) first []
def i64 (n:Int):LV:=.int .i64 n
def marksC:List Int:=[92,42,95,45,43,46,62,124,36,35,61,91,93,40,41,33,126,96,34,39]
def tagsC:List (List UInt8×Nat):=[([35,99,111,109,109,101,110,116],16),([104,101,97,100],20),([115,99,114,105,112,116],24),([115,116,121,108,101],28),([108,105,110,107],32),([109,101,116,97],36),([105,102,114,97,109,101],40),([110,111,115,99,114,105,112,116],44),([105,110,112,117,116],48),([116,101,120,116,97,114,101,97],52)]
def wantC (sp nl pd:Txt) (b1 b2 b3:Bool):List (Nat×Option Ob):=[
 (10,some (.row 112 [.nili,.slice 146 0 1 3,.slice 87 0 2 4,.slice 151 0 2 2,.slice 144 0 2 3,.slice 140 0 2 2,.map 8,.slice 132 0 2 11,.map 9,.str [],.ptr 10 0] .exact)),
 (146,some (.row 9 [.str [.lit [98,97,115,101]],.str [.lit [99,111,109,109,111,110,109,97,114,107]],.str [.lit [116,97,98,108,101]]] .spare)),
 (87,some (.row 141 [f0 133 [.ptr 2 0],i64 100,f0 134 [.ptr 2 0],i64 1000,f0 187 [.ptr 0 0],i64 500,.func (.func 188) [] [.ptr 75 0],i64 1100] .spare)),
 (151,some (.row 194 [f0 204 [.ptr 0 0],i64 500,f0 403 [.ptr 1 0],i64 500] .spare)),
 (144,some (.row 154 [f0 138 [.ptr 2 0],i64 500,f0 139 [.ptr 2 0],i64 520,f0 205 [.agg cmCells],i64 1000] .spare)),
 (140,some (.row 207 [f0 136 [.ptr 2 0],i64 500,f0 183 [.agg cmCells],i64 1000] .spare)),
 (8,some (.map (marksC.map fun n=>(.int .i32 n,.iface 69 (.agg []))))),
 (9,some (.map (tagsC.map fun x=>(.str [.lit x.1],.slice x.2 0 2 1)))),
 (75,some (.row 83 [.ptr 0 0] .exact)),
 (0,some (.row 82 cmCells .exact)),
 (1,some (.row 168 (tpCells sp nl pd b1 b2 b3) .exact)),
 (6,some (.row 33 boxC .exact))]
theorem run_converter (sp nl pd:Txt) (b1 b2 b3:Bool):(callF VN 100000 60 24 [.slice 5 0 1 1] (startC sp nl pd b1 b2 b3)).map (fun r=>(r.1,(wantC sp nl pd b1 b2 b3).map fun x=>(x.1,r.2.heap.get x.1)))=some (.ptr 10 0,wantC sp nl pd b1 b2 b3):=by kernel_rfl
end Vx
namespace Vx
open Go Go.Proofs Go.RowKit Go.Proofs.YtbheflncgmhadaaGreat.Hand
set_option maxRecDepth 1000000
theorem row_cells {V:VP} {s:Atoms} {base:Nat} {w0:World} {ρ:Rho} {σ:St} {w:World} (hw:RW V s base w0 ρ σ w) {l:Nat} {e:TypeId} {cs:List LV} {k:RK} (hl:σ.heap.get l=some (.row e cs k)):
  ∃ b K,ρ[l]?=some (.row b K)∧b < w.heap.size∧∀ j v,cs[j]?=some v→∃ x,w.cell? ⟨b,j,none⟩=some x∧RV s ρ v x:=by
 obtain ⟨bd,h1,h2⟩:=hw.ob l _ hl
 obtain ⟨b,K,c,sp,fr,rfl,q1,q2,q3,q4⟩:=h2
 refine ⟨b,K,h1,(hw.low l _ _ b hl h1 rfl).2,fun j v hj=>?_⟩
 obtain ⟨x,hx,hv⟩:=rvs_get q2 j v hj
 refine ⟨x,?_,hv⟩
 rw [row_cell q1]
 have hlt:j < c.size:=by
  rw [← Array.length_toList]
  exact (List.getElem?_eq_some_iff.1 hx).1
 rw [Array.getElem?_append_left hlt,← Array.getElem?_toList]
 exact hx
theorem lit_str {s:Atoms} {ρ:Rho} {l:List UInt8} {x:Value} (h:RV s ρ (.str [.lit l]) x):x=.string ⟨l.toArray⟩:=by
 obtain ⟨b,rfl,hb⟩:=h
 simp only [den,List.append_nil] at hb
 rw [← hb]
theorem f0_val {s:Atoms} {ρ:Rho} {f l:Nat} {b K:Nat} {x:Value} (hρ:ρ[l]?=some (.row b K)) (h:RV s ρ (f0 f [.ptr l 0]) x):x=.func (.func f) #[.pointer (some ⟨b,0,none⟩)] #[]:=by
 obtain ⟨f',c',rfl,⟨y,ys,e1,⟨b2,K2,hb2,rfl⟩,hy⟩,hc⟩:=h
 rw [hρ] at hb2
 cases hb2
 have hy':ys=[]:=hy
 have hc':c'.toList=[]:=hc
 subst hy'
 have:f'=#[.pointer (some ⟨b,0,none⟩)]:=by apply Array.ext';simpa using e1
 have hc2:c'=#[]:=by apply Array.ext';simpa using hc'
 rw [this,hc2]
def noRef:LV→Bool
 |.bool _=>true
 |.int _ _=>true
 |.str _=>true
 |.nili=>true
 |_=>false
theorem noRef_any {ρ:Rho}:∀ (l:List LV) {vs:List Value},l.all noRef=true→RVs atomsN ρ l vs→RVs atomsN [] l vs
 |[],_,_,h=>h
 |x::l,vs,hx,h=>by
  obtain ⟨v,vs',rfl,h1,h2⟩:=h
  simp only [List.all_cons,Bool.and_eq_true] at hx
  refine ⟨v,vs',rfl,?_,noRef_any l hx.2 h2⟩
  cases x <;> first|exact h1|cases hx.1
theorem fagg_val {s:Atoms} {ρ:Rho} {f:Nat} {cs:List LV} {x:Value} (h:RV s ρ (f0 f [.agg cs]) x):∃ arr,x=.func (.func f) #[.agg arr] #[]∧RVs s ρ cs arr.toList:=by
 obtain ⟨f',c',rfl,⟨y,ys,e1,⟨arr,rfl,ha⟩,hy⟩,hc⟩:=h
 have hy':ys=[]:=hy
 have hc':c'.toList=[]:=hc
 subst hy'
 refine ⟨arr,?_,ha⟩
 have:f'=#[.agg arr]:=by apply Array.ext';simpa using e1
 have hc2:c'=#[]:=by apply Array.ext';simpa using hc'
 rw [this,hc2]
end Vx
namespace Go.Proofs.YtbheflncgmhadaaGreat.Hand
open Go.RowKit
def Handlers (w:World) (C off:Nat) (l:List (Value×Int)):Prop:=∃ g c,w.cell? ⟨C,off,none⟩=some (.slice (some ⟨g,0,none⟩) l.length c)∧l.length≤c∧∀ j v n,l[j]?=some (v,n)→w.cell? ⟨g,2 * j,none⟩=some v∧w.cell? ⟨g,2 * j+1,none⟩=some (.int .i64 n)
def pf (f b:Nat):Value:=.func (.func f) #[.pointer (some ⟨b,0,none⟩)] #[]
def NoKey (w:World) (C off mt:Nat) (ks:Value→Prop):Prop:=∃ mb,w.cell? ⟨C,off,none⟩=some (.map (some mb))∧∀ k,ks k→∃ v,(Instr.lookup mt (.map (some mb)) k true).run Tryz.prog w=.ok (.tuple #[v,.bool false]) w
structure ConvCore (w:World) (C cm tp bs:Nat):Prop where
 err:w.cell? ⟨C,0,none⟩=some .nilIface
 plugins:∃ g c,w.cell? ⟨C,1,none⟩=some (.slice (some ⟨g,0,none⟩) 3 c)∧3≤c∧w.cell? ⟨g,0,none⟩=some (.string ⟨#[98,97,115,101]⟩)∧w.cell? ⟨g,1,none⟩=some (.string ⟨#[99,111,109,109,111,110,109,97,114,107]⟩)∧w.cell? ⟨g,2,none⟩=some (.string ⟨#[116,97,98,108,101]⟩)
 pre:∃ bm,Handlers w C 2 [(pf 133 bs,100),(pf 134 bs,1000),(pf 187 cm,500),(.func (.func 188) #[] #[.pointer (some ⟨bm,0,none⟩)],1100)]∧w.cell? ⟨bm,0,none⟩=some (.pointer (some ⟨cm,0,none⟩))
 render:Handlers w C 3 [(pf 204 cm,500),(pf 403 tp,500)]
 post:∃ arr,Vx.RVs Vx.atomsN [] Vx.cmCells arr.toList∧Handlers w C 4 [(pf 138 bs,500),(pf 139 bs,520),(.func (.func 205) #[.agg arr] #[],1000)]
 text:∃ arr,Vx.RVs Vx.atomsN [] Vx.cmCells arr.toList∧Handlers w C 5 [(pf 136 bs,500),(.func (.func 183) #[.agg arr] #[],1000)]
 marks:NoKey w C 6 96 (fun k=>∃ n,Wordy n∧k=.int .i32 n)
 tags:NoKey w C 8 97 tagNames
 mode:w.cell? ⟨C,9,none⟩=some (.string ⟨#[]⟩)
 cmf:w.cell? ⟨cm,4,none⟩=some (.bool false)
def ConvQ (N:Nat) (w:World) (C cm tp bs:Nat):Prop:=∀ w',Below N w w'→ConvCore w' C cm tp bs
theorem ConvQ.now {N:Nat} {w:World} {C cm tp bs:Nat} (h:ConvQ N w C cm tp bs):ConvCore w C cm tp bs:=h w (Below.refl _ _)
end Go.Proofs.YtbheflncgmhadaaGreat.Hand
namespace Vx
open Go Go.Proofs Go.RowKit Go.Proofs.YtbheflncgmhadaaGreat.Hand
set_option linter.unusedVariables false
set_option linter.unusedSimpArgs false
set_option maxRecDepth 1000000
theorem handlers_of {V:VP} {s:Atoms} {base:Nat} {w0:World} {ρ:Rho} {σ:St} {w:World} (hw:RW V s base w0 ρ σ w) {lc off e1 e2 l n:Nat} {C K:Nat} {cs hs:List LV} {k k2:RK} (hC:ρ[lc]?=some (.row C K)) (hc:σ.heap.get lc=some (.row e1 cs k)) (ho:cs[off]?=some (.slice l 0 2 n)) (hl:σ.heap.get l=some (.row e2 hs k2))
  {vs:List (Value×Int)} (hn:vs.length=n) (hv:∀ j v m,vs[j]?=some (v,m)→∃ x,hs[2 * j]?=some x∧(∀ y,RV s ρ x y→y=v)∧hs[2 * j+1]?=some (.int .i64 m)):Handlers w C off vs:=by
 obtain ⟨b,K1,h1,h2,h3⟩:=row_cells hw hc
 rw [hC] at h1;cases h1
 obtain ⟨x,hx,b2,K2,hb2,hle,rfl⟩:=h3 off _ ho
 obtain ⟨g,K3,g1,g2,g3⟩:=row_cells hw hl
 rw [hb2] at g1;cases g1
 refine ⟨b2,K2 - 0,by rw [hn];simpa using hx,by omega,fun j v m hj=>?_⟩
 obtain ⟨x,p1,p2,p3⟩:=hv j v m hj
 obtain ⟨y,y1,y2⟩:=g3 _ _ p1
 obtain ⟨z,z1,z2⟩:=g3 _ _ p3
 simp only [RV] at z2
 subst z2
 exact ⟨by rw [y1,p2 y y2],z1⟩
end Vx
namespace Vx
open Go Go.Proofs Go.RowKit Go.Proofs.YtbheflncgmhadaaGreat.Hand
set_option maxRecDepth 1000000
theorem ba_ext {a b:ByteArray} (h:a.data.toList=b.data.toList):a=b:=by
 cases a;cases b;simp at h;rw [h]
mutual
theorem RV.uniq {s:Atoms} {ρ:Rho}:∀ {x:LV} {v v':Value},RV s ρ x v→RV s ρ x v'→v=v'
 |.bool _,v,v',h,h'=>by simp only [RV] at h h';rw [h,h']
 |.int _ _,v,v',h,h'=>by simp only [RV] at h h';rw [h,h']
 |.str _,v,v',h,h'=>by obtain ⟨b,rfl,hb⟩:=h;obtain ⟨b',rfl,hb'⟩:=h';rw [ba_ext (hb.trans hb'.symm)]
 |.len _,v,v',h,h'=>by simp only [RV] at h h';rw [h,h']
 |.nilp,v,v',h,h'=>by simp only [RV] at h h';rw [h,h']
 |.ptr _ _,v,v',h,h'=>by obtain ⟨b,K,h1,rfl⟩:=h;obtain ⟨b',K',h1',rfl⟩:=h';rw [h1] at h1';cases h1';rfl
 |.gptr _ _,v,v',h,h'=>by simp only [RV] at h h';rw [h,h']
 |.nils,v,v',h,h'=>by simp only [RV] at h h';rw [h,h']
 |.slice _ _ _ _,v,v',h,h'=>by obtain ⟨b,K,h1,_,rfl⟩:=h;obtain ⟨b',K',h1',_,rfl⟩:=h';rw [h1] at h1';cases h1';rfl
 |.bsl _ _,v,v',h,h'=>by obtain ⟨h1,_⟩:=h;obtain ⟨h1',_⟩:=h';rw [h1] at h1';cases h1';rfl
 |.nilm,v,v',h,h'=>by simp only [RV] at h h';rw [h,h']
 |.map _,v,v',h,h'=>by obtain ⟨b,K,h1,rfl⟩:=h;obtain ⟨b',K',h1',rfl⟩:=h';rw [h1] at h1';cases h1';rfl
 |.func _ _ _,v,v',h,h'=>by
  obtain ⟨f,c,rfl,h1,h2⟩:=h;obtain ⟨f',c',rfl,h1',h2'⟩:=h'
  have e1:f=f':=Array.ext' (RVs.uniq h1 h1')
  have e2:c=c':=Array.ext' (RVs.uniq h2 h2')
  rw [e1,e2]
 |.nilf,v,v',h,h'=>by simp only [RV] at h h';rw [h,h']
 |.iface _ _,v,v',h,h'=>by obtain ⟨x,rfl,h1⟩:=h;obtain ⟨x',rfl,h1'⟩:=h';rw [RV.uniq h1 h1']
 |.nili,v,v',h,h'=>by simp only [RV] at h h';rw [h,h']
 |.agg _,v,v',h,h'=>by
  obtain ⟨a,rfl,h1⟩:=h;obtain ⟨a',rfl,h1'⟩:=h'
  have e:a=a':=Array.ext' (RVs.uniq h1 h1')
  rw [e]
 |.tuple _,v,v',h,h'=>by
  obtain ⟨a,rfl,h1⟩:=h;obtain ⟨a',rfl,h1'⟩:=h'
  have e:a=a':=Array.ext' (RVs.uniq h1 h1')
  rw [e]
theorem RVs.uniq {s:Atoms} {ρ:Rho}:∀ {x:List LV} {v v':List Value},RVs s ρ x v→RVs s ρ x v'→v=v'
 |[],v,v',h,h'=>by simp only [RVs] at h h';rw [h,h']
 |_::_,v,v',h,h'=>by
  obtain ⟨y,ys,rfl,h1,h2⟩:=h;obtain ⟨y',ys',rfl,h1',h2'⟩:=h'
  rw [RV.uniq h1 h1',RVs.uniq h2 h2']
end
theorem rv_one {s:Atoms} {ρ:Rho} {x:LV} {v v':Value} (h:RV s ρ x v) (h':RV s ρ x v'):v=v':=RV.uniq h h'
def TM:TypeId:=96
def TT:TypeId:=97
noncomputable def mapTy (V:VP) (t:TypeId) (p:TypeDesc→Bool):Bool:=match V.ty.get t with
 |some j=>match j.und with
  |.map kt e=>(match V.ty.get kt with
   |some kd=>p kd.und
   |none=>false)&&(match V.ty.get e with
   |some _=>true
   |none=>false)
  |_=>false
 |none=>false
theorem mapTy_of {V:VP} {t:TypeId} {p:TypeDesc→Bool} (h:mapTy V t p=true):∃ j kt e kd i,V.ty.get t=some j∧j.und=.map kt e∧V.ty.get kt=some kd∧V.ty.get e=some i∧p kd.und=true:=by
 unfold mapTy at h
 split at h
 case h_2=>cases h
 rename_i j hj
 split at h
 case h_2=>cases h
 rename_i kt e he
 simp only [Bool.and_eq_true] at h
 obtain ⟨p1,p2⟩:=h
 split at p1
 case h_2=>cases p1
 rename_i kd hkd
 split at p2
 case h_2=>cases p2
 rename_i i hi
 exact ⟨j,kt,e,kd,i,hj,he,hkd,hi,p1⟩
def isI32:TypeDesc→Bool|.int .i32=>true|_=>false
def isStr:TypeDesc→Bool|.string=>true|_=>false
theorem tyM:mapTy VN TM isI32=true:=by kernel_rfl
theorem tyT:mapTy VN TT isStr=true:=by kernel_rfl
theorem noKey_run {base:Nat} {w0:World} {ρ:Rho} {σ:St} {w:World} (hw:RW VN atomsN base w0 ρ σ w) {t kt e:TypeId} {j kd i:TI} (hj:VN.ty.get t=some j) (hje:j.und=.map kt e) (hkd:VN.ty.get kt=some kd) (hi:VN.ty.get e=some i)
  {m mb K:Nat} (hm:ρ[m]?=some (.row mb K)) {k:LV} {b:Value} (hk:RV atomsN ρ k b) (hok:keyOk kd.und k=true) (hr:mapRead VN σ kd.und (.map m) k=some none):
  ∃ v,(Instr.lookup t (.map (some mb)) b true).run Tryz.prog w=.ok (.tuple #[v,.bool false]) w:=by
 obtain ⟨v,l1,l2⟩:=lookup_ok VN_ok hw (x:=.map m) (a:=.map (some mb)) hj hje hkd hi ⟨mb,K,hm,rfl⟩ hk hok hr true
 obtain ⟨arr,rfl,z,zs,ez,_,z1,zs1,ez1,hb2,hnil⟩:=l2
 simp only [RV] at hb2
 have hn:zs1=[]:=hnil
 subst hn ez1 hb2
 have:arr=#[z,.bool false]:=by apply Array.ext';simpa using ez
 subst this
 exact ⟨z,l1⟩
theorem find_ints {V:VP} {v:LV} {r:Int}:∀ {L:List Int},r∉L→findE V (.int .i32) (.int .i32 r) (L.map fun n=>(.int .i32 n,v))=some none
 |[],_=>rfl
 |n::L,h=>by
  have hne:(r==n)=false:=beq_eq_false_iff_ne.mpr fun e=>h (by rw [e];exact List.mem_cons_self ..)
  have ih:=find_ints (V:=V) (v:=v) (L:=L) fun hm=>h (List.mem_cons_of_mem _ hm)
  simp only [List.map_cons,findE,keyEq,kindBeq,cond_true,hne,ih]
theorem wordy_marks {n:Int} (h:Wordy n):n∉marksC:=by
 unfold Wordy Alnum at h
 intro hm
 simp only [marksC,List.mem_cons,List.not_mem_nil,or_false] at hm
 omega
def tagEnts:List (LV×LV):=tagsC.map fun x=>(.str [.lit x.1],.slice x.2 0 2 1)
theorem find_tags (i:NI) (hp:i.Plain):findE VN .string (.str (Txt.ofBytes i.nm.data.toList)) tagEnts=some none:=by
 rcases hp.cases with e|e|e|e|e|e|e|e|e <;> rw [e] <;> kernel_rfl
theorem core_of {base:Nat} {w0:World} {ρ:Rho} {σ:St} {w:World} (hw:RW VN atomsN base w0 ρ σ w) {sp nl pd:Txt} {b1 b2 b3:Bool} (hwant:(wantC sp nl pd b1 b2 b3).map (fun x=>(x.1,σ.heap.get x.1))=wantC sp nl pd b1 b2 b3) {C cm tp bs K0 K1 K2 K8:Nat}
  (h0:ρ[0]?=some (.row cm K0)) (h1:ρ[1]?=some (.row tp K1)) (h2:ρ[2]?=some (.row bs K2)) (h8:ρ[10]?=some (.row C K8)):ConvCore w C cm tp bs:=by
 simp only [wantC,List.map_cons,List.map_nil,List.cons.injEq,Prod.mk.injEq,true_and,and_true] at hwant
 obtain ⟨hC,hPl,hPre,hRen,hPost,hText,hM,hT,hbm,hcm,htp,hbx⟩:=hwant
 have cell:∀ {l b K:Nat} {e:TypeId} {cs:List LV} {k:RK},ρ[l]?=some (.row b K)→σ.heap.get l=some (.row e cs k)→∀ j v,cs[j]?=some v→∃ x,w.cell? ⟨b,j,none⟩=some x∧RV atomsN ρ v x:=by
  intro l b K e cs k hl hg
  obtain ⟨b',K',p1,_,p2⟩:=row_cells hw hg
  rw [hl] at p1;cases p1
  exact p2
 obtain ⟨bm,K73,p73,_,c73⟩:=row_cells hw hbm
 refine { err:=?_,plugins:=?_,pre:=⟨bm,?_,?_⟩,render:=?_,post:=?_,text:=?_,marks:=?_,tags:=?_,mode:=?_,cmf:=?_ }
 ·obtain ⟨x,hx,hv⟩:=cell h8 hC 0 _ rfl
  simp only [RV] at hv
  rw [hx,hv]
 ·obtain ⟨x,hx,b2,K2',q1,q2,rfl⟩:=cell h8 hC 1 _ rfl
  obtain ⟨x0,y0,z0⟩:=cell q1 hPl 0 _ rfl
  obtain ⟨x1,y1,z1⟩:=cell q1 hPl 1 _ rfl
  obtain ⟨x2,y2,z2⟩:=cell q1 hPl 2 _ rfl
  rw [lit_str z0] at y0
  rw [lit_str z1] at y1
  rw [lit_str z2] at y2
  exact ⟨b2,K2' - 0,by simpa using hx,by omega,y0,y1,y2⟩
 ·refine handlers_of hw h8 hC rfl hPre rfl ?_
  intro j v m hj
  match j,hj with
  |0,hj=>cases hj;exact ⟨_,rfl,fun y hy=>f0_val h2 hy,rfl⟩
  |1,hj=>cases hj;exact ⟨_,rfl,fun y hy=>f0_val h2 hy,rfl⟩
  |2,hj=>cases hj;exact ⟨_,rfl,fun y hy=>f0_val h0 hy,rfl⟩
  |3,hj=>
   cases hj
   refine ⟨_,rfl,fun y hy=>?_,rfl⟩
   obtain ⟨f',c',rfl,hf,y,ys,e1,⟨b2,K2,hb2,rfl⟩,hy⟩:=hy
   rw [p73] at hb2;cases hb2
   have hy':ys=[]:=hy
   have hf':f'.toList=[]:=hf
   subst hy'
   have q1:c'=#[.pointer (some ⟨bm,0,none⟩)]:=by apply Array.ext';simpa using e1
   have q2:f'=#[]:=by apply Array.ext';simpa using hf'
   rw [q1,q2]
  |j+4,hj=>simp at hj
 ·obtain ⟨x,hx,b2,K2',q1,rfl⟩:=c73 0 _ rfl
  rw [h0] at q1;cases q1
  exact hx
 ·refine handlers_of hw h8 hC rfl hRen rfl ?_
  intro j v m hj
  match j,hj with
  |0,hj=>cases hj;exact ⟨_,rfl,fun y hy=>f0_val h0 hy,rfl⟩
  |1,hj=>cases hj;exact ⟨_,rfl,fun y hy=>f0_val h1 hy,rfl⟩
  |j+2,hj=>simp at hj
 ·obtain ⟨b',K',p1,_,p2⟩:=row_cells hw hPost
  obtain ⟨x,_,hv⟩:=p2 4 _ rfl
  obtain ⟨arr,rfl,harr⟩:=fagg_val hv
  refine ⟨arr,noRef_any _ rfl harr,handlers_of hw h8 hC rfl hPost rfl ?_⟩
  intro j v m hj
  match j,hj with
  |0,hj=>cases hj;exact ⟨_,rfl,fun y hy=>f0_val h2 hy,rfl⟩
  |1,hj=>cases hj;exact ⟨_,rfl,fun y hy=>f0_val h2 hy,rfl⟩
  |2,hj=>cases hj;exact ⟨_,rfl,fun y hy=>rv_one hy hv,rfl⟩
  |j+3,hj=>simp at hj
 ·obtain ⟨b',K',p1,_,p2⟩:=row_cells hw hText
  obtain ⟨x,_,hv⟩:=p2 2 _ rfl
  obtain ⟨arr,rfl,harr⟩:=fagg_val hv
  refine ⟨arr,noRef_any _ rfl harr,handlers_of hw h8 hC rfl hText rfl ?_⟩
  intro j v m hj
  match j,hj with
  |0,hj=>cases hj;exact ⟨_,rfl,fun y hy=>f0_val h2 hy,rfl⟩
  |1,hj=>cases hj;exact ⟨_,rfl,fun y hy=>rv_one hy hv,rfl⟩
  |j+2,hj=>simp at hj
 ·obtain ⟨x,hx,mb,K2',q1,rfl⟩:=cell h8 hC 6 _ rfl
  refine ⟨mb,hx,?_⟩
  rintro k ⟨n,hn,rfl⟩
  obtain ⟨j,kt,e,kd,i,t1,t2,t3,t4,t5⟩:=mapTy_of tyM
  have hku:kd.und=.int .i32:=by
   revert t5
   cases kd.und <;> try (intro h;cases h;done)
   rename_i kk
   cases kk <;> first|(intro h;cases h;done)|(intro _;rfl)
  refine noKey_run hw t1 t2 t3 t4 q1 (k:=.int .i32 n) rfl (by rw [hku];rfl) ?_
  simp only [mapRead,hM,hku]
  exact find_ints (wordy_marks hn)
 ·obtain ⟨x,hx,mb,K2',q1,rfl⟩:=cell h8 hC 8 _ rfl
  refine ⟨mb,hx,?_⟩
  rintro k ⟨ni,hn,rfl⟩
  obtain ⟨j,kt,e,kd,i,t1,t2,t3,t4,t5⟩:=mapTy_of tyT
  have hku:kd.und=.string:=by
   revert t5
   cases kd.und <;> first|(intro h;cases h;done)|(intro _;rfl)
  refine noKey_run hw t1 t2 t3 t4 q1 (k:=.str (Txt.ofBytes ni.nm.data.toList)) ⟨ni.nm,rfl,(den_ofBytes _ _).symm⟩ (by rw [hku];rfl) ?_
  simp only [mapRead,hT,hku]
  exact find_tags ni hn
 ·obtain ⟨x,hx,b,rfl,hb⟩:=cell h8 hC 9 _ rfl
  have:b=⟨#[]⟩:=by
   cases b with
   |mk d=>
    simp [den] at hb
    rw [hb]
  rw [hx,this]
 ·obtain ⟨x,hx,hv⟩:=cell h0 hcm 4 _ rfl
  simp only [RV] at hv
  rw [hx,hv]
def Sits (w:World) (ρ:Rho) (b:Nat) (e:TypeId) (cs:List LV):Prop:=∃ c,w.heap[b]?=some (.cells c e (0,0))∧RVs atomsN ρ cs c.toList
theorem Sits.rob {w:World} {ρ:Rho} {b:Nat} {e:TypeId} {cs:List LV} (h:Sits w ρ b e cs) (K:Nat) (hK:∀ i,VN.ty.get e=some i→K * i.size≤cs.length):ROb VN atomsN ρ (.row e cs .exact) (.row b K) w:=by
 obtain ⟨c,h1,h2⟩:=h
 refine ⟨b,K,c,#[],(0,0),rfl,by simpa using h1,h2,fun _=>rfl,rfl,fun i hi=>?_⟩
 have:cs.length=c.size:=by
  rw [← Array.length_toList]
  clear h1 hK
  generalize c.toList=l at h2
  induction cs generalizing l with
  |nil=>rw [show l=[] from h2];rfl
  |cons x r ih=>
   obtain ⟨v,vs,rfl,_,h⟩:=h2
   simp [ih _ h]
 simpa [this] using hK i hi
theorem size_plugin:(VN.ty.get 46).map (fun i=>i.size)=some 1:=by kernel_rfl
theorem size_option:(VN.ty.get 58).map (fun i=>i.size)=some 1:=by kernel_rfl
def rhoC (cm tp bs b3 b4 b5 nb kb:Nat):Rho:=[.row cm 0,.row tp 0,.row bs 0,.row b3 3,.row b4 0,.row b5 1,.row nb 0,.row kb 1]
theorem startC_get {sp nl pd:Txt} {b1 b2 b3:Bool} {l:Nat} {o:Ob} (h:(startC sp nl pd b1 b2 b3).heap.get l=some o):
  (l=0∧o=Ob.row 82 cmCells .exact)∨(l=1∧o=.row 168 (tpCells sp nl pd b1 b2 b3) .exact)∨(l=2∧o=.row 70 [] .exact) ∨
  (l=3∧o=.row 46 [.iface 71 (.ptr 2 0),.iface 83 (.ptr 0 0),.iface 166 (.ptr 1 0)] .exact)∨(l=4∧o=.row 50 [.slice 3 0 1 3] .exact)∨(l=5∧o=.row 58 [.func (.func 39) [] [.ptr 4 0]] .exact)∨(l=6∧o=.row 33 boxC .exact):=by
 simp only [startC,Tr.get_put] at h
 split at h
 ·rename_i e;exact .inr (.inr (.inr (.inr (.inr (.inr ⟨e,(Option.some.inj h).symm⟩)))))
 split at h
 ·rename_i e;exact .inr (.inr (.inr (.inr (.inr (.inl ⟨e,(Option.some.inj h).symm⟩)))))
 split at h
 ·rename_i e;exact .inr (.inr (.inr (.inr (.inl ⟨e,(Option.some.inj h).symm⟩))))
 split at h
 ·rename_i e;exact .inr (.inr (.inr (.inl ⟨e,(Option.some.inj h).symm⟩)))
 split at h
 ·rename_i e;exact .inr (.inr (.inl ⟨e,(Option.some.inj h).symm⟩))
 split at h
 ·rename_i e;exact .inr (.inl ⟨e,(Option.some.inj h).symm⟩)
 split at h
 ·rename_i e;exact .inl ⟨e,(Option.some.inj h).symm⟩
 ·simp [Tr.get] at h
theorem nodup_idx:∀ {l:List Nat},l.Nodup→∀ {i j b:Nat},l[i]?=some b→l[j]?=some b→i=j:=by
 intro l h i j b h1 h2
 exact (List.getElem?_inj (List.getElem?_eq_some_iff.1 h1).1 h).1 (h1.trans h2.symm)
theorem newConverter_calls {w:World} {base:Nat} {sp nl pd:Txt} {b1 b2 b3:Bool} {cm tp bs r3 r4 r5 nb kb:Nat}
  (h0:Sits w [] cm 82 cmCells) (h1:Sits w [] tp 168 (tpCells sp nl pd b1 b2 b3)) (h2:w.heap[bs]?=some (.cells #[] 70 (0,0)))
  (h3:w.heap[r3]?=some (.cells #[.iface 71 (.pointer (some ⟨bs,0,none⟩)),.iface 83 (.pointer (some ⟨cm,0,none⟩)),.iface 166 (.pointer (some ⟨tp,0,none⟩))] 46 (0,0)))
  (h4:w.heap[r4]?=some (.cells #[.slice (some ⟨r3,0,none⟩) 3 3] 50 (0,0)))
  (h5:w.heap[r5]?=some (.cells #[.func (.func 39) #[] #[.pointer (some ⟨r4,0,none⟩)]] 58 (0,0)))
  (h6:w.heap[nb]?=some (.cells #[.int .i64 3,.string ⟨#[]⟩,.string ⟨#[]⟩,.slice none 0 0,.slice (some ⟨kb,0,none⟩) 1 1] 33 (0,0)))
  (hlow:base≤cm∧base≤tp∧base≤bs∧base≤r3∧base≤r4∧base≤r5∧base≤nb) (hd:[cm,tp,bs,r3,r4,r5,nb].Nodup):
  Calls Tryz.prog 24 #[.slice (some ⟨r5,0,none⟩) 1 1] w fun e w'=>∃ C,e=.returned (.pointer (some ⟨C,0,none⟩))∧Below base w w'∧w.heap.size≤w'.heap.size∧ConvQ w'.heap.size w' C cm tp bs∧Sits w' [] tp 168 (tpCells sp nl pd b1 b2 b3)∧w'.heap[nb]?=some (.cells #[.int .i64 3,.string ⟨#[]⟩,.string ⟨#[]⟩,.slice none 0 0,.slice (some ⟨kb,0,none⟩) 1 1] 33 (0,0)):=by
 obtain ⟨l0,l1,l2,l3,l4,l5,l6⟩:=hlow
 have hlt:∀ {b:Nat} {o:Obj},w.heap[b]?=some o→b < w.heap.size:=fun h=>(Array.getElem?_eq_some_iff.1 h).1
 have hr:∀ (l:Nat) (o:Ob),(startC sp nl pd b1 b2 b3).heap.get l=some o→∃ b K,(rhoC cm tp bs r3 r4 r5 nb kb)[l]?=some (.row b K)∧ROb VN atomsN (rhoC cm tp bs r3 r4 r5 nb kb) o (.row b K) w∧base≤b∧[cm,tp,bs,r3,r4,r5,nb][l]?=some b:=by
  intro l o h
  rcases startC_get h with ⟨rfl,rfl⟩|⟨rfl,rfl⟩|⟨rfl,rfl⟩|⟨rfl,rfl⟩|⟨rfl,rfl⟩|⟨rfl,rfl⟩|⟨rfl,rfl⟩
  ·obtain ⟨c,q1,q2⟩:=h0
   exact ⟨cm,0,rfl,Sits.rob ⟨c,q1,by simpa using RVs.ext (rhoC cm tp bs r3 r4 r5 nb kb) q2⟩ 0 (fun _ _=>by omega),l0,rfl⟩
  ·obtain ⟨c,q1,q2⟩:=h1
   exact ⟨tp,0,rfl,Sits.rob ⟨c,q1,by simpa using RVs.ext (rhoC cm tp bs r3 r4 r5 nb kb) q2⟩ 0 (fun _ _=>by omega),l1,rfl⟩
  ·exact ⟨bs,0,rfl,Sits.rob (cs:=[]) ⟨_,h2,rfl⟩ 0 (fun _ _=>by omega),l2,rfl⟩
  ·refine ⟨r3,3,rfl,Sits.rob ⟨_,h3,?_⟩ 3 (fun i hi=>?_),l3,rfl⟩
   ·exact ⟨_,_,rfl,⟨_,rfl,bs,0,rfl,rfl⟩,_,_,rfl,⟨_,rfl,cm,0,rfl,rfl⟩,_,_,rfl,⟨_,rfl,tp,0,rfl,rfl⟩,rfl⟩
   ·have:=size_plugin
    rw [hi] at this
    simp only [Option.map_some,Option.some.injEq] at this
    rw [this]
    decide
  ·exact ⟨r4,0,rfl,Sits.rob (cs:=[.slice 3 0 1 3]) ⟨_,h4,_,_,rfl,⟨r3,3,rfl,by omega,rfl⟩,rfl⟩ 0 (fun _ _=>by omega),l4,rfl⟩
  ·refine ⟨r5,1,rfl,Sits.rob (cs:=[.func (.func 39) [] [.ptr 4 0]]) ⟨_,h5,_,_,rfl,⟨#[],#[.pointer (some ⟨r4,0,none⟩)],rfl,rfl,_,_,rfl,⟨r4,0,rfl,rfl⟩,rfl⟩,rfl⟩ 1 (fun i hi=>?_),l5,rfl⟩
   have:=size_option
   rw [hi] at this
   simp only [Option.map_some,Option.some.injEq] at this
   rw [this]
   decide
  ·exact ⟨nb,0,rfl,Sits.rob (cs:=boxC) ⟨_,h6,_,_,rfl,rfl,_,_,rfl,⟨⟨#[]⟩,rfl,rfl⟩,_,_,rfl,⟨⟨#[]⟩,rfl,rfl⟩,_,_,rfl,rfl,_,_,rfl,⟨kb,1,rfl,by omega,rfl⟩,rfl⟩ 0 (fun _ _=>by omega),l6,rfl⟩
 have hw:RW VN atomsN base w (rhoC cm tp bs r3 r4 r5 nb kb) (startC sp nl pd b1 b2 b3) w:=
  {
   len:=rfl
   ob:=fun l o h=>by
    obtain ⟨b,K,q1,q2,_⟩:=hr l o h
    exact ⟨_,q1,q2⟩
   low:=fun l o bd b h q hb=>by
    obtain ⟨b',K,q1,q2,q3,_⟩:=hr l o h
    rw [q] at q1;cases q1
    cases hb
    refine ⟨q3,?_⟩
    cases o with
    |row e cs k=>
     obtain ⟨_,_,_,_,_,q4,q5,_⟩:=q2
     cases q4
     exact hlt q5
    |map es=>
     obtain ⟨_,_,_,_,q4,q5,_⟩:=q2
     cases q4
     exact hlt q5
    |view t=>obtain ⟨_,q4,_⟩:=q2;cases q4
    |bytes t=>obtain ⟨_,_,_,q4,_⟩:=q2;cases q4
   apart:=fun l l' o o' bd bd' b hne h h' q q' hb hb'=>by
    obtain ⟨b1',K1,q1,_,_,p1⟩:=hr l o h
    obtain ⟨b2',K2,q2,_,_,p2⟩:=hr l' o' h'
    rw [q] at q1;cases q1
    rw [q'] at q2;cases q2
    cases hb
    cases hb'
    exact absurd (nodup_idx hd p1 p2) hne
   below:=Below.refl _ _
   base_le:=by have:=hlt h2;omega
   tied:=trivial }
 have hrun:=run_converter sp nl pd b1 b2 b3
 cases hc:callF VN 100000 60 24 [.slice 5 0 1 1] (startC sp nl pd b1 b2 b3) with
 |none=>rw [hc] at hrun;cases hrun
 |some r=>
  obtain ⟨v,σ'⟩:=r
  rw [hc] at hrun
  simp only [Option.map_some,Option.some.injEq,Prod.mk.injEq] at hrun
  obtain ⟨rfl,hwant⟩:=hrun
  refine (run_calls hc hw (av:=#[.slice (some ⟨r5,0,none⟩) 1 1]) ⟨_,_,rfl,⟨r5,1,rfl,by omega,rfl⟩,rfl⟩).mono ?_
  rintro e w' ⟨x,ρ',rfl,hp,hw',C,K,hC,rfl⟩
  obtain ⟨t,rfl⟩:=hp
  have hw2:=hwant
  simp only [wantC,List.map_cons,List.map_nil,List.cons.injEq,Prod.mk.injEq,true_and,and_true] at hw2
  obtain ⟨-,-,-,-,-,-,-,-,-,-,htp,hbx⟩:=hw2
  refine ⟨C,rfl,hw'.below,hw'.below.size,fun w2 hb=>core_of (hw'.world hb) hwant rfl rfl rfl hC,?_,?_⟩
  ·obtain ⟨bd,q1,q2⟩:=hw'.ob 1 _ htp
   obtain ⟨b,K',c,sp',fr,rfl,p1,p2,p3,p4,p5⟩:=q2
   cases q1
   have e1:=p3 rfl
   subst e1
   have e2:fr=(0,0):=p4
   subst e2
   refine ⟨c,by simpa using p1,?_⟩
   exact noRef_any _ rfl p2
  ·obtain ⟨bd,q1,q2⟩:=hw'.ob 6 _ hbx
   obtain ⟨b,K',c,sp',fr,rfl,p1,p2,p3,p4,p5⟩:=q2
   cases q1
   have e1:=p3 rfl
   subst e1
   have e2:fr=(0,0):=p4
   subst e2
   obtain ⟨v0,s0,e0,x0,v1,s1,rfl,⟨b1,rfl,x1⟩,v2,s2,rfl,⟨b2,rfl,x2⟩,v3,s3,rfl,x3,v4,s4,rfl,⟨k4,K4,y4,z4,rfl⟩,x5⟩:=p2
   have x5:s4=[]:=x5
   have x0:v0=.int .i64 3:=x0
   have x3:v3=.slice none 0 0:=x3
   cases y4
   subst x5;subst x0;subst x3
   have hb1:b1=⟨#[]⟩:=congrArg ByteArray.mk (Array.ext' x1)
   have hb2:b2=⟨#[]⟩:=congrArg ByteArray.mk (Array.ext' x2)
   subst hb1;subst hb2
   have hc:c=#[.int .i64 3,.string ⟨#[]⟩,.string ⟨#[]⟩,.slice none 0 0,.slice (some ⟨kb,0 * 5,none⟩) 1 (1 - 0)]:=Array.ext' e0
   subst hc
   simpa using p1
theorem newCommonmark_calls (w:World):Calls Tryz.prog 18 #[.slice none 0 0] w fun e w'=>∃ cm,e=.returned (.iface 83 (.pointer (some ⟨cm,0,none⟩)))∧Below w.heap.size w w'∧w.heap.size≤cm∧cm < w'.heap.size∧Sits w' [] cm 82 cmCells:=by
 have hw:RW VN atomsN w.heap.size w [] { heap:=.nil,next:=0 } w:=
  {
   len:=rfl
   ob:=fun l o h=>by simp [Tr.get] at h
   low:=fun l o bd b h=>by simp [Tr.get] at h
   apart:=fun l l' o o' bd bd' b hne h=>by simp [Tr.get] at h
   below:=Below.refl _ _
   base_le:=Nat.le_refl _
   tied:=trivial }
 have hrun:=run_commonmark
 cases hc:callF VN 100000 60 18 [.nils] { heap:=.nil,next:=0 } with
 |none=>rw [hc] at hrun;cases hrun
 |some r=>
  obtain ⟨v,σ'⟩:=r
  rw [hc] at hrun
  simp only [Option.map_some,Option.some.injEq,Prod.mk.injEq] at hrun
  obtain ⟨rfl,hcm⟩:=hrun
  refine (run_calls hc hw (av:=#[.slice none 0 0]) ⟨_,_,rfl,rfl,rfl⟩).mono ?_
  rintro e w' ⟨x,ρ',rfl,hp,hw',y,rfl,cm,K,hC,rfl⟩
  obtain ⟨bd,q1,q2⟩:=hw'.ob 2 _ hcm
  obtain ⟨b,K',c,sp',fr,rfl,p1,p2,p3,p4,p5⟩:=q2
  rw [hC] at q1;cases q1
  have hl:=hw'.low 2 _ _ cm hcm hC rfl
  have e1:=p3 rfl
  subst e1
  have e2:fr=(0,0):=p4
  subst e2
  exact ⟨cm,rfl,hw'.below,hl.1,hl.2,c,by simpa using p1,noRef_any _ rfl p2⟩
end Vx
