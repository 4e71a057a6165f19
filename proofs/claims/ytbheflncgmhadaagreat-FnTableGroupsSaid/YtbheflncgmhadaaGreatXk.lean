/- The handlers in their order. Conditions: those in each statement. -/
import Derived.Test.YtbheflncgmhadaaGreatXj
import Derived.Test.YtbheflncgmhadaaGreatXd
import Derived.Deep.WholeRow
set_option linter.unusedVariables false
set_option linter.unusedSimpArgs false
set_option maxHeartbeats 40000000
set_option maxRecDepth 100000
namespace Vx
open Go Go.Proofs Go.RowKit Go.Proofs.YtbheflncgmhadaaGreat.Hand
set_option maxRecDepth 1000000
def bitsL (n:Nat):Nat:=cond (Nat.beq n 0) 0 (cond (Nat.ble n 1) 1 (cond (Nat.ble n 3) 2 (cond (Nat.ble n 7) 3 (cond (Nat.ble n 15) 4 5))))
theorem bl_ok:∀ n,n≤31→bitsL n=Lib.bitLen n:=by decide
def lenS (f:FuncId) (args:List LV) (σ:St):Option (LV×St):=cond (Nat.beq f 84) (match args with
 |.int .u64 (.ofNat n)::[]=>cond (Nat.ble n 31) (some (.int .i64 (.ofNat (bitsL n)),σ)) none
 |_=>none) none
theorem lenS_ok {V:VP} {s:Atoms}:CallsOk V Tryz.prog s lenS:=by
 intro base w0 ρ σ w f args av v σ' hw ha hc
 unfold lenS at hc
 cases hf:Nat.beq f 84 with
 |false=>rw [hf] at hc;cases hc
 |true=>
  rw [hf] at hc
  have hf':=Nat.eq_of_beq_eq_true hf
  subst hf'
  simp only [cond_true] at hc
  split at hc
  case h_2=>cases hc
  rename_i n
  cases hm:Nat.ble n 31 with
  |false=>rw [hm] at hc;cases hc
  |true=>
   rw [hm] at hc;cases hc
   have hn:=Nat.le_of_ble_eq_true hm
   obtain ⟨x,xs,e1,hx,e2⟩:=ha
   simp only [RV] at hx
   have e2':xs=[]:=e2
   subst hx e2'
   have:av=#[.int .u64 (Int.ofNat n)]:=by apply Array.ext';simpa using e1
   subst this
   refine (Tryz.bits_Len (n:Int) w (by omega) (by omega)).mono ?_
   rintro e w' ⟨rfl,rfl⟩
   refine ⟨_,ρ,rfl,List.prefix_refl _,hw,?_⟩
   simp only [RV]
   rw [bl_ok n hn]
   rfl
def sortN:SortN:={ valueOf:=81,swapper:=82,len:=83,sw1:=87,sw2:=88,sw9:=95,gs:=13,slices:=[100,102,104,106] }
theorem packedN:allL (fun t=>!(Tryz.prog.packed t)) [100,102,104,106]=true:=by kernel_rfl
theorem sortN_ok:SortOk Tryz.prog sortN:=
 {
  gs:=by kernel_rfl
  valueOf:=⟨_,Tryz.func81,by kernel_rfl,by kernel_rfl,by rfl,by rfl⟩
  swapper:=⟨_,Tryz.func82,by kernel_rfl,by kernel_rfl,by rfl,by rfl⟩
  len:=⟨_,Tryz.func83,by kernel_rfl,by kernel_rfl,by rfl,by rfl⟩
  sw9:=⟨_,Tryz.func95,by kernel_rfl,by kernel_rfl,by rfl,by rfl⟩
  n1:=by kernel_rfl
  n2:=by kernel_rfl
  n9:=by kernel_rfl
  unpacked:=fun t h=>by
   have hp:=packedN
   simp only [allL,Bool.and_true,Bool.and_eq_true,Bool.not_eq_true'] at hp
   obtain ⟨p1,p2,p3,p4⟩:=hp
   simp only [sortN,memNat,Bool.or_false,Bool.or_eq_true] at h
   rcases h with h|h|h|h
   ·rw [Nat.eq_of_beq_eq_true h];exact p1
   ·rw [Nat.eq_of_beq_eq_true h];exact p2
   ·rw [Nat.eq_of_beq_eq_true h];exact p3
   ·rw [Nat.eq_of_beq_eq_true h];exact p4 }
noncomputable def baseS:VP:={ ty:=tyN,fn:=.nil,facts:={ nonempty:=[],amax:=0,differ:=[] },sums:=noCall,exts:=noCall,guard:=0,gty:=0,bty:=0 }
noncomputable def VS:VP:={ ty:=tyN,fn:=fnN,facts:=factsN,sums:=lenS,exts:=sortExts baseS sortN,guard:=14,gty:=4,bty:=5 }
theorem VS_ok:VS.Ok Tryz.prog atomsN:={ ty:=VN_ok.ty,fn:=VN_ok.fn,facts:=VN_ok.facts }
theorem run_sorts {f:FuncId} {args:List LV} {σ σ':St} {v:LV} (hc:callF VS 100000 60 f args σ=some (v,σ')) {base:Nat} {w0 w:World} {ρ:Rho} {av:Array Value} (hw:RW VS atomsN base w0 ρ σ w) (ha:RVs atomsN ρ args av.toList):
  Calls Tryz.prog f av w fun e w'=>∃ x ρ',e=.returned x∧ρ <+: ρ'∧RW VS atomsN base w0 ρ' σ' w'∧RV atomsN ρ' v x:=by
 rw [callF_eq] at hc
 have hX:ExtsOk VS Tryz.prog atomsN:=sortExts_ok VS_ok (U:=baseS) rfl sortN_ok rfl
 have hE:∀ C,CallsOk VS Tryz.prog atomsN C→RunOk VS Tryz.prog atomsN (execL VS C 100000):=fun C hC=>exec_ok VS_ok hX mixedN hC 100000
 exact call_ok VS_ok hX hE lenS_ok guardN 60 base w0 ρ σ w f args av v σ' hw ha hc
def startS (T:TypeId) (cs:List LV):St:={ next:=1,heap:=(Tr.nil:Tr Ob).put 0 (.row T cs .exact) }
def flat (l:List (LV×Int)):List LV:=l.flatMap fun x=>[x.1,i64 x.2]
def gf (f b:Nat):LV:=f0 f [.gptr b 0]
def preL (cm bs bm:Nat):List (LV×Int):=[(gf 133 bs,100),(gf 134 bs,1000),(gf 187 cm,500),(.func (.func 188) [] [.gptr bm 0],1100)]
def preR (cm bs bm:Nat):List (LV×Int):=[(gf 133 bs,100),(gf 187 cm,500),(gf 134 bs,1000),(.func (.func 188) [] [.gptr bm 0],1100)]
def renL (cm tp:Nat):List (LV×Int):=[(gf 204 cm,500),(gf 403 tp,500)]
def postL (bs:Nat):List (LV×Int):=[(gf 138 bs,500),(gf 139 bs,520),(f0 205 [.agg cmCells],1000)]
def textL (bs:Nat):List (LV×Int):=[(gf 136 bs,500),(f0 183 [.agg cmCells],1000)]
theorem run_pre (cm bs bm:Nat):(callF VS 100000 60 71 [.slice 0 0 2 4] (startS 141 (flat (preL cm bs bm)))).map (fun r=>(r.1,r.2.heap.get 0))=
 some (.tuple [],some (.row 141 (flat (preR cm bs bm)) .exact)):=by kernel_rfl
theorem run_ren (cm tp:Nat):(callF VS 100000 60 66 [.slice 0 0 2 2] (startS 194 (flat (renL cm tp)))).map (fun r=>(r.1,r.2.heap.get 0))=
 some (.tuple [],some (.row 194 (flat (renL cm tp)) .exact)):=by kernel_rfl
theorem run_post (bs:Nat):(callF VS 100000 60 75 [.slice 0 0 2 3] (startS 154 (flat (postL bs)))).map (fun r=>(r.1,r.2.heap.get 0))=
 some (.tuple [],some (.row 154 (flat (postL bs)) .exact)):=by kernel_rfl
theorem run_text (bs:Nat):(callF VS 100000 60 86 [.slice 0 0 2 2] (startS 207 (flat (textL bs)))).map (fun r=>(r.1,r.2.heap.get 0))=
 some (.tuple [],some (.row 207 (flat (textL bs)) .exact)):=by kernel_rfl
end Vx
namespace Go.Proofs.YtbheflncgmhadaaGreat.Hand
open Go.RowKit Go.Proofs.YtbheflncgmhadaaGreatW.PrintWords Go.Proofs.YtbheflncgmhadaaGreatW.PrintLast Go.Proofs.YtbheflncgmhadaaGreatW.PrintMore
attribute [local go_sem] run_store_func'
theorem run_copy_rows {P:Program} (w:World) (dT sT ty elem:TypeId) (g o dLen dCap z n:Nat) (a:Addr) (sLen sCap:Nat) (cur:Array Value) (t:TypeId) (cs:List Value)
  (hu:P.underlying dT=some (.slice elem)) (hs:(P.info? elem).map (·.size)=some z)
  (hg:w.heap[g]?=some (.cells cur t (0,0))) (hn:cs.length=Nat.min sLen dLen * z) (hm:Nat.min sLen dLen=n)
  (hsrc:∀ j v,cs[j]?=some v→w.cell? (a.add j)=some v) (hfit:o+cs.length≤cur.size) (h1:∀ v∈cs,v.oneCell'=true):
  (Builtin.copy_ #[dT,sT] ty #[.slice (some ⟨g,o,none⟩) dLen dCap,.slice (some a) sLen sCap]).run P w=
   .ok (goInt n) (w.setRow g (cur.toList.take o++cs++cur.toList.drop (o+cs.length)).toArray):=by
 have hl:=run_loadCells_list (P:=P) w a cs hsrc
 have hst:=run_storeCells_at P g o t cs 0 cur w hg (by simpa using hfit) h1
 rw [hm] at hn
 cases hq:P.info? elem with
 |none=>simp [hq] at hs
 |some i=>
  have hi:i.size=z:=by simpa [hq] using hs
  simp [Builtin.copy_,run_underlying hu,Builtin.lenOf,Builtin.firstCells,sizeOf,typeInfo,hq,hi,hm,← hn,hl,hst]
def hcells (l:List (Value×Int)):List Value:=l.flatMap fun x=>[x.1,.int .i64 x.2]
theorem hcells_len (l:List (Value×Int)):(hcells l).length=l.length * 2:=by
 induction l with
 |nil=>rfl
 |cons x l ih=>simp [hcells] at ih ⊢;omega
theorem hcells_get:∀ (l:List (Value×Int)) (j:Nat) (v:Value),(hcells l)[j]?=some v→∃ x m,l[j / 2]?=some (x,m)∧(j=2 * (j / 2)∧v=x∨j=2 * (j / 2)+1∧v=.int .i64 m)
 |[],j,v,h=>by simp [hcells] at h
 |(x,m)::l,0,v,h=>by
  simp [hcells] at h
  exact ⟨x,m,rfl,.inl ⟨rfl,h.symm⟩⟩
 |(x,m)::l,1,v,h=>by
  simp [hcells] at h
  exact ⟨x,m,rfl,.inr ⟨rfl,h.symm⟩⟩
 |(x,m)::l,j+2,v,h=>by
  have h':(hcells l)[j]?=some v:=by simpa [hcells] using h
  obtain ⟨y,k,q1,q2⟩:=hcells_get l j v h'
  refine ⟨y,k,by rw [show (j+2) / 2=j / 2+1 by omega];exact q1,?_⟩
  rcases q2 with ⟨q2,q3⟩|⟨q2,q3⟩
  ·exact .inl ⟨by omega,q3⟩
  ·exact .inr ⟨by omega,q3⟩
theorem alloc_setRow (w:World) (cur cs:Array Value) (E:TypeId):(w.alloc (.cells cur E (0,0))).setRow w.heap.size cs=w.alloc (.cells cs E (0,0)):=by
 exact World.setRow_alloc_new w cur cs E
theorem fetch_make (w:World) (T E:TypeId) (n:Nat) (i:TypeInfo) (z:Value) (ht:Tryz.prog.underlying T=some (.slice E)) (hi:Tryz.prog.info? E=some i) (hz:i.zero=some z) (hs:i.size=2) (hb:i.bytes * n≤281474976710656) (hn:n≤1000):
  ∃ cur:Array Value,cur.size=n * 2∧(Instr.makeSlice T (.int .i64 n) (.int .i64 n)).run Tryz.prog w=.ok (.slice (some ⟨w.heap.size,0,none⟩) n n) (w.alloc (.cells cur E (0,0))):=by
 refine ⟨madeCells z.cells (n * i.size),by rw [size_madeCells,hs],?_⟩
 have hb':(i.bytes:Int) * (n:Int)≤281474976710656:=by
  rw [← Int.natCast_mul];omega
 have:=run_make (P:=Tryz.prog) (w:=w) T E i z ht hi hz .i64 .i64 n n (by omega) (by omega) hb' (by omega)
 simpa only [Int.toNat_natCast] using this
theorem fetch_copy (w:World) (T E ty:TypeId) (g c:Nat) (l:List (Value×Int)) (cur:Array Value) (hcur:cur.size=l.length * 2) (ht:Tryz.prog.underlying T=some (.slice E)) (hs:(Tryz.prog.info? E).map (·.size)=some 2)
  (hv:∀ j v n,l[j]?=some (v,n)→w.cell? ⟨g,2 * j,none⟩=some v∧w.cell? ⟨g,2 * j+1,none⟩=some (.int .i64 n)) (h1:∀ x∈l,x.1.oneCell'=true):
  (Builtin.copy_ #[T,T] ty #[.slice (some ⟨w.heap.size,0,none⟩) l.length l.length,.slice (some ⟨g,0,none⟩) l.length c]).run Tryz.prog (w.alloc (.cells cur E (0,0)))=.ok (goInt l.length) (w.alloc (.cells (hcells l).toArray E (0,0))):=by
 have hlen:=hcells_len l
 rw [run_copy_rows (n:=l.length) (w.alloc (.cells cur E (0,0))) T T ty E w.heap.size 0 l.length l.length 2 ⟨g,0,none⟩ l.length c cur E (hcells l) ht hs (alloc_new ..) (by rw [hlen,show Nat.min l.length l.length=l.length from Nat.min_self _]) (Nat.min_self _) ?_ (by omega) ?_]
 ·rw [alloc_setRow]
  rw [List.drop_eq_nil_of_le (by simp [hlen,hcur])]
  simp
 ·intro j v h
  obtain ⟨x,m,q1,q2⟩:=hcells_get l j v h
  obtain ⟨p1,p2⟩:=hv _ _ _ q1
  have hadd:(⟨g,0,none⟩:Addr).add j=⟨g,j,none⟩:=by unfold Addr.add;split <;> simp_all
  rw [hadd]
  rcases q2 with ⟨q2,rfl⟩|⟨q2,rfl⟩
  ·rw [← q2] at p1
   exact cell_keep ((Below.refl _ _).alloc (Nat.le_refl _) _) p1
  ·rw [← q2] at p2
   exact cell_keep ((Below.refl _ _).alloc (Nat.le_refl _) _) p2
 ·intro v hv
  obtain ⟨x,hx,hv⟩:=List.mem_flatMap.1 hv
  simp at hv
  rcases hv with rfl|rfl
  ·exact h1 x hx
  ·rfl
end Go.Proofs.YtbheflncgmhadaaGreat.Hand
namespace Vx
open Go Go.Proofs Go.RowKit Go.Proofs.YtbheflncgmhadaaGreat.Hand
set_option maxRecDepth 1000000
theorem sorts_calls {f:FuncId} {E:TypeId} {n:Nat} {L R:List (LV×Int)} {l r:List (Value×Int)} {w:World} {B:Nat} (hB:w.heap[B]?=some (.cells (hcells l).toArray E (0,0))) (hL:RVs atomsN [] (flat L) (hcells l)) (hl:l.length=n)
  (hrun:(callF VS 100000 60 f [.slice 0 0 2 n] (startS E (flat L))).map (fun r=>(r.1,r.2.heap.get 0))=some (.tuple [],some (.row E (flat R) .exact))) (hR:∀ ρ c,RVs atomsN ρ (flat R) c→c=hcells r) (hsz:(VS.ty.get E).map (fun i=>i.size)=some 2):
  Calls Tryz.prog f #[.slice (some ⟨B,0,none⟩) n n] w fun e w'=>e=.returned (.tuple #[])∧Below B w w'∧w'.heap[B]?=some (.cells (hcells r).toArray E (0,0)):=by
 have hlt:B < w.heap.size:=(Array.getElem?_eq_some_iff.1 hB).1
 have hget:∀ l o,(startS E (flat L)).heap.get l=some o→l=0∧o=.row E (flat L) .exact:=by
  intro l o h
  simp only [startS,Tr.get_put] at h
  split at h
  ·rename_i e;exact ⟨e,(Option.some.inj h).symm⟩
  ·simp [Tr.get] at h
 have hrob:ROb VS atomsN [.row B n] (.row E (flat L) .exact) (.row B n) w:=by
  refine ⟨B,n,(hcells l).toArray,#[],(0,0),rfl,by simpa using hB,by simpa using RVs.ext [.row B n] hL,fun _=>rfl,rfl,fun i hi=>?_⟩
  rw [hi] at hsz
  simp only [Option.map_some,Option.some.injEq] at hsz
  rw [hsz]
  simp [hcells_len,hl]
 have hw:RW VS atomsN B w [.row B n] (startS E (flat L)) w:=
  {
   len:=rfl
   ob:=fun l o h=>by obtain ⟨rfl,rfl⟩:=hget l o h;exact ⟨_,rfl,hrob⟩
   low:=fun l o bd b h q hb=>by
    obtain ⟨rfl,rfl⟩:=hget l o h
    cases q;cases hb
    exact ⟨Nat.le_refl _,hlt⟩
   apart:=fun l l' o o' bd bd' b hne h h'=>by
    obtain ⟨rfl,rfl⟩:=hget l o h
    obtain ⟨rfl,rfl⟩:=hget l' o' h'
    exact absurd rfl hne
   below:=Below.refl _ _
   base_le:=by omega
   tied:=trivial }
 cases hc:callF VS 100000 60 f [.slice 0 0 2 n] (startS E (flat L)) with
 |none=>rw [hc] at hrun;cases hrun
 |some x=>
  obtain ⟨v,σ'⟩:=x
  rw [hc] at hrun
  simp only [Option.map_some,Option.some.injEq,Prod.mk.injEq] at hrun
  obtain ⟨rfl,h0⟩:=hrun
  refine (run_sorts hc hw (av:=#[.slice (some ⟨B,0,none⟩) n n]) ⟨_,_,rfl,⟨B,n,rfl,by omega,by simp⟩,rfl⟩).mono ?_
  rintro e w' ⟨x,ρ',rfl,hp,hw',hx⟩
  obtain ⟨t,rfl⟩:=hp
  obtain ⟨arr,rfl,harr⟩:=hx
  have ha:arr.toList=[]:=harr
  have ha':arr=#[]:=by apply Array.ext';simpa using ha
  subst ha'
  refine ⟨rfl,hw'.below,?_⟩
  obtain ⟨bd,q1,q2⟩:=hw'.ob 0 _ h0
  obtain ⟨b,K',c,sp',fr,rfl,p1,p2,p3,p4,p5⟩:=q2
  cases q1
  have e1:=p3 rfl
  subst e1
  have e2:fr=(0,0):=p4
  subst e2
  rw [p1]
  have:=hR _ _ p2
  rw [← this]
  simp
theorem rv_gf {ρ:Rho} (f b:Nat):RV atomsN ρ (gf f b) (pf f b):=⟨#[.pointer (some ⟨b,0,none⟩)],#[],rfl,⟨_,_,rfl,rfl,rfl⟩,rfl⟩
theorem rv_agg {ρ:Rho} (f:Nat) {arr:Array Value} (h:RVs atomsN [] cmCells arr.toList):RV atomsN ρ (f0 f [.agg cmCells]) (.func (.func f) #[.agg arr] #[]):=
 ⟨#[.agg arr],#[],rfl,⟨_,_,rfl,⟨arr,rfl,by have:=RVs.ext ρ h;simpa using this⟩,rfl⟩,rfl⟩
theorem rv_cap {ρ:Rho} (f b:Nat):RV atomsN ρ (.func (.func f) [] [.gptr b 0]) (.func (.func f) #[] #[.pointer (some ⟨b,0,none⟩)]):=⟨#[],#[.pointer (some ⟨b,0,none⟩)],rfl,rfl,⟨_,_,rfl,rfl,rfl⟩⟩
def AllRV (ρ:Rho):List (LV×Int)→List (Value×Int)→Prop
 |[],l=>l=[]
 |x::L,l=>∃ y m,l=y::m∧RV atomsN ρ x.1 y.1∧x.2=y.2∧AllRV ρ L m
theorem allRV_flat {ρ:Rho}:∀ {L:List (LV×Int)} {l:List (Value×Int)},AllRV ρ L l→RVs atomsN ρ (flat L) (hcells l)
 |[],_,h=>by subst h;exact rfl
 |x::L,_,⟨y,m,rfl,h1,h2,h3⟩=>⟨y.1,_,rfl,h1,.int .i64 y.2,_,rfl,by simp only [i64,RV,h2],allRV_flat h3⟩
theorem allRV_uniq {ρ:Rho} {L:List (LV×Int)} {l:List (Value×Int)} (h:AllRV ρ L l):∀ c,RVs atomsN ρ (flat L) c→c=hcells l:=fun c hc=>RVs.uniq hc (allRV_flat h)
def mkRen (cm tp:Nat):List (Value×Int):=[(pf 204 cm,500),(pf 403 tp,500)]
def mkPre (cm bs bm:Nat):List (Value×Int):=[(pf 133 bs,100),(pf 134 bs,1000),(pf 187 cm,500),(.func (.func 188) #[] #[.pointer (some ⟨bm,0,none⟩)],1100)]
def mkPreR (cm bs bm:Nat):List (Value×Int):=[(pf 133 bs,100),(pf 187 cm,500),(pf 134 bs,1000),(.func (.func 188) #[] #[.pointer (some ⟨bm,0,none⟩)],1100)]
def mkPost (bs:Nat) (arr:Array Value):List (Value×Int):=[(pf 138 bs,500),(pf 139 bs,520),(.func (.func 205) #[.agg arr] #[],1000)]
def mkText (bs:Nat) (arr:Array Value):List (Value×Int):=[(pf 136 bs,500),(.func (.func 183) #[.agg arr] #[],1000)]
theorem all_ren {ρ:Rho} (cm tp:Nat):AllRV ρ (renL cm tp) (mkRen cm tp):=⟨_,_,rfl,rv_gf _ _,rfl,_,_,rfl,rv_gf _ _,rfl,rfl⟩
theorem all_pre {ρ:Rho} (cm bs bm:Nat):AllRV ρ (preL cm bs bm) (mkPre cm bs bm):=⟨_,_,rfl,rv_gf _ _,rfl,_,_,rfl,rv_gf _ _,rfl,_,_,rfl,rv_gf _ _,rfl,_,_,rfl,rv_cap _ _,rfl,rfl⟩
theorem all_preR {ρ:Rho} (cm bs bm:Nat):AllRV ρ (preR cm bs bm) (mkPreR cm bs bm):=⟨_,_,rfl,rv_gf _ _,rfl,_,_,rfl,rv_gf _ _,rfl,_,_,rfl,rv_gf _ _,rfl,_,_,rfl,rv_cap _ _,rfl,rfl⟩
theorem all_post {ρ:Rho} (bs:Nat) {arr:Array Value} (h:RVs atomsN [] cmCells arr.toList):AllRV ρ (postL bs) (mkPost bs arr):=⟨_,_,rfl,rv_gf _ _,rfl,_,_,rfl,rv_gf _ _,rfl,_,_,rfl,rv_agg _ h,rfl,rfl⟩
theorem all_text {ρ:Rho} (bs:Nat) {arr:Array Value} (h:RVs atomsN [] cmCells arr.toList):AllRV ρ (textL bs) (mkText bs arr):=⟨_,_,rfl,rv_gf _ _,rfl,_,_,rfl,rv_agg _ h,rfl,rfl⟩
theorem size_Ren:(VS.ty.get 194).map (fun i=>i.size)=some 2:=by kernel_rfl
theorem sortRen_calls (cm tp:Nat) {w:World} {B:Nat} (hB:w.heap[B]?=some (.cells (hcells (mkRen cm tp)).toArray 194 (0,0))):
  Calls Tryz.prog 66 #[.slice (some ⟨B,0,none⟩) 2 2] w fun e w'=>e=.returned (.tuple #[])∧Below B w w'∧w'.heap[B]?=some (.cells (hcells (mkRen cm tp)).toArray 194 (0,0)):=
 sorts_calls hB (allRV_flat (all_ren cm tp)) rfl (run_ren cm tp) (fun _=>allRV_uniq (all_ren cm tp)) size_Ren
theorem size_Pre:(VS.ty.get 141).map (fun i=>i.size)=some 2:=by kernel_rfl
theorem sortPre_calls (cm bs bm:Nat) {w:World} {B:Nat} (hB:w.heap[B]?=some (.cells (hcells (mkPre cm bs bm)).toArray 141 (0,0))):
  Calls Tryz.prog 71 #[.slice (some ⟨B,0,none⟩) 4 4] w fun e w'=>e=.returned (.tuple #[])∧Below B w w'∧w'.heap[B]?=some (.cells (hcells (mkPreR cm bs bm)).toArray 141 (0,0)):=
 sorts_calls hB (allRV_flat (all_pre cm bs bm)) rfl (run_pre cm bs bm) (fun _=>allRV_uniq (all_preR cm bs bm)) size_Pre
theorem size_Post:(VS.ty.get 154).map (fun i=>i.size)=some 2:=by kernel_rfl
theorem sortPost_calls (bs:Nat) {arr:Array Value} (h:RVs atomsN [] cmCells arr.toList) {w:World} {B:Nat} (hB:w.heap[B]?=some (.cells (hcells (mkPost bs arr)).toArray 154 (0,0))):
  Calls Tryz.prog 75 #[.slice (some ⟨B,0,none⟩) 3 3] w fun e w'=>e=.returned (.tuple #[])∧Below B w w'∧w'.heap[B]?=some (.cells (hcells (mkPost bs arr)).toArray 154 (0,0)):=
 sorts_calls hB (allRV_flat (all_post bs h)) rfl (run_post bs) (fun _=>allRV_uniq (all_post bs h)) size_Post
theorem size_Text:(VS.ty.get 207).map (fun i=>i.size)=some 2:=by kernel_rfl
theorem sortText_calls (bs:Nat) {arr:Array Value} (h:RVs atomsN [] cmCells arr.toList) {w:World} {B:Nat} (hB:w.heap[B]?=some (.cells (hcells (mkText bs arr)).toArray 207 (0,0))):
  Calls Tryz.prog 86 #[.slice (some ⟨B,0,none⟩) 2 2] w fun e w'=>e=.returned (.tuple #[])∧Below B w w'∧w'.heap[B]?=some (.cells (hcells (mkText bs arr)).toArray 207 (0,0)):=
 sorts_calls hB (allRV_flat (all_text bs h)) rfl (run_text bs) (fun _=>allRV_uniq (all_text bs h)) size_Text
end Vx
namespace Go.Proofs.YtbheflncgmhadaaGreat.Hand
open Go.RowKit Go.Proofs.YtbheflncgmhadaaGreatW.PrintWords Go.Proofs.YtbheflncgmhadaaGreatW.PrintLast Go.Proofs.YtbheflncgmhadaaGreatW.PrintMore
attribute [local go_sem] run_store_func'
open Vx (mkRen mkPre mkPreR mkPost mkText)
theorem getRenderHandlers_calls (w:World) (C cm tp:Nat) (h:Handlers w C 3 (mkRen cm tp)):
  Calls Tryz.prog 43 #[.pointer (some ⟨C,0,none⟩)] w fun e w'=>∃ g,e=.returned (.slice (some ⟨g,0,none⟩) 2 2)∧Below w.heap.size w w'∧w'.heap[g]?=some (.cells (hcells (mkRen cm tp)).toArray 194 (0,0)):=by
 obtain ⟨g,c,h1,h2,h3⟩:=h
 have h1':w.cell? ⟨C,3,none⟩=some (.slice (some ⟨g,0,none⟩) 2 c):=h1
 obtain ⟨cur,hcs,hmk⟩:=fetch_make w 102 194 2 _ _ (by rfl) (by rfl) (by rfl) (by rfl) (by decide) (by omega)
 have hcp:=fun ty=>fetch_copy w 102 194 ty g c (mkRen cm tp) cur hcs (by rfl) (by rfl) h3 (by
  intro x hx
  simp only [mkRen,List.mem_cons,List.not_mem_nil,or_false] at hx
  rcases hx with rfl|rfl <;> rfl)
 have hC1:(w.alloc (.cells cur 194 (0,0))).cell? ⟨C,3,none⟩=some (.slice (some ⟨g,0,none⟩) 2 c):=cell_keep ((Below.refl _ _).alloc (Nat.le_refl _) _) h1'
 have hS:=am (Vx.sortRen_calls cm tp (w:=w.alloc (.cells (hcells (mkRen cm tp)).toArray 194 (0,0))) (B:=w.heap.size) (alloc_new ..))
 simp only [show (mkRen cm tp).length=2 from rfl] at hcp
 generalize hcells (mkRen cm tp)=L at *
 have hmk':(Instr.makeSlice 102 (.int .i64 2) (.int .i64 2)).run Tryz.prog w=_:=hmk
 clear h1 h2 h3 hmk
 go_enter Tryz.func43,Tryz.ntmps43
 go_wp2_with (go_at_call 66;fail)
 refine hS.out.mono ?_
 rintro e w1 ⟨rfl,hb,hB⟩
 clear hS hmk' hcp hC1 h1'
 go_wp2
 go_ret
 exact ⟨_,rfl,((Below.refl _ _).alloc (Nat.le_refl _) _).trans hb,hB⟩
theorem getPreRenderHandlers_calls (w:World) (C cm bs bm:Nat) (h:Handlers w C 2 (mkPre cm bs bm)):
  Calls Tryz.prog 52 #[.pointer (some ⟨C,0,none⟩)] w fun e w'=>∃ g,e=.returned (.slice (some ⟨g,0,none⟩) 4 4)∧Below w.heap.size w w'∧w'.heap[g]?=some (.cells (hcells (mkPreR cm bs bm)).toArray 141 (0,0)):=by
 obtain ⟨g,c,h1,h2,h3⟩:=h
 have h1':w.cell? ⟨C,2,none⟩=some (.slice (some ⟨g,0,none⟩) 4 c):=h1
 obtain ⟨cur,hcs,hmk⟩:=fetch_make w 100 141 4 _ _ (by rfl) (by rfl) (by rfl) (by rfl) (by decide) (by omega)
 have hcp:=fun ty=>fetch_copy w 100 141 ty g c (mkPre cm bs bm) cur hcs (by rfl) (by rfl) h3 (by
  intro x hx
  simp only [mkPre,List.mem_cons,List.not_mem_nil,or_false] at hx
  rcases hx with rfl|rfl|rfl|rfl <;> rfl)
 have hC1:(w.alloc (.cells cur 141 (0,0))).cell? ⟨C,2,none⟩=some (.slice (some ⟨g,0,none⟩) 4 c):=cell_keep ((Below.refl _ _).alloc (Nat.le_refl _) _) h1'
 have hS:=am (Vx.sortPre_calls cm bs bm (w:=w.alloc (.cells (hcells (mkPre cm bs bm)).toArray 141 (0,0))) (B:=w.heap.size) (alloc_new ..))
 simp only [show (mkPre cm bs bm).length=4 from rfl] at hcp
 generalize hcells (mkPre cm bs bm)=L0 at *
 generalize hcells (mkPreR cm bs bm)=L at *
 have hmk':(Instr.makeSlice 100 (.int .i64 4) (.int .i64 4)).run Tryz.prog w=_:=hmk
 clear h1 h2 h3 hmk
 go_enter Tryz.func52,Tryz.ntmps52
 go_wp2_with (go_at_call 71;fail)
 refine hS.out.mono ?_
 rintro e w1 ⟨rfl,hb,hB⟩
 clear hS hmk' hcp hC1 h1'
 go_wp2
 go_ret
 exact ⟨_,rfl,((Below.refl _ _).alloc (Nat.le_refl _) _).trans hb,hB⟩
theorem getPostRenderHandlers_calls (w:World) (C bs:Nat) {arr:Array Value} (ha:Vx.RVs Vx.atomsN [] Vx.cmCells arr.toList) (h:Handlers w C 4 (mkPost bs arr)):
  Calls Tryz.prog 55 #[.pointer (some ⟨C,0,none⟩)] w fun e w'=>∃ g,e=.returned (.slice (some ⟨g,0,none⟩) 3 3)∧Below w.heap.size w w'∧w'.heap[g]?=some (.cells (hcells (mkPost bs arr)).toArray 154 (0,0)):=by
 obtain ⟨g,c,h1,h2,h3⟩:=h
 have h1':w.cell? ⟨C,4,none⟩=some (.slice (some ⟨g,0,none⟩) 3 c):=h1
 obtain ⟨cur,hcs,hmk⟩:=fetch_make w 104 154 3 _ _ (by rfl) (by rfl) (by rfl) (by rfl) (by decide) (by omega)
 have hcp:=fun ty=>fetch_copy w 104 154 ty g c (mkPost bs arr) cur hcs (by rfl) (by rfl) h3 (by
  intro x hx
  simp only [mkPost,List.mem_cons,List.not_mem_nil,or_false] at hx
  rcases hx with rfl|rfl|rfl <;> rfl)
 have hC1:(w.alloc (.cells cur 154 (0,0))).cell? ⟨C,4,none⟩=some (.slice (some ⟨g,0,none⟩) 3 c):=cell_keep ((Below.refl _ _).alloc (Nat.le_refl _) _) h1'
 have hS:=am (Vx.sortPost_calls bs ha (w:=w.alloc (.cells (hcells (mkPost bs arr)).toArray 154 (0,0))) (B:=w.heap.size) (alloc_new ..))
 simp only [show (mkPost bs arr).length=3 from rfl] at hcp
 generalize hcells (mkPost bs arr)=L at *
 have hmk':(Instr.makeSlice 104 (.int .i64 3) (.int .i64 3)).run Tryz.prog w=_:=hmk
 clear h1 h2 h3 hmk
 go_enter Tryz.func55,Tryz.ntmps55
 go_wp2_with (go_at_call 75;fail)
 refine hS.out.mono ?_
 rintro e w1 ⟨rfl,hb,hB⟩
 clear hS hmk' hcp hC1 h1'
 go_wp2
 go_ret
 exact ⟨_,rfl,((Below.refl _ _).alloc (Nat.le_refl _) _).trans hb,hB⟩
theorem getTextTransformHandlers_calls (w:World) (C bs:Nat) {arr:Array Value} (ha:Vx.RVs Vx.atomsN [] Vx.cmCells arr.toList) (h:Handlers w C 5 (mkText bs arr)):
  Calls Tryz.prog 79 #[.pointer (some ⟨C,0,none⟩)] w fun e w'=>∃ g,e=.returned (.slice (some ⟨g,0,none⟩) 2 2)∧Below w.heap.size w w'∧w'.heap[g]?=some (.cells (hcells (mkText bs arr)).toArray 207 (0,0)):=by
 obtain ⟨g,c,h1,h2,h3⟩:=h
 have h1':w.cell? ⟨C,5,none⟩=some (.slice (some ⟨g,0,none⟩) 2 c):=h1
 obtain ⟨cur,hcs,hmk⟩:=fetch_make w 106 207 2 _ _ (by rfl) (by rfl) (by rfl) (by rfl) (by decide) (by omega)
 have hcp:=fun ty=>fetch_copy w 106 207 ty g c (mkText bs arr) cur hcs (by rfl) (by rfl) h3 (by
  intro x hx
  simp only [mkText,List.mem_cons,List.not_mem_nil,or_false] at hx
  rcases hx with rfl|rfl <;> rfl)
 have hC1:(w.alloc (.cells cur 207 (0,0))).cell? ⟨C,5,none⟩=some (.slice (some ⟨g,0,none⟩) 2 c):=cell_keep ((Below.refl _ _).alloc (Nat.le_refl _) _) h1'
 have hS:=am (Vx.sortText_calls bs ha (w:=w.alloc (.cells (hcells (mkText bs arr)).toArray 207 (0,0))) (B:=w.heap.size) (alloc_new ..))
 simp only [show (mkText bs arr).length=2 from rfl] at hcp
 generalize hcells (mkText bs arr)=L at *
 have hmk':(Instr.makeSlice 106 (.int .i64 2) (.int .i64 2)).run Tryz.prog w=_:=hmk
 clear h1 h2 h3 hmk
 go_enter Tryz.func79,Tryz.ntmps79
 go_wp2_with (go_at_call 86;fail)
 refine hS.out.mono ?_
 rintro e w1 ⟨rfl,hb,hB⟩
 clear hS hmk' hcp hC1 h1'
 go_wp2
 go_ret
 exact ⟨_,rfl,((Below.refl _ _).alloc (Nat.le_refl _) _).trans hb,hB⟩
end Go.Proofs.YtbheflncgmhadaaGreat.Hand
