/- The collapsing of blanks. Conditions: those in each statement. -/
import Derived.Test.YtbheflncgmhadaaGreatXf
import Derived.Test.YtbheflncgmhadaaGreatXg
import Derived.LaidEqlPtr
set_option linter.unusedVariables false
set_option linter.unusedSimpArgs false
set_option maxHeartbeats 40000000
set_option maxRecDepth 100000
namespace Go.Proofs.YtbheflncgmhadaaGreat.Hand
open Go.RowKit Go.Proofs.YtbheflncgmhadaaGreatW.PrintWords Go.Proofs.YtbheflncgmhadaaGreatW.PrintLast Go.Proofs.YtbheflncgmhadaaGreatW.PrintMore
attribute [local go_sem] run_store_func'
theorem collapseBlock_calls (N:Nat) (w:World) (b X C Bc:Nat) (i:NI) (kids:List DT) (par prev next:Option Nat) (h:NodeAt w b i kids par prev next) (hx:w.cell? ⟨X,1,none⟩=some (.pointer (some ⟨C,0,none⟩))) (hm:MapQuiet N w C 8 97 tagNames)
  (hbc:w.cell? ⟨Bc,0,none⟩=some (.iface 187 (.pointer (some ⟨X,0,none⟩)))):
   Calls Tryz.prog 146 #[.pointer (some ⟨b,0,none⟩),.pointer (some ⟨Bc,0,none⟩)] w fun e w'=>e=.returned (.bool (decide (i.nm=nTable)))∧w'=w:=by
 have CN:=am (name_calls w b i kids par prev next h.at_ h.shape.1)
 have CS:=am (ctxTagType_calls N w X C i h.shape.1 hx hm)
 have CB:=am (isBlockName_calls w i h.shape.1)
 have HT:tagOf i.nm=tagOf i.nm:=rfl
 have hcase:(i.nm=nTable∧tagOf i.nm=.tuple #[.string ⟨#[98,108,111,99,107]⟩,.bool true])∨(i.nm≠nTable∧tagOf i.nm=.tuple #[.string ⟨#[105,110,108,105,110,101]⟩,.bool true])∨(i.nm≠nTable∧tagOf i.nm=.tuple #[.string ⟨#[]⟩,.bool false]):=by
   unfold tagOf
   by_cases h1:i.nm=nTable
   ·exact .inl ⟨h1,if_pos h1⟩
   ·rw [if_neg h1]
    by_cases h2:i.nm=nText
    ·exact .inr (.inl ⟨h1,if_pos h2⟩)
    ·exact .inr (.inr ⟨h1,if_neg h2⟩)
 have HC:=am hcase
 clear h hcase HT
 go_enter Tryz.func146,Tryz.ntmps146
 go_wp2_with (go_at_call 72;fail)
 refine CN.out.mono ?_
 rintro e w1 ⟨rfl,hw⟩
 rw [hw]
 clear hw
 go_wp2_with (go_at_call 463;fail)
 refine CS.out.mono ?_
 rintro e w1 ⟨rfl,hw⟩
 rw [hw]
 clear hw
 rcases HC.out with ⟨h1,h2⟩|⟨h1,h2⟩|⟨h1,h2⟩
 · rw [h2]
   go_wp2
   go_ret
   exact ⟨by rw [decide_eq_true h1];rfl,rfl⟩
 · rw [h2]
   go_wp2
   go_ret
   exact ⟨by rw [decide_eq_false h1];rfl,rfl⟩
 · rw [h2]
   go_wp2_with (go_at_call 147;fail)
   refine CB.out.mono ?_
   rintro e w1 ⟨rfl,hw⟩
   rw [hw]
   clear hw
   go_wp2
   go_ret
   exact ⟨by rw [decide_eq_false h1];rfl,rfl⟩
theorem collapsePre_calls (w:World) (b:Nat) (i:NI) (kids:List DT) (par prev next:Option Nat) (h:NodeAt w b i kids par prev next):
  Calls Tryz.prog 167 #[.pointer (some ⟨b,0,none⟩)] w fun e w'=>e=.returned (.bool false)∧w'=w:=by
 have CN:=am (name_calls w b i kids par prev next h.at_ h.shape.1)
 have HN:=am h.shape.1.cases
 clear h
 go_enter Tryz.func167,Tryz.ntmps167
 go_wp2_with (go_at_call 72;fail)
 refine CN.out.mono ?_
 rintro e w1 ⟨rfl,hw⟩
 rw [hw]
 clear hw
 rcases HN.out with e|e|e|e|e|e|e|e|e <;> rw [e] <;> go_wp2 <;> go_ret <;> exact ⟨rfl,rfl⟩
def voids:List ByteArray:=[⟨#[97,114,101,97]⟩,⟨#[98,97,115,101]⟩,⟨#[98,114]⟩,⟨#[99,111,108]⟩,⟨#[99,111,109,109,97,110,100]⟩,⟨#[101,109,98,101,100]⟩,⟨#[104,114]⟩,⟨#[105,109,103]⟩,⟨#[105,110,112,117,116]⟩,⟨#[107,101,121,103,101,110]⟩,⟨#[108,105,110,107]⟩,⟨#[109,101,116,97]⟩,⟨#[112,97,114,97,109]⟩,⟨#[116,114,97,99,107]⟩,⟨#[119,98,114]⟩]
theorem voids_calls (w:World):Calls Tryz.prog 176 #[] w fun e w'=>e=.returned (.slice (some ⟨w.heap.size,0,none⟩) 15 15)∧w'=w.alloc (.cells (voids.map fun s=>Value.string s).toArray 9):=by
 go_enter Tryz.func176,Tryz.ntmps176
 go_wp2
 go_ret
 exact ⟨rfl,rfl⟩
theorem voids_not (i:NI) (hp:i.Plain):∀ k,k < 15→∃ s,(voids.map fun s=>Value.string s).toArray[k]?=some (.string s)∧(s.toList==i.nm.toList)=false:=by
 have key:∀ nm∈[nText,nDoc,nTable,nThead,nTbody,nTfoot,nTr,nTd,nTh],∀ s∈voids,s.data.toList≠nm.data.toList:=by decide
 intro k hk
 have hl:voids.length=15:=rfl
 refine ⟨voids[k]'(by omega),by simp [hl,hk],?_⟩
 rw [beq_eq_false_iff_ne,ByteArray.toList_eq,ByteArray.toList_eq]
 refine key i.nm ?_ _ (List.getElem_mem _)
 rcases hp.cases with e|e|e|e|e|e|e|e|e <;> rw [e] <;> simp [nText,nDoc,nTable,nThead,nTbody,nTfoot,nTr,nTd,nTh]
theorem collapseVoid_calls (w:World) (b:Nat) (i:NI) (kids:List DT) (par prev next:Option Nat) (h:NodeAt w b i kids par prev next):
  Calls Tryz.prog 166 #[.pointer (some ⟨b,0,none⟩)] w fun e w'=>e=.returned (.bool false)∧Below w.heap.size w w':=by
 have CN:=am (name_calls w b i kids par prev next h.at_ h.shape.1)
 have HN:=am (voids_not i h.shape.1)
 clear h
 go_enter Tryz.func166,Tryz.ntmps166
 go_wp2_with (go_at_call 72;fail)
 refine CN.out.mono ?_
 rintro e w1 ⟨rfl,hw⟩
 rw [hw]
 clear hw
 go_wp2_with (go_at_call 176;fail)
 refine (voids_calls w).mono ?_
 rintro e w1 ⟨rfl,hw⟩
 have hall:∀ k,k < 15→∃ s,w1.cell? ⟨w.heap.size,k,none⟩=some (.string s)∧(s.toList==i.nm.toList)=false:=by
  intro k hk
  obtain ⟨s,h1,h2⟩:=HN.out k hk
  refine ⟨s,?_,h2⟩
  rw [hw]
  simp only [World.cell?,alloc_new]
  exact h1
 have HA:=am hall
 have HB:Aside0 (Below w.heap.size w w1):=⟨by rw [hw];exact (Below.refl _ _).alloc (Nat.le_refl _) _⟩
 clear hw hall
 go_wp2
 go_loopg [10] 15 (fun gf v10 wx=>∃ k:Nat,v10=.int .i64 (k:Int)∧wx=w1∧Aside0 (k+gf=15))
 case atStart=>exact ⟨0,rfl,rfl,⟨rfl⟩⟩
 case round=>
  obtain ⟨k,rfl,hwx,HG⟩:=hrel
  subst hwx
  by_cases hk:k < 15
  ·obtain ⟨g',rfl⟩:∃ g',gk=g'+1:=⟨gk - 1,by have:=HG.out;omega⟩
   obtain ⟨s,h1,h2⟩:=HA.out k hk
   have hkZ:(k:Int) < 15:=by omega
   have hadd:(k:Int)+1≤1000:=by omega
   go_wp2
   go_roundg g'
   case measure=>omega
   case rel=>exact ⟨k+1,by go_num,rfl,⟨by have:=HG.out;omega⟩⟩
  ·have hkZ:¬ (k:Int) < 15:=by omega
   go_wp2
   go_ret
   exact ⟨rfl,HB.out⟩
theorem info_node:∃ j,Tryz.prog.info? 161=some j∧j.size≠0:=by
 have h:(Tryz.prog.info? 161).map (·.size)=some 10:=by kernel_rfl
 obtain ⟨j,h1,h2⟩:=Option.map_eq_some_iff.1 h
 exact ⟨j,h1,by rw [h2];decide⟩
theorem equal_same (w:World) (b:Nat):(Op.equal 67 (.pointer (some ⟨b,0,none⟩)) (.pointer (some ⟨b,0,none⟩))).run Tryz.prog w=.ok true w:=by
 obtain ⟨j,h1,h2⟩:=info_node
 have h:∀ d:Nat,(Op.equalIn (d+1) 67 (.pointer (some ⟨b,0,none⟩)) (.pointer (some ⟨b,0,none⟩))).run Tryz.prog w=.ok true w:=fun d=>by
  simp [Op.equalIn,run_underlying Tryz.underlying67,sizeOf,typeInfo,h1,run_sameAddr_same]
 simp [Op.equal,Op.maxDepth,h 9999]
def Clear (w:World) (b:Nat):Prop:=∃ c t,w.heap[b]?=some (.cells c t (0,0))
theorem Clear.keep {w w1:World} {b:Nat} (h:Clear w b) (hb:Below w.heap.size w w1):Clear w1 b:=by
 obtain ⟨c,t,h⟩:=h
 exact ⟨c,t,by rw [hb.block b (heap_lt h)];exact h⟩
theorem NodeAt.clear {w:World} {b:Nat} {i:NI} {kids:List DT} {par prev next:Option Nat} (h:NodeAt w b i kids par prev next):Clear w b:=⟨_,_,h.at_.1⟩
theorem equal_other (w:World) (b c:Nat) (h:b≠c) (hb:Clear w b) (hc:Clear w c):(Op.equal 67 (.pointer (some ⟨b,0,none⟩)) (.pointer (some ⟨c,0,none⟩))).run Tryz.prog w=.ok false w:=by
 obtain ⟨j,h1,h2⟩:=info_node
 obtain ⟨cb,tb,hb⟩:=hb
 obtain ⟨cc,tc,hc⟩:=hc
 have h:∀ d:Nat,(Op.equalIn (d+1) 67 (.pointer (some ⟨b,0,none⟩)) (.pointer (some ⟨c,0,none⟩))).run Tryz.prog w=.ok false w:=fun d=>by
  simp [Op.equalIn,run_underlying Tryz.underlying67,sizeOf,typeInfo,h1,h2,run_sameAddr_other w (show (⟨b,0,none⟩:Addr)≠⟨c,0,none⟩ by simp [h]) hb hc]
 simp [Op.equal,Op.maxDepth,h 9999]
theorem equal_nil (w:World) (c:Nat):(Op.equal 67 (.pointer none) (.pointer (some ⟨c,0,none⟩))).run Tryz.prog w=.ok false w:=by
 have h:∀ d:Nat,(Op.equalIn (d+1) 67 (.pointer none) (.pointer (some ⟨c,0,none⟩))).run Tryz.prog w=.ok false w:=fun d=>by
  simp [Op.equalIn,run_underlying Tryz.underlying67]
 simp [Op.equal,Op.maxDepth,h 9999]
theorem equal_pv (w:World) (p:Option Nat) (c:Nat) (h:p≠some c) (hp:∀ b,p=some b→Clear w b) (hc:Clear w c):(Op.equal 67 (pv p) (.pointer (some ⟨c,0,none⟩))).run Tryz.prog w=.ok false w:=by
 cases p with
 |none=>exact equal_nil w c
 |some b=>exact equal_other w b c (fun e=>h (by rw [e])) (hp b rfl) hc
theorem eql_of {w:World} {x y:Option Addr} {r:Bool} (h:(Op.equal 67 (.pointer x) (.pointer y)).run Tryz.prog w=.ok r w):(binOp .eql 67 (.pointer x) (.pointer y)).run Tryz.prog w=.ok (.bool r) w:=by
 simp only [binOp]
 simp [h]
theorem neq_of {w:World} {x y:Option Addr} {r:Bool} (h:(Op.equal 67 (.pointer x) (.pointer y)).run Tryz.prog w=.ok r w):(binOp .neq 67 (.pointer x) (.pointer y)).run Tryz.prog w=.ok (.bool (!r)) w:=by
 simp only [binOp]
 simp [h]
structure DomAt (w:World) (D Bc:Nat):Prop where
 isBlock:w.cell? ⟨D,0,none⟩=some (.func (.func 146) #[] #[.pointer (some ⟨Bc,0,none⟩)])
 isVoid:w.cell? ⟨D,1,none⟩=some (.func (.func 166) #[] #[])
 isPre:w.cell? ⟨D,2,none⟩=some (.func (.func 167) #[] #[])
theorem DomAt.keep {w w1:World} {D Bc:Nat} (h:DomAt w D Bc) (hb:Below w.heap.size w w1):DomAt w1 D Bc:=⟨cell_keep hb h.isBlock,cell_keep hb h.isVoid,cell_keep hb h.isPre⟩
def From (w:World) (prev:Option Nat) (b:Nat) (f:Bool):Prop:=
 (f=true∧∃ q,prev=some q∧w.cell? ⟨q,0,none⟩=some (pv (some b)))∨(f=false∧(prev=none∨∃ q pq,prev=some q∧w.cell? ⟨q,0,none⟩=some (pv pq)∧pq≠some b∧∀ p,pq=some p→Clear w p))
def StepV (w:World) (v:Nat×Bool) (x:Nat×Bool):Prop:=∃ par fc nx,w.cell? ⟨v.1,0,none⟩=some (pv par)∧w.cell? ⟨v.1,1,none⟩=some (pv fc)∧w.cell? ⟨v.1,4,none⟩=some (pv nx)∧(∀ p,par=some p→Clear w p) ∧
 ((v.2=false∧fc=some x.1∧x.2=false∧par≠some x.1)∨((v.2=true∨fc=none)∧nx=some x.1∧x.2=false∧par≠some x.1)∨((v.2=true∨fc=none)∧nx=none∧par=some x.1∧x.2=true))
theorem StepV.from {w:World} {v x:Nat×Bool} (h:StepV w v x):From w (some v.1) x.1 x.2:=by
 obtain ⟨par,fc,nx,h0,h1,h4,hc,h|h|h⟩:=h
 ·exact .inr ⟨h.2.2.1,.inr ⟨v.1,par,rfl,h0,h.2.2.2,hc⟩⟩
 ·exact .inr ⟨h.2.2.1,.inr ⟨v.1,par,rfl,h0,h.2.2.2,hc⟩⟩
 ·exact .inl ⟨h.2.2.2,v.1,rfl,by rw [h0,h.2.2.1]⟩
theorem collapseNext_calls (w:World) (D Bc:Nat) (hD:DomAt w D Bc) (b:Nat) (i:NI) (kids:List DT) (par prev next:Option Nat) (h:NodeAt w b i kids par prev next) (pr:Option Nat) (f:Bool) (hf:From w pr b f) (x:Nat×Bool) (hs:StepV w (b,f) x):
  Calls Tryz.prog 156 #[pv pr,.pointer (some ⟨b,0,none⟩),.pointer (some ⟨D,0,none⟩)] w fun e w'=>e=.returned (.pointer (some ⟨x.1,0,none⟩))∧w'=w:=by
 obtain ⟨p0,fc,nx,h0,h1,h4,-,hx⟩:=hs
 have hcl:=h.clear
 have CP:=am (collapsePre_calls w b i kids par prev next h)
 have d2:=hD.isPre
 simp only at h0 h1 h4 hx
 clear h hD
 rcases hf with ⟨rfl,q,rfl,hq⟩|⟨rfl,hfr⟩
 ·have he:=eql_of (equal_same w b)
  change w.cell? ⟨q,0,none⟩=some (.pointer (some ⟨b,0,none⟩)) at hq
  have e:pv (some q)=.pointer (some ⟨q,0,none⟩):=rfl
  rw [e]
  have hx':(nx=some x.1)∨(nx=none∧p0=some x.1):=by
   rcases hx with h|h|h
   ·exact absurd h.1 (by simp)
   ·exact .inl h.2.1
   ·exact .inr ⟨h.2.1,h.2.2.1⟩
  clear hx
  rcases hx' with rfl|⟨rfl,rfl⟩
  ·change w.cell? ⟨b,4,none⟩=some (.pointer (some ⟨x.1,0,none⟩)) at h4
   go_enter Tryz.func156,Tryz.ntmps156
   go_wp2
   go_ret
   exact ⟨rfl,rfl⟩
  ·change w.cell? ⟨b,4,none⟩=some (.pointer none) at h4
   change w.cell? ⟨b,0,none⟩=some (.pointer (some ⟨x.1,0,none⟩)) at h0
   go_enter Tryz.func156,Tryz.ntmps156
   go_wp2
   go_ret
   exact ⟨rfl,rfl⟩
 ·have hx':(fc=some x.1)∨(fc=none∧nx=some x.1)∨(fc=none∧nx=none∧p0=some x.1):=by
   rcases hx with h|h|h
   ·exact .inl h.2.1
   ·exact .inr (.inl ⟨h.1.resolve_left (by simp),h.2.1⟩)
   ·exact .inr (.inr ⟨h.1.resolve_left (by simp),h.2.1,h.2.2.1⟩)
  clear hx
  have fin:∀ (pr:Option Nat),(pr=none∨∃ q pq,pr=some q∧w.cell? ⟨q,0,none⟩=some (pv pq)∧(binOp .eql 67 (pv pq) (.pointer (some ⟨b,0,none⟩))).run Tryz.prog w=.ok (.bool false) w)→Calls Tryz.prog 156 #[pv pr,.pointer (some ⟨b,0,none⟩),.pointer (some ⟨D,0,none⟩)] w fun e w'=>e=.returned (.pointer (some ⟨x.1,0,none⟩))∧w'=w:=by
   rintro pr (rfl|⟨q,pq,rfl,hq,he⟩)
   ·have e:pv none=.pointer none:=rfl
    rw [e]
    rcases hx' with rfl|⟨rfl,rfl⟩|⟨rfl,rfl,rfl⟩
    ·change w.cell? ⟨b,1,none⟩=some (.pointer (some ⟨x.1,0,none⟩)) at h1
     go_enter Tryz.func156,Tryz.ntmps156
     go_wp2_with (go_at_call 167;fail)
     refine CP.out.mono ?_
     rintro e w1 ⟨rfl,hw⟩
     rw [hw]
     clear hw
     go_wp2
     go_ret
     exact ⟨rfl,rfl⟩
    ·change w.cell? ⟨b,1,none⟩=some (.pointer none) at h1
     change w.cell? ⟨b,4,none⟩=some (.pointer (some ⟨x.1,0,none⟩)) at h4
     go_enter Tryz.func156,Tryz.ntmps156
     go_wp2_with (go_at_call 167;fail)
     refine CP.out.mono ?_
     rintro e w1 ⟨rfl,hw⟩
     rw [hw]
     clear hw
     go_wp2
     go_ret
     exact ⟨rfl,rfl⟩
    ·change w.cell? ⟨b,1,none⟩=some (.pointer none) at h1
     change w.cell? ⟨b,4,none⟩=some (.pointer none) at h4
     change w.cell? ⟨b,0,none⟩=some (.pointer (some ⟨x.1,0,none⟩)) at h0
     go_enter Tryz.func156,Tryz.ntmps156
     go_wp2_with (go_at_call 167;fail)
     refine CP.out.mono ?_
     rintro e w1 ⟨rfl,hw⟩
     rw [hw]
     clear hw
     go_wp2
     go_ret
     exact ⟨rfl,rfl⟩
   ·have e:pv (some q)=.pointer (some ⟨q,0,none⟩):=rfl
    rw [e]
    obtain ⟨vo,hvo⟩:∃ vo,pv pq=.pointer vo:=⟨_,rfl⟩
    rw [hvo] at hq he
    rcases hx' with rfl|⟨rfl,rfl⟩|⟨rfl,rfl,rfl⟩
    ·change w.cell? ⟨b,1,none⟩=some (.pointer (some ⟨x.1,0,none⟩)) at h1
     go_enter Tryz.func156,Tryz.ntmps156
     go_wp2_with (go_at_call 167;fail)
     refine CP.out.mono ?_
     rintro e w1 ⟨rfl,hw⟩
     rw [hw]
     clear hw
     go_wp2
     go_ret
     exact ⟨rfl,rfl⟩
    ·change w.cell? ⟨b,1,none⟩=some (.pointer none) at h1
     change w.cell? ⟨b,4,none⟩=some (.pointer (some ⟨x.1,0,none⟩)) at h4
     go_enter Tryz.func156,Tryz.ntmps156
     go_wp2_with (go_at_call 167;fail)
     refine CP.out.mono ?_
     rintro e w1 ⟨rfl,hw⟩
     rw [hw]
     clear hw
     go_wp2
     go_ret
     exact ⟨rfl,rfl⟩
    ·change w.cell? ⟨b,1,none⟩=some (.pointer none) at h1
     change w.cell? ⟨b,4,none⟩=some (.pointer none) at h4
     change w.cell? ⟨b,0,none⟩=some (.pointer (some ⟨x.1,0,none⟩)) at h0
     go_enter Tryz.func156,Tryz.ntmps156
     go_wp2_with (go_at_call 167;fail)
     refine CP.out.mono ?_
     rintro e w1 ⟨rfl,hw⟩
     rw [hw]
     clear hw
     go_wp2
     go_ret
     exact ⟨rfl,rfl⟩
  refine fin pr ?_
  rcases hfr with rfl|⟨q,pq,rfl,hq,hne,hc⟩
  ·exact .inl rfl
  ·exact .inr ⟨q,pq,rfl,hq,eql_of (equal_pv w pq b hne hc hcl)⟩
end Go.Proofs.YtbheflncgmhadaaGreat.Hand
namespace Go.Proofs.YtbheflncgmhadaaGreat.Hand
open Go.RowKit Go.Proofs.YtbheflncgmhadaaGreatW.PrintWords Go.Proofs.YtbheflncgmhadaaGreatW.PrintLast Go.Proofs.YtbheflncgmhadaaGreatW.PrintMore
def Wordy (n:Int):Prop:=Alnum n∨n=32
structure TextOk (s:ByteArray):Prop where
 ne:s.size≠0
 le:s.size≤2147483647
 chars:∀ (i:Nat) (h:i < s.size),Wordy ((s[i]'h).toNat:Int)
 dbl:∀ (i:Nat) (h:i+1 < s.size),(s[i]'(by omega)).toNat=32→(s[i+1]'h).toNat≠32
 first:∀ h:0 < s.size,(s[0]'h).toNat≠32
 last:∀ h:s.size - 1 < s.size,(s[s.size - 1]'h).toNat≠32
def NI.TextOk (i:NI):Prop:=i.kind=1→Hand.TextOk i.data
mutual
def DT.AllP (P:NI→Prop):DT→Prop
 |.node _ i kids=>P i∧DT.AllPL P kids
def DT.AllPL (P:NI→Prop):List DT→Prop
 |[]=>True
 |t::r=>t.AllP P∧DT.AllPL P r
end
theorem DT.mem_allPL {P:NI→Prop} {w:World} (l:List DT) (IH:∀ t∈l,∀ (par prev next:Option Nat),DT.At w par prev next t→t.Shape→t.AllP P→∀ c∈t.all,∃ i kids par prev next,NodeAt w c i kids par prev next∧P i):
  ∀ (b:Nat) (prev:Option Nat),KidsAt w b prev l→DT.ShapeL l→DT.AllPL P l→∀ c∈DT.allL l,∃ i kids par prev next,NodeAt w c i kids par prev next∧P i:=by
 induction l with
 |nil=>intro b prev _ _ _ c hc;rw [DT.allL] at hc;cases hc
 |cons t r ih=>
  intro b prev h hs hp c hc
  rw [DT.allL_cons,List.mem_append] at hc
  rcases hc with hc|hc
  ·exact IH t (List.mem_cons_self ..) (some b) prev (firstB r) h.1 hs.1 hp.1 c hc
  ·exact ih (fun t ht=>IH t (List.mem_cons_of_mem _ ht)) b (some t.blk) h.2 hs.2 hp.2 c hc
theorem DT.mem_allP {P:NI→Prop} {w:World} (t:DT):∀ (par prev next:Option Nat),DT.At w par prev next t→t.Shape→t.AllP P→∀ c∈t.all,∃ i kids par prev next,NodeAt w c i kids par prev next∧P i:=by
 induction t using DT.induct with
 |h b i kids IH=>
 intro par prev next h hs hp c hc
 rw [DT.all,List.mem_cons] at hc
 rcases hc with rfl|hc
 ·exact ⟨i,kids,par,prev,next,⟨h,hs⟩,hp.1⟩
 ·exact DT.mem_allPL kids IH b none h.2 hs.2.2.2 hp.2 c hc
mutual
def DT.vis:DT→List (Nat×Bool)
 |.node b _ kids=>(b,false)::(DT.visL kids++if kids.isEmpty then [] else [(b,true)])
def DT.visL:List DT→List (Nat×Bool)
 |[]=>[]
 |t::r=>t.vis++DT.visL r
end
def RowV (S:Nat×Bool→Nat×Bool→Prop):List (Nat×Bool)→Nat×Bool→Prop
 |[],_=>True
 |[a],x=>S a x
 |a::c::r,x=>S a c∧RowV S (c::r) x
theorem RowV.append {S:Nat×Bool→Nat×Bool→Prop}:∀ {l:List (Nat×Bool)} {c:Nat×Bool} {r:List (Nat×Bool)} {x:Nat×Bool},RowV S l c→RowV S (c::r) x→RowV S (l++c::r) x
 |[],_,_,_,_,h=>h
 |[_],_,_,_,h1,h2=>⟨h1,h2⟩
 |_::d::l,_,_,_,⟨h1,h3⟩,h2=>⟨h1,RowV.append (l:=d::l) h3 h2⟩
theorem RowV.tail {S:Nat×Bool→Nat×Bool→Prop} {b:Nat×Bool} {r:List (Nat×Bool)} {x:Nat×Bool} (h:RowV S (b::r) x):RowV S r x:=by
 cases r with
 |nil=>trivial
 |cons c r=>exact h.2
theorem RowV.head {S:Nat×Bool→Nat×Bool→Prop} {b x:Nat×Bool} {r:List (Nat×Bool)} (h:RowV S (b::r) x):S b (r.head?.getD x):=by
 cases r with
 |nil=>exact h
 |cons c r=>exact h.1
theorem DT.vis_eq (t:DT):∃ l,t.vis=(t.blk,false)::l:=by
 obtain ⟨b,i,k⟩:=t
 exact ⟨_,by rw [DT.vis];rfl⟩
theorem DT.visL_cons (t:DT) (r:List DT):DT.visL (t::r)=t.vis++DT.visL r:=by rw [DT.visL]
theorem mem_blk {t:DT}:t.blk∈t.all:=by
 obtain ⟨l,h⟩:=DT.all_eq t
 rw [h];exact List.mem_cons_self ..
theorem nodup_parts {t:DT} {r:List DT} (h:(DT.allL (t::r)).Nodup):t.all.Nodup∧(DT.allL r).Nodup∧∀ x∈t.all,x∉DT.allL r:=by
 rw [DT.allL_cons,List.nodup_append] at h
 exact ⟨h.1,h.2.1,fun x hx hy=>h.2.2 x hx x hy rfl⟩
def behind (p:Nat):Option Nat→Nat×Bool
 |some s=>(s,false)
 |none=>(p,true)
theorem firstB_mem {l:List DT} {s:Nat} (h:firstB l=some s):s∈DT.allL l:=by
 cases l with
 |nil=>cases h
 |cons t r=>
  have:t.blk=s:=by simpa [firstB] using h
  subst this
  rw [DT.allL_cons,List.mem_append];exact .inl mem_blk
theorem DT.rowVL {w:World} (l:List DT) (IH:∀ t∈l,∀ (p:Nat) (prev next:Option Nat),DT.At w (some p) prev next t→t.all.Nodup→p∉t.all→next≠some p→Clear w p→RowV (StepV w) t.vis (behind p next)):
  ∀ (b:Nat) (prev:Option Nat),KidsAt w b prev l→(DT.allL l).Nodup→b∉DT.allL l→Clear w b→RowV (StepV w) (DT.visL l) (b,true):=by
 induction l with
 |nil=>intro b prev _ _ _ _;rw [DT.visL];trivial
 |cons t r ih=>
  intro b prev h hn hb hc
  obtain ⟨n1,n2,n3⟩:=nodup_parts hn
  rw [DT.allL_cons,List.mem_append,not_or] at hb
  have hr:=ih (fun t ht=>IH t (List.mem_cons_of_mem _ ht)) b (some t.blk) h.2 n2 hb.2 hc
  have ht:=IH t (List.mem_cons_self ..) b prev (firstB r) h.1 n1 hb.1 (fun e=>hb.2 (firstB_mem e)) hc
  rw [DT.visL_cons]
  cases r with
  |nil=>rw [DT.visL,List.append_nil];exact ht
  |cons u r=>
   obtain ⟨ul,hu⟩:=DT.vis_eq u
   rw [DT.visL_cons,hu] at hr ⊢
   exact RowV.append ht hr
theorem DT.rowV {w:World} (t:DT):∀ (p:Nat) (prev next:Option Nat),DT.At w (some p) prev next t→t.all.Nodup→p∉t.all→next≠some p→Clear w p→RowV (StepV w) t.vis (behind p next):=by
 induction t using DT.induct with
 |h b i kids IH=>
 intro p prev next h hn hp hnx hc
 have f:=At_fields h
 rw [DT.all,List.nodup_cons] at hn
 rw [DT.all,List.mem_cons,not_or] at hp
 have hcb:Clear w b:=⟨_,_,h.1⟩
 have hpc:∀ q,some p=some q→Clear w q:=fun q e=>by cases e;exact hc
 have last:∀ f0,(f0=true∨firstB kids=none)→StepV w (b,f0) (behind p next):=by
  intro f0 h0
  refine ⟨some p,firstB kids,next,f.1,f.2.1,f.2.2.2.2.1,hpc,?_⟩
  cases next with
  |none=>exact .inr (.inr ⟨h0,rfl,rfl,rfl⟩)
  |some s=>exact .inr (.inl ⟨h0,rfl,rfl,fun e=>hnx (by rw [e];rfl)⟩)
 cases kids with
 |nil=>
  rw [DT.vis,DT.visL]
  exact last false (.inr rfl)
 |cons k r=>
  have hL:=DT.rowVL (k::r) IH b none h.2 hn.2 hn.1 hcb
  obtain ⟨kl,hk⟩:=DT.vis_eq k
  have hd:RowV (StepV w) (DT.visL (k::r)++[(b,true)]) (behind p next):=RowV.append hL (last true (.inl rfl))
  rw [DT.visL_cons,hk] at hd
  rw [DT.vis,DT.visL_cons,hk]
  refine ⟨⟨some p,some k.blk,next,f.1,f.2.1,f.2.2.2.2.1,hpc,.inl ⟨rfl,rfl,rfl,fun e=>?_⟩⟩,hd⟩
  have hpk:p=k.blk:=by injection e
  exact hp.2 (by rw [DT.allL_cons,List.mem_append,hpk];exact .inl mem_blk)
theorem DT.vis_memL (l:List DT) (IH:∀ t∈l,∀ v∈t.vis,v.1∈t.all):∀ v∈DT.visL l,v.1∈DT.allL l:=by
 induction l with
 |nil=>intro v hv;rw [DT.visL] at hv;cases hv
 |cons t r ih=>
  intro v hv
  rw [DT.visL_cons,List.mem_append] at hv
  rw [DT.allL_cons,List.mem_append]
  rcases hv with hv|hv
  ·exact .inl (IH t (List.mem_cons_self ..) v hv)
  ·exact .inr (ih (fun t ht=>IH t (List.mem_cons_of_mem _ ht)) v hv)
theorem DT.vis_mem (t:DT):∀ v∈t.vis,v.1∈t.all:=by
 induction t using DT.induct with
 |h b i kids IH=>
 intro v hv
 rw [DT.all]
 rw [DT.vis,List.mem_cons] at hv
 rcases hv with rfl|hv
 ·exact List.mem_cons_self ..
 ·rw [List.mem_append] at hv
  rcases hv with hv|hv
  ·exact List.mem_cons_of_mem _ (DT.vis_memL kids IH v hv)
  ·split at hv
   ·cases hv
   ·rw [List.mem_singleton] at hv
    subst hv
    exact List.mem_cons_self ..
end Go.Proofs.YtbheflncgmhadaaGreat.Hand
namespace Go.Proofs.YtbheflncgmhadaaGreat.Hand
open Go.RowKit Go.Proofs.YtbheflncgmhadaaGreatW.PrintWords Go.Proofs.YtbheflncgmhadaaGreatW.PrintLast Go.Proofs.YtbheflncgmhadaaGreatW.PrintMore
attribute [local go_sem] run_store_func'
theorem box3 {w:World} {D:Nat} {x0 x1 x2:Value} {T:TypeId} (h:w.heap[D]?=some (.cells #[x0,x1,x2] T (0,0))):w.cell? ⟨D,0,none⟩=some x0∧w.cell? ⟨D,1,none⟩=some x1∧w.cell? ⟨D,2,none⟩=some x2∧w.frozen? ⟨D,0,none⟩=false∧w.frozen? ⟨D,1,none⟩=false∧w.frozen? ⟨D,2,none⟩=false:=by
 refine ⟨?_,?_,?_,?_,?_,?_⟩ <;> simp [World.cell?,World.frozen?,h]
theorem eqFunc_not (f:Fn) (x y:Array Value) (w:World):(binOp .eql 277 (.func f x y) .nilFunc).run Tryz.prog w=.ok (.bool false) w:=by
 have h:∀ d:Nat,(Op.equalIn (d+1) 277 (.func f x y) .nilFunc).run Tryz.prog w=.ok false w:=fun d=>by
  simp [Op.equalIn,run_underlying Tryz.underlying277]
 simp only [binOp]
 simp [Op.equal,Op.maxDepth,h 9999]
theorem eqFunc_nil (w:World):(binOp .eql 277 .nilFunc .nilFunc).run Tryz.prog w=.ok (.bool true) w:=by
 have h:∀ d:Nat,(Op.equalIn (d+1) 277 .nilFunc .nilFunc).run Tryz.prog w=.ok true w:=fun d=>by
  simp [Op.equalIn,run_underlying Tryz.underlying277]
 simp only [binOp]
 simp [Op.equal,Op.maxDepth,h 9999]
theorem fillDefault_calls (w:World) (D Bc:Nat) (h:w.heap[D]?=some (.cells #[.func (.func 146) #[] #[.pointer (some ⟨Bc,0,none⟩)],.nilFunc,.nilFunc] 279 (0,0))):
  Calls Tryz.prog 155 #[.pointer (some ⟨D,0,none⟩)] w fun e w'=>e=.returned (.pointer (some ⟨D,0,none⟩))∧w'=(w.setCell ⟨D,1,none⟩ (.func (.func 166) #[] #[])).setCell ⟨D,2,none⟩ (.func (.func 167) #[] #[]):=by
 obtain ⟨c0,c1,c2,f0,f1,f2⟩:=box3 h
 have q1:=eqFunc_not
 have q2:=eqFunc_nil
 go_enter Tryz.func155,Tryz.ntmps155
 go_wp2
 go_ret
 exact ⟨rfl,rfl⟩
theorem From.keep {w w1:World} (hb:Below w.heap.size w w1) {pr:Option Nat} {b:Nat} {f:Bool} (h:From w pr b f):From w1 pr b f:=by
 rcases h with ⟨h1,q,h2,h3⟩|⟨h1,h2|⟨q,pq,h2,h3,h4,h5⟩⟩
 ·exact .inl ⟨h1,q,h2,cell_keep hb h3⟩
 ·exact .inr ⟨h1,.inl h2⟩
 ·exact .inr ⟨h1,.inr ⟨q,pq,h2,cell_keep hb h3,h4,fun p hp=>(h5 p hp).keep hb⟩⟩
theorem StepV.keep {w w1:World} (hb:Below w.heap.size w w1) {v x:Nat×Bool} (h:StepV w v x):StepV w1 v x:=by
 obtain ⟨par,fc,nx,h0,h1,h4,hc,h⟩:=h
 exact ⟨par,fc,nx,cell_keep hb h0,cell_keep hb h1,cell_keep hb h4,fun p hp=>(hc p hp).keep hb,h⟩
def WordsAt (w:World) (q:Nat):Prop:=∃ i kids par prev next,NodeAt w q i kids par prev next∧i.kind=1∧TextOk i.data
theorem TextOk.notEmpty {s:ByteArray} (h:TextOk s):s.toList.isEmpty=false:=by
 rw [List.isEmpty_eq_false_iff,ByteArray.toList_eq]
 intro e
 have:=congrArg List.length e
 rw [Array.length_toList] at this
 exact h.ne this
theorem TextOk.snoc {s:ByteArray} (h:TextOk s):∃ x y,s.data.toList=x++[y]∧y≠32∧x.length≤4000000000000:=by
 have hl:s.data.toList.length=s.size:=by rw [Array.length_toList];rfl
 have hne:=h.ne
 have hle:=h.le
 have hls:=h.last (by omega)
 refine ⟨s.data.toList.dropLast,s[s.size - 1],?_,fun e=>hls (by rw [e];rfl),by simp;omega⟩
 have hne2:s.data.toList≠[]:=by intro e;rw [e] at hl;simp at hl;omega
 rw [← List.dropLast_concat_getLast hne2]
 congr 1
 ·rw [List.dropLast_concat_getLast hne2]
 ·rw [List.getLast_eq_getElem]
  simp only [hl,Array.getElem_toList]
  rfl
theorem wordsSuffix_calls (w:World) (s:ByteArray) (h:TextOk s):
  Calls Tryz.prog 158 #[.string s,.string ⟨#[32]⟩] w fun e w'=>e=.returned (.bool false)∧w'=w:=by
 obtain ⟨x,y,h1,h2,h3⟩:=h.snoc
 have CS:=am (hasSuffix_calls s ⟨#[32]⟩ x y w h1 rfl h3)
 rw [decide_eq_false h2] at CS
 clear h1 h2 h3 h
 go_enter Tryz.func158,Tryz.ntmps158
 go_wp2_with (go_at_call 169;fail)
 refine CS.out.mono ?_
 rintro e w1 ⟨rfl,hw⟩
 rw [hw]
 clear hw
 go_wp2
 go_ret
 exact ⟨rfl,rfl⟩
theorem wordsTrim_calls (w:World) (s:ByteArray) (h:TextOk s):
  Calls Tryz.prog 160 #[.string s,.string ⟨#[32]⟩] w fun e w'=>e=.returned (.string s)∧w'=w:=by
 obtain ⟨x,y,h1,h2,h3⟩:=h.snoc
 have CS:=am (trimSuffix_calls s ⟨#[32]⟩ x y w h1 rfl h3)
 rw [if_neg h2] at CS
 have H1:=am h1
 clear h1 h2 h3 h
 go_enter Tryz.func160,Tryz.ntmps160
 go_wp2_with (go_at_call 170;fail)
 refine CS.out.mono ?_
 rintro e w1 ⟨⟨t,rfl,ht⟩,hw⟩
 have hts:t=s:=by
  rw [← H1.out] at ht
  cases t;cases s;simp at ht;rw [ht]
 subst hts
 rw [hw]
 clear hw ht
 go_wp2
 go_ret
 exact ⟨rfl,rfl⟩
theorem collapse_calls (N X C:Nat) (w:World) (t:DT) (h:DocAt w t) (hnd:t.all.Nodup) (ht:DT.AllPL (fun i=>i.kind≠2∧i.TextOk) t.kds) (hk:t.kds≠[]) (D Bc:Nat) (hD:DomAt w D Bc) (hx:w.cell? ⟨X,1,none⟩=some (.pointer (some ⟨C,0,none⟩))) (hm:MapQuiet N w C 8 97 tagNames)
  (hbc:w.cell? ⟨Bc,0,none⟩=some (.iface 187 (.pointer (some ⟨X,0,none⟩)))) (hN:N≤w.heap.size) (w0:World)
  (hfill:Calls Tryz.prog 155 #[.pointer (some ⟨D,0,none⟩)] w0 fun e w'=>e=.returned (.pointer (some ⟨D,0,none⟩))∧w'=w):
   Calls Tryz.prog 145 #[.pointer (some ⟨t.blk,0,none⟩),.pointer (some ⟨D,0,none⟩)] w0 fun e w'=>e=.returned (.tuple #[])∧Below w.heap.size w w':=by
 obtain ⟨b,i,kids⟩:=t
 obtain ⟨k,r,rfl⟩:∃ k r,kids=k::r:=List.exists_cons_of_ne_nil hk
 have hn:NodeAt w b i (k::r) none none none:=⟨h.at_,h.shape⟩
 have f1:=(At_fields h.at_).2.1
 change w.cell? ⟨b,1,none⟩=some (.pointer (some ⟨k.blk,0,none⟩)) at f1
 have d2:=hD.isPre
 have CF:=am hfill
 have CP:=am (collapsePre_calls w b i (k::r) none none none hn)
 clear hfill
 show Calls Tryz.prog 145 #[.pointer (some ⟨b,0,none⟩),.pointer (some ⟨D,0,none⟩)] w0 _
 go_enter Tryz.func145,Tryz.ntmps145
 go_wp2_with (go_at_call 155;fail)
 refine CF.out.mono ?_
 rintro e w1 ⟨rfl,hw⟩
 rw [hw]
 clear hw
 go_wp2_with (go_at_call 167;fail)
 refine CP.out.mono ?_
 rintro e w1 ⟨rfl,hw⟩
 rw [hw]
 clear hw
 go_wp2_with (go_at_call 156;fail)
 have g:=At_fields h.at_
 have hs0:StepV w (b,false) (k.blk,false):=⟨none,some k.blk,none,g.1,f1,g.2.2.2.2.1,(fun p hp=>by cases hp),.inl ⟨rfl,rfl,rfl,(fun e=>by cases e)⟩⟩
 refine (collapseNext_calls w D Bc hD b i (k::r) none none none hn none false (.inr ⟨rfl,.inl rfl⟩) (k.blk,false) hs0).mono ?_
 rintro e w2 ⟨rfl,hw⟩
 rw [hw]
 clear hw
 have hnd2:=hnd
 rw [DT.all,List.nodup_cons] at hnd2
 have HROW:=am (DT.rowVL (k::r) (fun t _ p pr nx=>DT.rowV t p pr nx) b none h.at_.2 hnd2.2 hnd2.1 hn.clear)
 have HNODE:=am (DT.mem_allPL (k::r) (fun t _ par prev next ha hs hp=>DT.mem_allP t par prev next ha hs hp) b none h.at_.2 h.shape.2.2.2 ht)
 have HMEM:=am (DT.vis_memL (k::r) (fun t _=>DT.vis_mem t))
 have HNB:=am hnd2.1
 have HCL:=am hn.clear
 have HDA:=am hD
 have HX:=am hx
 have HM:=am hm
 have HBC:=am hbc
 have HNN:=am hN
 have HS0:=am hs0
 clear h hnd hnd2 ht hk hn f1 d2 hD hx hm hbc hN hs0 g
 go_wp2
 go_loopg [4,5,6,7] (DT.visL (k::r)).length (fun gf v4 v5 v6 v7 wx=>∃ (pt pr:Option Nat) (rest:List (Nat×Bool)),v4=pv pt∧v5=.bool false∧v6=pv pr∧v7=.pointer (some ⟨(rest.head?.getD (b,true)).1,0,none⟩)∧Aside0 (∀ v∈rest,v.1∈DT.allL (k::r))∧Aside0 (Below w.heap.size w wx)∧Aside0 (rest.length≤gf) ∧
   Aside0 (RowV (StepV w) rest (b,true))∧Aside0 (∀ v r',rest=v::r'→From w pr v.1 v.2)∧Aside0 (∀ q,pt=some q→WordsAt w q))
 case atStart=>
   obtain ⟨kl,hkv⟩:=DT.vis_eq k
   refine ⟨none,none,DT.visL (k::r),rfl,rfl,rfl,?_,⟨fun v hv=>HMEM.out v hv⟩,⟨Below.refl _ _⟩,⟨Nat.le_refl _⟩,HROW,⟨?_⟩,⟨fun q hq=>by cases hq⟩⟩
   ·rw [DT.visL_cons,hkv];rfl
   ·intro v r' hv
    rw [DT.visL_cons,hkv] at hv
    injection hv with hv _
    subst hv
    exact .inr ⟨rfl,.inl rfl⟩
 case round=>
   obtain ⟨pt,pr,rest,rfl,rfl,rfl,rfl,HMr,HBw,HG,HR,HF,HPT⟩:=hrel
   cases rest with
   |nil=>
    have hne:=neq_of (equal_same wr b)
    have e:(Option.getD (List.head? ([]:List (Nat×Bool))) (b,true)).1=b:=rfl
    rw [e]
    cases pt with
    |none=>
     have e:pv none=.pointer none:=rfl
     rw [e]
     go_wp2
     go_end0
     exact ⟨rfl,HBw.out⟩
    |some q=>
     have e:pv (some q)=.pointer (some ⟨q,0,none⟩):=rfl
     rw [e]
     obtain ⟨qi,qk,qp,qv,qn,hq,hq1,hqt⟩:=HPT.out q rfl
     have hq':=hq.keep HBw.out
     have fq:=(At_fields hq'.at_).2.2.2.2.2.2.2.1
     have CT:=am (wordsTrim_calls wr qi.data hqt)
     have hfr:wr.frozen? ⟨q,7,none⟩=false:=by simp [World.frozen?,hq'.at_.1]
     have hself:wr.setCell ⟨q,7,none⟩ (.string qi.data)=wr:=setCell_self hq'.at_.1 rfl
     have hse:qi.data.toList.isEmpty=false:=hqt.notEmpty
     clear hq hq' hqt hq1
     go_wp2_with (go_at_call 160;fail)
     refine CT.out.mono ?_
     rintro e w1 ⟨rfl,hw⟩
     rw [hw]
     clear hw
     go_wp2
     go_end0
     exact ⟨rfl,HBw.out⟩
   |cons v rr=>
    obtain ⟨nb,nf⟩:=v
    obtain ⟨ni,nk,npar,nprev,nnext,hn0,hn2,hnt⟩:=HNODE.out nb (HMr.out (nb,nf) (List.mem_cons_self ..))
    obtain ⟨g',rfl⟩:∃ g',gk=g'+1:=⟨gk - 1,by have:=HG.out;simp only [List.length_cons] at this;omega⟩
    have e:(Option.getD (List.head? ((nb,nf)::rr)) (b,true)).1=nb:=rfl
    rw [e]
    have hn:=hn0.keep HBw.out
    have hnb:nb≠b:=fun e=>HNB.out (by rw [← e];exact HMr.out (nb,nf) (List.mem_cons_self ..))
    have hne:=neq_of (equal_other wr nb b hnb hn.clear (HCL.out.keep HBw.out))
    have fn:=At_fields hn.at_
    have f5:=fn.2.2.2.2.2.1
    have f7:=fn.2.2.2.2.2.2.2.1
    have hD:=HDA.out.keep HBw.out
    have CNX:=am (collapseNext_calls wr D Bc hD nb ni nk npar nprev nnext hn pr nf ((HF.out _ _ rfl).keep HBw.out) (rr.head?.getD (b,true)) (HR.out.head.keep HBw.out))
    have HNX:=am hn
    have HN0:=am hn0
    have HHD:=am HR.out.head
    rcases hn0.shape.1.kind with hk1|hk1|hk1
    ·rw [hk1] at f5
     have ht1:=hnt hk1
     have CB:=am (blanks_calls wr ni.data ht1.ne (by have:=ht1.le;omega) (fun i h=>by have:=ht1.chars i h;unfold Wordy Alnum at this;omega) ht1.dbl)
     have HT1:=am ht1
     clear hn hn0 hn2 hnt hnb fn ht1
     go_wp2_with (go_at_call 157;fail)
     refine CB.out.mono ?_
     rintro e w1 ⟨rfl,hw⟩
     have HW1:=am hw
     have hnw:=HNX.out.keep hw
     have g7:=(At_fields hnw.at_).2.2.2.2.2.2.2.1
     have hfr:w1.frozen? ⟨nb,7,none⟩=false:=by simp [World.frozen?,hnw.at_.1]
     have hself:w1.setCell ⟨nb,7,none⟩ (.string ni.data)=w1:=setCell_self hnw.at_.1 rfl
     have hse:ni.data.toList.isEmpty=false:=HT1.out.notEmpty
     have hsz:0 < ni.data.size:=Nat.pos_of_ne_zero HT1.out.ne
     have h32:(((ni.data[0]'hsz).toNat:Int)==32)=false:=beq_eq_false_iff_ne.mpr (fun e=>HT1.out.first hsz (by omega))
     have CNX1:=am (collapseNext_calls w1 D Bc (HDA.out.keep (HBw.out.trans (hw.mono HBw.out.size))) nb ni nk npar nprev nnext hnw pr nf (((HF.out _ _ rfl).keep HBw.out).keep hw) (rr.head?.getD (b,true)) ((HHD.out.keep HBw.out).keep hw))
     have HW2:=am (HBw.out.trans (hw.mono HBw.out.size))
     clear hw hnw
     cases pt with
     |none=>
      have e:pv none=.pointer none:=rfl
      rw [e]
      go_wp2_with (go_at_call 156;fail)
      refine CNX1.out.mono ?_
      rintro e w2 ⟨rfl,hw⟩
      rw [hw]
      clear hw
      go_wp2
      go_roundg g'
      case measure=>omega
      case rel=>
       refine ⟨some nb,some nb,rr,rfl,rfl,rfl,rfl,⟨fun v hv=>HMr.out v (List.mem_cons_of_mem _ hv)⟩,HW2,⟨by have:=HG.out;simp only [List.length_cons] at this;omega⟩,⟨HR.out.tail⟩,⟨?_⟩,⟨?_⟩⟩
       ·intro v r' hv
        have h2:=HHD.out
        rw [hv] at h2
        exact h2.from
       ·intro q hq
        cases hq
        exact ⟨ni,nk,npar,nprev,nnext,HN0.out,hk1,HT1.out⟩
     |some q=>
      have e:pv (some q)=.pointer (some ⟨q,0,none⟩):=rfl
      rw [e]
      obtain ⟨qi,qk,qp,qv,qn,hq,hq1,hqt⟩:=HPT.out q rfl
      have hq':=hq.keep HW2.out
      have fq:=(At_fields hq'.at_).2.2.2.2.2.2.2.1
      have CT:=am (wordsSuffix_calls w1 qi.data hqt)
      clear hq hq' hqt hq1
      go_wp2_with (go_at_call 158;fail)
      refine CT.out.mono ?_
      rintro e w2 ⟨rfl,hw⟩
      rw [hw]
      clear hw
      go_wp2_with (go_at_call 156;fail)
      refine CNX1.out.mono ?_
      rintro e w2 ⟨rfl,hw⟩
      rw [hw]
      clear hw
      go_wp2
      go_roundg g'
      case measure=>omega
      case rel=>
       refine ⟨some nb,some nb,rr,rfl,rfl,rfl,rfl,⟨fun v hv=>HMr.out v (List.mem_cons_of_mem _ hv)⟩,HW2,⟨by have:=HG.out;simp only [List.length_cons] at this;omega⟩,⟨HR.out.tail⟩,⟨?_⟩,⟨?_⟩⟩
       ·intro v r' hv
        have h2:=HHD.out
        rw [hv] at h2
        exact h2.from
       ·intro q hq
        cases hq
        exact ⟨ni,nk,npar,nprev,nnext,HN0.out,hk1,HT1.out⟩
    ·exact absurd hk1 hn2
    ·rw [hk1] at f5
     have CB:=am (collapseBlock_calls N wr nb X C Bc ni nk npar nprev nnext hn (cell_keep HBw.out HX.out) (HM.out.keep (HBw.out.mono HNN.out)) (cell_keep HBw.out HBC.out))
     have CN:=am (name_calls wr nb ni nk npar nprev nnext hn.at_ hn.shape.1)
     have CV:=am (collapseVoid_calls wr nb ni nk npar nprev nnext hn)
     have hd0:=hD.isBlock
     have hd1:=hD.isVoid
     have hbr:(ni.nm.toList==[98,114])=false:=by
      rcases hn.shape.1.cases with e|e|e|e|e|e|e|e|e <;> rw [e,ByteArray.toList_eq] <;> rfl
     have hcd:(ni.nm.toList==[99,111,100,101])=false:=by
      rcases hn.shape.1.cases with e|e|e|e|e|e|e|e|e <;> rw [e,ByteArray.toList_eq] <;> rfl
     clear hn hn0 hn2 hnt hnb fn f7 hD
     go_wp2_with (go_at_call 146;fail)
     refine CB.out.mono ?_
     rintro e w1 ⟨rfl,hw⟩
     rw [hw]
     clear hw
     by_cases htb:ni.nm=nTable
     ·rw [decide_eq_true htb]
      cases pt with
      |none=>
       have e:pv none=.pointer none:=rfl
       rw [e]
       go_wp2_with (go_at_call 156;fail)
       refine (collapseNext_calls wr D Bc (HDA.out.keep HBw.out) nb ni nk npar nprev nnext (HN0.out.keep HBw.out) pr nf ((HF.out _ _ rfl).keep HBw.out) (rr.head?.getD (b,true)) (HHD.out.keep HBw.out)).mono ?_
       rintro e w9 ⟨rfl,hw⟩
       rw [hw]
       clear hw
       go_wp2
       go_roundg g'
       case measure=>omega
       case rel=>
        refine ⟨none,some nb,rr,rfl,rfl,rfl,rfl,⟨fun v hv=>HMr.out v (List.mem_cons_of_mem _ hv)⟩,HBw,⟨by have:=HG.out;simp only [List.length_cons] at this;omega⟩,⟨HR.out.tail⟩,⟨?_⟩,⟨fun q hq=>by cases hq⟩⟩
        intro v r' hv
        have h2:=HHD.out
        rw [hv] at h2
        exact h2.from
      |some q=>
       have e:pv (some q)=.pointer (some ⟨q,0,none⟩):=rfl
       rw [e]
       obtain ⟨qi,qk,qp,qv,qn,hq,hq1,hqt⟩:=HPT.out q rfl
       have hq':=hq.keep HBw.out
       have fq:=(At_fields hq'.at_).2.2.2.2.2.2.2.1
       have CT:=am (wordsTrim_calls wr qi.data hqt)
       have hfr:wr.frozen? ⟨q,7,none⟩=false:=by simp [World.frozen?,hq'.at_.1]
       have hself:wr.setCell ⟨q,7,none⟩ (.string qi.data)=wr:=setCell_self hq'.at_.1 rfl
       clear hq hq' hqt hq1
       go_wp2_with (go_at_call 160;fail)
       refine CT.out.mono ?_
       rintro e w1 ⟨rfl,hw⟩
       rw [hw]
       clear hw
       go_wp2_with (go_at_call 156;fail)
       refine (collapseNext_calls wr D Bc (HDA.out.keep HBw.out) nb ni nk npar nprev nnext (HN0.out.keep HBw.out) pr nf ((HF.out _ _ rfl).keep HBw.out) (rr.head?.getD (b,true)) (HHD.out.keep HBw.out)).mono ?_
       rintro e w9 ⟨rfl,hw⟩
       rw [hw]
       clear hw
       go_wp2
       go_roundg g'
       case measure=>omega
       case rel=>
        refine ⟨none,some nb,rr,rfl,rfl,rfl,rfl,⟨fun v hv=>HMr.out v (List.mem_cons_of_mem _ hv)⟩,HBw,⟨by have:=HG.out;simp only [List.length_cons] at this;omega⟩,⟨HR.out.tail⟩,⟨?_⟩,⟨fun q hq=>by cases hq⟩⟩
        intro v r' hv
        have h2:=HHD.out
        rw [hv] at h2
        exact h2.from
     ·rw [decide_eq_false htb]
      go_wp2_with (go_at_call 72;fail)
      refine CN.out.mono ?_
      rintro e w1 ⟨rfl,hw⟩
      rw [hw]
      clear hw
      go_wp2_with (go_at_call 166;fail)
      refine CV.out.mono ?_
      rintro e w1 ⟨rfl,hw⟩
      have HW2:=am (HBw.out.trans (hw.mono HBw.out.size))
      have hnw:=HNX.out.keep hw
      have CP1:=am (collapsePre_calls w1 nb ni nk npar nprev nnext hnw)
      have CN1:=am (name_calls w1 nb ni nk npar nprev nnext hnw.at_ hnw.shape.1)
      have hd2:=(HDA.out.keep HW2.out).isPre
      clear hw hnw
      go_wp2_with (go_at_call 167;fail)
      refine CP1.out.mono ?_
      rintro e w2 ⟨rfl,hw⟩
      rw [hw]
      clear hw
      go_wp2_with (go_at_call 72;fail)
      refine CN1.out.mono ?_
      rintro e w2 ⟨rfl,hw⟩
      rw [hw]
      clear hw
      cases pt with
      |none=>
       have e:pv none=.pointer none:=rfl
       rw [e]
       go_wp2_with (go_at_call 156;fail)
       refine (collapseNext_calls w1 D Bc (HDA.out.keep HW2.out) nb ni nk npar nprev nnext (HN0.out.keep HW2.out) pr nf ((HF.out _ _ rfl).keep HW2.out) (rr.head?.getD (b,true)) (HHD.out.keep HW2.out)).mono ?_
       rintro e w9 ⟨rfl,hw⟩
       rw [hw]
       clear hw
       go_wp2
       go_roundg g'
       case measure=>omega
       case rel=>
        refine ⟨none,some nb,rr,rfl,rfl,rfl,rfl,⟨fun v hv=>HMr.out v (List.mem_cons_of_mem _ hv)⟩,HW2,⟨by have:=HG.out;simp only [List.length_cons] at this;omega⟩,⟨HR.out.tail⟩,⟨?_⟩,⟨fun q hq=>by cases hq⟩⟩
        intro v r' hv
        have h2:=HHD.out
        rw [hv] at h2
        exact h2.from
      |some q=>
       have e:pv (some q)=.pointer (some ⟨q,0,none⟩):=rfl
       rw [e]
       go_wp2_with (go_at_call 156;fail)
       refine (collapseNext_calls w1 D Bc (HDA.out.keep HW2.out) nb ni nk npar nprev nnext (HN0.out.keep HW2.out) pr nf ((HF.out _ _ rfl).keep HW2.out) (rr.head?.getD (b,true)) (HHD.out.keep HW2.out)).mono ?_
       rintro e w9 ⟨rfl,hw⟩
       rw [hw]
       clear hw
       go_wp2
       go_roundg g'
       case measure=>omega
       case rel=>
        refine ⟨some q,some nb,rr,rfl,rfl,rfl,rfl,⟨fun v hv=>HMr.out v (List.mem_cons_of_mem _ hv)⟩,HW2,⟨by have:=HG.out;simp only [List.length_cons] at this;omega⟩,⟨HR.out.tail⟩,⟨?_⟩,HPT⟩
        intro v r' hv
        have h2:=HHD.out
        rw [hv] at h2
        exact h2.from
theorem preRenderCollapse_calls (N X C:Nat) (w:World) (t:DT) (h:DocAt w t) (hnd:t.all.Nodup) (ht:DT.AllPL (fun i=>i.kind≠2∧i.TextOk) t.kds) (hk:t.kds≠[]) (v:Value) (hx:w.cell? ⟨X,1,none⟩=some (.pointer (some ⟨C,0,none⟩))) (hm:MapQuiet N w C 8 97 tagNames) (hN:N≤w.heap.size):
  Calls Tryz.prog 134 #[v,.iface 187 (.pointer (some ⟨X,0,none⟩)),.pointer (some ⟨t.blk,0,none⟩)] w fun e w'=>e=.returned (.tuple #[])∧Below w.heap.size w w':=by
 have hmf:∀ (fn:Fn) (first cap:Array Value) (w:World),(Instr.makeFunc fn first cap).run Tryz.prog w=.ok (.func fn first cap) w:=fun _ _ _ _=>rfl
 have HD:=am h
 have HND:=am hnd
 have HTX:=am ht
 have HK:=am hk
 have HM:=am hm
 have HX:=am hx
 have HN:=am hN
 clear h hnd ht hk hm hx hN
 go_enter Tryz.func134,Tryz.ntmps134
 go_wp2_with (go_at_call 145;fail)
 obtain ⟨W0,hW0⟩:∃ W0,(w.alloc (.cells #[.iface 187 (.pointer (some ⟨X,0,none⟩))] 135)).alloc (.cells #[.func (.func 146) #[] #[.pointer (some ⟨w.heap.size,0,none⟩)],.nilFunc,.nilFunc] 279)=W0:=⟨_,rfl⟩
 rw [hW0]
 have e1:=alloc_size w (.cells #[.iface 187 (.pointer (some ⟨X,0,none⟩))] 135)
 have hB0:Below w.heap.size w W0:=by rw [← hW0];exact ((Below.refl _ w).alloc (Nat.le_refl _) _).alloc (by omega) _
 have hbox:W0.cell? ⟨w.heap.size,0,none⟩=some (.iface 187 (.pointer (some ⟨X,0,none⟩))):=by
  rw [← hW0,World.cell?_of_block (Below.heap_alloc _ _ w.heap.size (by omega))]
  exact box_cell _ _ _
 have hDb:W0.heap[w.heap.size+1]?=some (.cells #[.func (.func 146) #[] #[.pointer (some ⟨w.heap.size,0,none⟩)],.nilFunc,.nilFunc] 279 (0,0)):=by
  rw [← hW0,← e1];exact alloc_new _ _
 obtain ⟨c0,c1,c2,-,-,-⟩:=box3 hDb
 have hf:=fillDefault_calls W0 (w.heap.size+1) w.heap.size hDb
 obtain ⟨W,hW⟩:∃ W,(W0.setCell ⟨w.heap.size+1,1,none⟩ (.func (.func 166) #[] #[])).setCell ⟨w.heap.size+1,2,none⟩ (.func (.func 167) #[] #[])=W:=⟨_,rfl⟩
 rw [hW] at hf
 have h1:=Lib.heap_setCell_same (i:=1) hDb (.func (.func 166) #[] #[])
 have h2:=Lib.heap_setCell_same (i:=2) h1 (.func (.func 167) #[] #[])
 rw [hW] at h2
 have hdom:DomAt W (w.heap.size+1) w.heap.size:=by
  obtain ⟨d0,d1,d2,-,-,-⟩:=box3 (show W.heap[w.heap.size+1]?=some (.cells #[.func (.func 146) #[] #[.pointer (some ⟨w.heap.size,0,none⟩)],.func (.func 166) #[] #[],.func (.func 167) #[] #[]] 279 (0,0)) from h2)
  exact ⟨d0,d1,d2⟩
 have hB:Below w.heap.size w W:=by rw [← hW];exact (hB0.setCell (Nat.le_succ _) _).setCell (Nat.le_succ _) _
 have hbox2:W.cell? ⟨w.heap.size,0,none⟩=some (.iface 187 (.pointer (some ⟨X,0,none⟩))):=by
  rw [← hW,World.cell?_setCell_far _ _ _ _ (by simp),World.cell?_setCell_far _ _ _ _ (by simp)];exact hbox
 refine (collapse_calls N X C W t (HD.out.keep hB) HND.out HTX.out HK.out (w.heap.size+1) w.heap.size hdom (cell_keep hB HX.out) (HM.out.keep (hB.mono HN.out)) hbox2 (Nat.le_trans HN.out hB.size) W0 hf).mono ?_
 rintro e w1 ⟨rfl,hw⟩
 have HW:=am (hB.trans (hw.mono hB.size))
 clear hw hB hB0 hbox hDb c0 c1 c2 hf h1 h2 hdom hbox2 e1
 go_wp2
 go_end0
 exact ⟨rfl,HW.out⟩
end Go.Proofs.YtbheflncgmhadaaGreat.Hand
