/- Trees of nodes in memory, the neighbours of a node. Conditions: those in each statement. -/
import Derived.Test.YtbheflncgmhadaaGreatXd
import Derived.Lib.BufferMore
import Derived.RegionTactic
import Derived.Deep.RegionWith
import Derived.Deep.Draws
import Derived.BigCall
import Derived.BigGuard
import Derived.Laws.Cover3
import Derived.Defers
set_option linter.unusedVariables false
set_option linter.unusedSimpArgs false
set_option maxHeartbeats 40000000
set_option maxRecDepth 100000
namespace Go.Proofs.YtbheflncgmhadaaGreat.Hand
open Go.RowKit Go.Proofs.YtbheflncgmhadaaGreatW.PrintWords Go.Proofs.YtbheflncgmhadaaGreatW.PrintLast Go.Proofs.YtbheflncgmhadaaGreatW.PrintMore
structure NI where
 kind:Nat
 atom:Int
 data:ByteArray
 attr:Value
inductive DT where
 |node (b:Nat) (i:NI) (kids:List DT)
def DT.blk:DT→Nat
 |.node b _ _=>b
def pv (o:Option Nat):Value:=.pointer (o.map fun b=>⟨b,0,none⟩)
def firstB:List DT→Option Nat
 |[]=>none
 |t::_=>some t.blk
def lastB:List DT→Option Nat
 |[]=>none
 |t::r=>match lastB r with|some b=>some b|none=>some t.blk
mutual
def DT.At (w:World) (par prev next:Option Nat):DT→Prop
 |.node b i kids=>w.heap[b]?=some (.cells #[pv par,pv (firstB kids),pv (lastB kids),pv prev,pv next,.int .u32 (i.kind:Int),.int .u32 i.atom,.string i.data,.string ⟨#[]⟩,i.attr] 161 (0,0))∧KidsAt w b none kids
def KidsAt (w:World) (par:Nat) (prev:Option Nat):List DT→Prop
 |[]=>True
 |t::r=>DT.At w (some par) prev (firstB r) t∧KidsAt w par (some t.blk) r
end
mutual
theorem DT.At.keep {w w':World} (h:Below w.heap.size w w'):∀ {t:DT} {par prev next:Option Nat},DT.At w par prev next t→DT.At w' par prev next t
 |.node b i kids,par,prev,next,⟨h1,h2⟩=>⟨by rw [h.block b (Array.getElem?_eq_some_iff.1 h1).1];exact h1,KidsAt.keep h h2⟩
theorem KidsAt.keep {w w':World} (h:Below w.heap.size w w'):∀ {l:List DT} {par:Nat} {prev:Option Nat},KidsAt w par prev l→KidsAt w' par prev l
 |[],_,_,_=>trivial
 |t::r,par,prev,⟨h1,h2⟩=>⟨DT.At.keep h h1,KidsAt.keep h h2⟩
end
theorem node_fields {w:World} {b:Nat} {x0 x1 x2 x3 x4 x5 x6 x7 x8 x9:Value} (h:w.heap[b]?=some (.cells #[x0,x1,x2,x3,x4,x5,x6,x7,x8,x9] 161 (0,0))):
  w.cell? ⟨b,0,none⟩=some x0∧w.cell? ⟨b,1,none⟩=some x1∧w.cell? ⟨b,2,none⟩=some x2∧w.cell? ⟨b,3,none⟩=some x3∧w.cell? ⟨b,4,none⟩=some x4∧w.cell? ⟨b,5,none⟩=some x5∧w.cell? ⟨b,6,none⟩=some x6∧w.cell? ⟨b,7,none⟩=some x7 ∧
   w.cell? ⟨b,8,none⟩=some x8∧w.cell? ⟨b,9,none⟩=some x9:=by
 refine ⟨?_,?_,?_,?_,?_,?_,?_,?_,?_,?_⟩ <;> simp [World.cell?,h]
theorem nodeName_calls (w:World) (b:Nat) (i:NI) (kids:List DT) (par prev next:Option Nat) (h:DT.At w par prev next (.node b i kids)) (hk:i.kind=1∨i.kind=2∨i.kind=3):
  Calls Tryz.prog 72 #[.pointer (some ⟨b,0,none⟩)] w fun e w'=>e=.returned (.string (if i.kind=1 then ⟨#[35,116,101,120,116]⟩ else if i.kind=2 then ⟨#[35,100,111,99,117,109,101,110,116]⟩ else i.data))∧w'=w:=by
 obtain ⟨f0,f1,f2,f3,f4,f5,f6,f7,f8,f9⟩:=node_fields h.1
 rcases hk with hk|hk|hk
 ·rw [hk] at f5 ⊢
  go_enter Tryz.func72,Tryz.ntmps72
  go_wp2
  go_ret
  exact ⟨rfl,rfl⟩
 ·rw [hk] at f5 ⊢
  go_enter Tryz.func72,Tryz.ntmps72
  go_wp2
  go_ret
  exact ⟨rfl,rfl⟩
 ·rw [hk] at f5 ⊢
  go_enter Tryz.func72,Tryz.ntmps72
  go_wp2
  go_ret
  exact ⟨rfl,rfl⟩
theorem reps_scalar {α:Type} {enc:α→Value} {cs:List Value} {ps:List α} (h:Reps (fun x c=>c=[enc x]) 1 ps cs):cs=ps.map enc:=by
 obtain ⟨h1,h2⟩:=h
 apply List.ext_getElem?
 intro j
 by_cases hj:j < ps.length
 ·have:=h2 j _ (List.getElem?_eq_getElem hj)
  rw [Nat.mul_one] at this
  have e:((cs.drop j).take 1)[0]?=some (enc ps[j]):=by rw [this];rfl
  rw [List.getElem?_take,if_pos (by decide),List.getElem?_drop,Nat.add_zero] at e
  rw [e,List.getElem?_map,List.getElem?_eq_getElem hj];rfl
 ·rw [List.getElem?_eq_none (by omega),List.getElem?_eq_none (by rw [List.length_map];omega)]
def ptrK:Kd Nat:=Kd.scalar (fun b:Nat=>pv (some b)) (fun _=>rfl)
theorem own_of_ptrs {w:World} {base:Nat} {ok:Nat→Prop} {v:Value} {l:List DT} (h:Kd.R ptrK 67 w base ok v (l.map DT.blk)):w.ownsRow base 67 1 v l.length (l.map fun t=>pv (some t.blk)):=by
 obtain ⟨_,inner,hown,hr⟩:=h
 rw [List.length_map] at hown
 have e:inner=l.map fun t=>pv (some t.blk):=by
  have:=reps_scalar (enc:=fun b:Nat=>pv (some b)) hr
  rw [this,List.map_map];rfl
 rw [← e]
 exact hown
theorem info92:(Tryz.prog.info? 67).map (fun i=>(i.zero,i.size,i.bytes))=some (some (.pointer none),1,8):=by kernel_rfl
theorem allChildNodes_calls (w:World) (b:Nat) (i:NI) (kids:List DT) (par prev next:Option Nat) (h:DT.At w par prev next (.node b i kids)) (hl:kids.length≤1000):
  Calls Tryz.prog 264 #[.pointer (some ⟨b,0,none⟩)] w fun e w'=>∃ v,e=.returned v∧w'.ownsRow w.heap.size 67 1 v kids.length (kids.map fun t=>pv (some t.blk))∧Below w.heap.size w w':=by
 obtain ⟨f0,f1,f2,f3,f4,f5,f6,f7,f8,f9⟩:=node_fields h.1
 have HK:=am h.2
 have HL:=am hl
 go_enter Tryz.func264,Tryz.ntmps264
 go_wp2
 go_loopg [2,3] kids.length (fun gf v2 v3 wx=>∃ (done rest:List DT) (pr:Option Nat),v3=pv (firstB rest)∧Aside0 (kids=done++rest)∧Aside0 (Kd.R ptrK 67 wx w.heap.size (fun _=>True) v2 (done.map DT.blk))∧Aside0 (Below w.heap.size w wx)∧Aside0 (rest.length≤gf)∧Aside0 (KidsAt w b pr rest))
 case atStart=>exact ⟨[],kids,none,rfl,⟨rfl⟩,⟨Kd.R_nil _ _ _ _ _⟩,⟨Below.refl _ _⟩,⟨Nat.le_refl _⟩,HK⟩
 case round=>
  obtain ⟨done,rest,pr,rfl,HD,HR,HB,HG,HKr⟩:=hrel
  cases rest with
  |nil=>
   have e:pv (firstB [])=.pointer none:=rfl
   rw [e]
   go_wp2
   go_ret
   have hd:=HD.out
   rw [List.append_nil] at hd
   subst hd
   exact ⟨_,rfl,own_of_ptrs HR.out,HB.out⟩
  |cons t r=>
   obtain ⟨tb,ti,tk⟩:=t
   have e:pv (firstB (DT.node tb ti tk::r))=.pointer (some ⟨tb,0,none⟩):=rfl
   rw [e]
   obtain ⟨ht,hr⟩:=HKr.out
   obtain ⟨g0,g1,g2,g3,g4,g5,g6,g7,g8,g9⟩:=node_fields (DT.At.keep HB.out ht).1
   obtain ⟨g',rfl⟩:∃ g',gk=g'+1:=⟨gk - 1,by have:=HG.out;simp only [List.length_cons] at this;omega⟩
   have HLr:=am (show done.length≤1000 by have:=HL.out;rw [HD.out,List.length_append] at this;omega)
   have g4:wr.cell? ⟨tb,4,none⟩=some (pv (firstB r)):=g4
   clear g0 g1 g2 g3 g5 g6 g7 g8 g9
   go_wp2_with (first|(at_builtin;refine Kd.R_append ptrK (w0:=w) w.heap.size rfl (.tmp _) (.tmp _) 338 67 (.pointer none) 8 rfl Tryz.underlying338 info92 rfl (by decide) (by omega) u2 (done.map DT.blk) tb [.pointer (some ⟨tb,0,none⟩)] (fun _=>True) (fun _=>False) rfl rfl rfl (fun _ hk=>hk.elim) (fun _ _=>trivial) HR.out HB.out (below_size HB.out) (by rw [List.length_map];have:=HLr.out;omega) ?_;intro v1 w1 ho1 hb1 hg1 hat1;have HR1:=am ho1;have HB1:=am hb1;obtain ⟨k0,k1,k2,k3,k4,k5,k6,k7,k8,k9⟩:=node_fields (DT.At.keep hb1 ht).1;have k4:w1.cell? ⟨tb,4,none⟩=some (pv (firstB r)):=k4;clear k0 k1 k2 k3 k5 k6 k7 k8 k9;clear ho1 hb1 hg1 hat1))
   go_roundg g'
   case measure=>omega
   case rel=>
    refine ⟨done++[.node tb ti tk],r,some tb,rfl,⟨by rw [HD.out,List.append_assoc];rfl⟩,⟨?_⟩,HB1,⟨by have:=HG.out;simp only [List.length_cons] at this;omega⟩,⟨hr⟩⟩
    rw [List.map_append];exact HR1.out
inductive After (w:World) (R:Nat→Option Nat→Prop):Nat→Nat→Option Nat→Prop where
 |sib (d b s:Nat) (h:R b (some s)):After w R d b (some s)
 |up (d b p:Nat) (x:Option Nat) (h:R b none) (hp:w.cell? ⟨b,0,none⟩=some (pv (some p))) (r:After w R d p x):After w R (d+1) b x
 |root (d b:Nat) (h:R b none) (hp:w.cell? ⟨b,0,none⟩=some (pv none)):After w R d b none
def Climb (w:World) (R:Nat→Option Nat→Prop) (d b:Nat) (x:Option Nat):Prop:=(w.cell? ⟨b,0,none⟩=some (pv none)∧x=none)∨∃ e p,d=e+1∧w.cell? ⟨b,0,none⟩=some (pv (some p))∧After w R e p x
theorem After.cases {w:World} {R:Nat→Option Nat→Prop} {d b:Nat} {x:Option Nat} (h:After w R d b x):(∃ s,x=some s∧R b (some s))∨(R b none∧Climb w R d b x):=by
 cases h with
 |sib d b s h=>exact .inl ⟨s,rfl,h⟩
 |up d b p x h hp r=>exact .inr ⟨h,.inr ⟨d,p,rfl,hp,r⟩⟩
 |root d b h hp=>exact .inr ⟨h,.inl ⟨hp,rfl⟩⟩
theorem firstChild_calls (w:World) (b:Nat) (v:Value) (h:w.cell? ⟨b,1,none⟩=some v):Calls Tryz.prog 313 #[.pointer (some ⟨b,0,none⟩)] w fun e w'=>e=.returned v∧w'=w:=by
 go_enter Tryz.func313,Tryz.ntmps313
 go_wp2
 go_ret
 exact ⟨rfl,rfl⟩
theorem nextSibling_calls (w:World) (b:Nat) (v:Value) (h:w.cell? ⟨b,4,none⟩=some v):Calls Tryz.prog 312 #[.pointer (some ⟨b,0,none⟩)] w fun e w'=>e=.returned v∧w'=w:=by
 go_enter Tryz.func312,Tryz.ntmps312
 go_wp2
 go_ret
 exact ⟨rfl,rfl⟩
theorem forever_calls (w:World) (v:Value):Calls Tryz.prog 281 #[v] w fun e w'=>e=.returned (.bool false)∧w'=w:=by
 go_enter Tryz.func281,Tryz.ntmps281
 go_wp2
 go_ret
 exact ⟨rfl,rfl⟩
def FirstE (w:World) (b:Nat) (x:Option Nat):Prop:=(w.cell? ⟨b,1,none⟩=some (pv none)∧x=none)∨(∃ c,w.cell? ⟨b,1,none⟩=some (pv (some c))∧w.cell? ⟨c,5,none⟩=some (.int .u32 3)∧x=some c) ∨
 ∃ c,w.cell? ⟨b,1,none⟩=some (pv (some c))∧w.cell? ⟨c,5,none⟩=some (.int .u32 1)∧w.cell? ⟨c,4,none⟩=some (pv none)∧x=none
def NextE (w:World) (b:Nat) (x:Option Nat):Prop:=(w.cell? ⟨b,4,none⟩=some (pv none)∧x=none)∨∃ c,w.cell? ⟨b,4,none⟩=some (pv (some c))∧w.cell? ⟨c,5,none⟩=some (.int .u32 3)∧x=some c
def NextN (w:World) (b:Nat) (x:Option Nat):Prop:=w.cell? ⟨b,4,none⟩=some (pv x)
theorem firstElement_calls (w:World) (b:Nat) (x:Option Nat) (h:FirstE w b x):Calls Tryz.prog 279 #[.pointer (some ⟨b,0,none⟩)] w fun e w'=>e=.returned (pv x)∧w'=w:=by
 rcases h with ⟨h1,rfl⟩|⟨c,h1,h2,rfl⟩|⟨c,h1,h2,h3,rfl⟩
 ·change w.cell? ⟨b,1,none⟩=some (.pointer none) at h1
  go_enter Tryz.func279,Tryz.ntmps279
  go_wp2
  go_loopg [3] 0 (fun gf v2 wx=>v2=.pointer none∧wx=w)
  case atStart=>exact ⟨rfl,rfl⟩
  case round=>
   obtain ⟨rfl,hwx⟩:=hrel
   subst hwx
   go_wp2
   go_ret
   exact ⟨rfl,rfl⟩
 ·change w.cell? ⟨b,1,none⟩=some (.pointer (some ⟨c,0,none⟩)) at h1
  go_enter Tryz.func279,Tryz.ntmps279
  go_wp2
  go_loopg [3] 0 (fun gf v2 wx=>v2=.pointer (some ⟨c,0,none⟩)∧wx=w)
  case atStart=>exact ⟨rfl,rfl⟩
  case round=>
   obtain ⟨rfl,hwx⟩:=hrel
   subst hwx
   go_wp2
   go_ret
   exact ⟨rfl,rfl⟩
 ·change w.cell? ⟨b,1,none⟩=some (.pointer (some ⟨c,0,none⟩)) at h1
  change w.cell? ⟨c,4,none⟩=some (.pointer none) at h3
  go_enter Tryz.func279,Tryz.ntmps279
  go_wp2
  go_loopg [3] 1 (fun gf v2 wx=>((v2=.pointer (some ⟨c,0,none⟩)∧1≤gf)∨v2=.pointer none)∧wx=w)
  case atStart=>exact ⟨.inl ⟨rfl,Nat.le_refl _⟩,rfl⟩
  case round=>
   obtain ⟨h|rfl,hwx⟩:=hrel
   ·obtain ⟨rfl,hg⟩:=h
    subst hwx
    obtain ⟨g',rfl⟩:∃ g',gk=g'+1:=⟨gk - 1,by omega⟩
    go_wp2
    go_roundg g'
    case measure=>omega
    case rel=>exact ⟨.inr rfl,rfl⟩
   ·subst hwx
    go_wp2
    go_ret
    exact ⟨rfl,rfl⟩
theorem nextElement_calls (w:World) (b:Nat) (x:Option Nat) (h:NextE w b x):Calls Tryz.prog 280 #[.pointer (some ⟨b,0,none⟩)] w fun e w'=>e=.returned (pv x)∧w'=w:=by
 rcases h with ⟨h1,rfl⟩|⟨c,h1,h2,rfl⟩
 ·change w.cell? ⟨b,4,none⟩=some (.pointer none) at h1
  go_enter Tryz.func280,Tryz.ntmps280
  go_wp2
  go_loopg [3] 0 (fun gf v2 wx=>v2=.pointer none∧wx=w)
  case atStart=>exact ⟨rfl,rfl⟩
  case round=>
   obtain ⟨rfl,hwx⟩:=hrel
   subst hwx
   go_wp2
   go_ret
   exact ⟨rfl,rfl⟩
 ·change w.cell? ⟨b,4,none⟩=some (.pointer (some ⟨c,0,none⟩)) at h1
  go_enter Tryz.func280,Tryz.ntmps280
  go_wp2
  go_loopg [3] 0 (fun gf v2 wx=>v2=.pointer (some ⟨c,0,none⟩)∧wx=w)
  case atStart=>exact ⟨rfl,rfl⟩
  case round=>
   obtain ⟨rfl,hwx⟩:=hrel
   subst hwx
   go_wp2
   go_ret
   exact ⟨rfl,rfl⟩
theorem nbNode_calls (w:World) (R:Nat→Option Nat→Prop) (hR:∀ b x,R b x→Calls Tryz.prog 312 #[.pointer (some ⟨b,0,none⟩)] w fun e w'=>e=.returned (pv x)∧w'=w) (d b:Nat) (fc:Option Nat) (x:Option Nat)
  (h1:Calls Tryz.prog 313 #[.pointer (some ⟨b,0,none⟩)] w fun e w'=>e=.returned (pv fc)∧w'=w) (h2:fc=none→After w R d b x) (h3:∀ c,fc=some c→x=some c) (A1 A2 A3:Nat)
  (c1:w.cell? ⟨A1,0,none⟩=some (.func (.func 313) #[] #[])) (c2:w.cell? ⟨A2,0,none⟩=some (.func (.func 312) #[] #[])) (c3:w.cell? ⟨A3,0,none⟩=some (.func (.func 281) #[] #[])):
  Calls Tryz.prog 323 #[.pointer (some ⟨b,0,none⟩),.pointer (some ⟨A1,0,none⟩),.pointer (some ⟨A2,0,none⟩),.pointer (some ⟨A3,0,none⟩)] w fun e w'=>e=.returned (pv x)∧w'=w:=by
 have C1:=am h1
 have H2:=am h2
 have H3:=am h3
 have HC3:=am c3
 have HR:=am hR
 clear h2 h3 h1 hR
 go_enter Tryz.func323,Tryz.ntmps323
 go_wp2_with (go_at_call 313;fail)
 refine C1.out.mono ?_
 rintro e w1 ⟨rfl,hw⟩
 rw [hw]
 clear hw
 cases fc with
 |some c=>
  have:=H3.out c rfl
  subst this
  have e:pv (some c)=.pointer (some ⟨c,0,none⟩):=rfl
  rw [e]
  go_wp2
  go_ret
  exact ⟨rfl,rfl⟩
 |none=>
  have e:pv none=.pointer none:=rfl
  rw [e]
  rcases (H2.out rfl).cases with ⟨s,rfl,hs⟩|⟨hs,hc⟩
  ·have C2:=am (HR.out b _ hs)
   clear hs
   go_wp2_with (go_at_call 312;fail)
   refine C2.out.mono ?_
   rintro e w1 ⟨rfl,hw⟩
   rw [hw]
   clear hw
   have e:pv (some s)=.pointer (some ⟨s,0,none⟩):=rfl
   rw [e]
   go_wp2
   go_ret
   exact ⟨rfl,rfl⟩
  ·have C2:=am (HR.out b _ hs)
   have HC:=am hc
   clear hs hc
   go_wp2_with (go_at_call 312;fail)
   refine C2.out.mono ?_
   rintro e w1 ⟨rfl,hw⟩
   rw [hw]
   clear hw
   have e:pv none=.pointer none:=rfl
   rw [e]
   go_wp2
   go_loopg [0] d (fun gf v0 wx=>∃ n,v0=.pointer (some ⟨n,0,none⟩)∧wx=w∧Aside0 (Climb w R gf n x))
   case atStart=>exact ⟨b,rfl,rfl,HC⟩
   case round=>
    obtain ⟨n,rfl,hwx,HCl⟩:=hrel
    subst hwx
    rcases HCl.out with ⟨hp,rfl⟩|⟨e,p,rfl,hp,ha⟩
    ·change wr.cell? ⟨n,0,none⟩=some (.pointer none) at hp
     go_wp2
     go_ret
     exact ⟨rfl,rfl⟩
    ·change wr.cell? ⟨n,0,none⟩=some (.pointer (some ⟨p,0,none⟩)) at hp
     have C4:=am (forever_calls wr (.pointer (some ⟨p,0,none⟩)))
     have HA:=am ha
     have c3:=HC3.out
     clear ha
     go_wp2_with (go_at_call 281;fail)
     refine C4.out.mono ?_
     rintro e1 w1 ⟨rfl,hw⟩
     rw [hw]
     clear hw
     rcases HA.out.cases with ⟨s,rfl,hs⟩|⟨hs,hc⟩
     ·have C5:=am (HR.out p _ hs)
      clear hs
      go_wp2_with (go_at_call 312;fail)
      refine C5.out.mono ?_
      rintro e1 w1 ⟨rfl,hw⟩
      rw [hw]
      clear hw
      have e0:pv (some s)=.pointer (some ⟨s,0,none⟩):=rfl
      rw [e0]
      go_wp2
      go_ret
      exact ⟨rfl,rfl⟩
     ·have C5:=am (HR.out p _ hs)
      have HCp:=am hc
      clear hs hc
      go_wp2_with (go_at_call 312;fail)
      refine C5.out.mono ?_
      rintro e1 w1 ⟨rfl,hw⟩
      rw [hw]
      clear hw
      have e0:pv none=.pointer none:=rfl
      rw [e0]
      go_wp2
      go_roundg e
      case measure=>omega
      case rel=>exact ⟨p,rfl,rfl,HCp⟩
theorem nbElement_calls (w:World) (R:Nat→Option Nat→Prop) (hR:∀ b x,R b x→Calls Tryz.prog 280 #[.pointer (some ⟨b,0,none⟩)] w fun e w'=>e=.returned (pv x)∧w'=w) (d b:Nat) (fc:Option Nat) (x:Option Nat)
  (h1:Calls Tryz.prog 279 #[.pointer (some ⟨b,0,none⟩)] w fun e w'=>e=.returned (pv fc)∧w'=w) (h2:fc=none→After w R d b x) (h3:∀ c,fc=some c→x=some c) (A1 A2 A3:Nat)
  (c1:w.cell? ⟨A1,0,none⟩=some (.func (.func 279) #[] #[])) (c2:w.cell? ⟨A2,0,none⟩=some (.func (.func 280) #[] #[])) (c3:w.cell? ⟨A3,0,none⟩=some (.func (.func 281) #[] #[])):
  Calls Tryz.prog 323 #[.pointer (some ⟨b,0,none⟩),.pointer (some ⟨A1,0,none⟩),.pointer (some ⟨A2,0,none⟩),.pointer (some ⟨A3,0,none⟩)] w fun e w'=>e=.returned (pv x)∧w'=w:=by
 have C1:=am h1
 have H2:=am h2
 have H3:=am h3
 have HC3:=am c3
 have HR:=am hR
 clear h2 h3 h1 hR
 go_enter Tryz.func323,Tryz.ntmps323
 go_wp2_with (go_at_call 279;fail)
 refine C1.out.mono ?_
 rintro e w1 ⟨rfl,hw⟩
 rw [hw]
 clear hw
 cases fc with
 |some c=>
  have:=H3.out c rfl
  subst this
  have e:pv (some c)=.pointer (some ⟨c,0,none⟩):=rfl
  rw [e]
  go_wp2
  go_ret
  exact ⟨rfl,rfl⟩
 |none=>
  have e:pv none=.pointer none:=rfl
  rw [e]
  rcases (H2.out rfl).cases with ⟨s,rfl,hs⟩|⟨hs,hc⟩
  ·have C2:=am (HR.out b _ hs)
   clear hs
   go_wp2_with (go_at_call 280;fail)
   refine C2.out.mono ?_
   rintro e w1 ⟨rfl,hw⟩
   rw [hw]
   clear hw
   have e:pv (some s)=.pointer (some ⟨s,0,none⟩):=rfl
   rw [e]
   go_wp2
   go_ret
   exact ⟨rfl,rfl⟩
  ·have C2:=am (HR.out b _ hs)
   have HC:=am hc
   clear hs hc
   go_wp2_with (go_at_call 280;fail)
   refine C2.out.mono ?_
   rintro e w1 ⟨rfl,hw⟩
   rw [hw]
   clear hw
   have e:pv none=.pointer none:=rfl
   rw [e]
   go_wp2
   go_loopg [0] d (fun gf v0 wx=>∃ n,v0=.pointer (some ⟨n,0,none⟩)∧wx=w∧Aside0 (Climb w R gf n x))
   case atStart=>exact ⟨b,rfl,rfl,HC⟩
   case round=>
    obtain ⟨n,rfl,hwx,HCl⟩:=hrel
    subst hwx
    rcases HCl.out with ⟨hp,rfl⟩|⟨e,p,rfl,hp,ha⟩
    ·change wr.cell? ⟨n,0,none⟩=some (.pointer none) at hp
     go_wp2
     go_ret
     exact ⟨rfl,rfl⟩
    ·change wr.cell? ⟨n,0,none⟩=some (.pointer (some ⟨p,0,none⟩)) at hp
     have C4:=am (forever_calls wr (.pointer (some ⟨p,0,none⟩)))
     have HA:=am ha
     have c3:=HC3.out
     clear ha
     go_wp2_with (go_at_call 281;fail)
     refine C4.out.mono ?_
     rintro e1 w1 ⟨rfl,hw⟩
     rw [hw]
     clear hw
     rcases HA.out.cases with ⟨s,rfl,hs⟩|⟨hs,hc⟩
     ·have C5:=am (HR.out p _ hs)
      clear hs
      go_wp2_with (go_at_call 280;fail)
      refine C5.out.mono ?_
      rintro e1 w1 ⟨rfl,hw⟩
      rw [hw]
      clear hw
      have e0:pv (some s)=.pointer (some ⟨s,0,none⟩):=rfl
      rw [e0]
      go_wp2
      go_ret
      exact ⟨rfl,rfl⟩
     ·have C5:=am (HR.out p _ hs)
      have HCp:=am hc
      clear hs hc
      go_wp2_with (go_at_call 280;fail)
      refine C5.out.mono ?_
      rintro e1 w1 ⟨rfl,hw⟩
      rw [hw]
      clear hw
      have e0:pv none=.pointer none:=rfl
      rw [e0]
      go_wp2
      go_roundg e
      case measure=>omega
      case rel=>exact ⟨p,rfl,rfl,HCp⟩
theorem initNb_calls (w:World) (f1 f2 f3:Nat) (b1 b2 b3:Array Value):Calls Tryz.prog 278 #[.func (.func f1) #[] b1,.func (.func f2) #[] b2,.func (.func f3) #[] b3] w fun e w'=>∃ A1 A2 A3,e=.returned (.func (.func 323) #[] #[.pointer (some ⟨A1,0,none⟩),.pointer (some ⟨A2,0,none⟩),.pointer (some ⟨A3,0,none⟩)]) ∧
  w'.cell? ⟨A1,0,none⟩=some (.func (.func f1) #[] b1)∧w'.cell? ⟨A2,0,none⟩=some (.func (.func f2) #[] b2)∧w'.cell? ⟨A3,0,none⟩=some (.func (.func f3) #[] b3)∧Below w.heap.size w w':=by
 have hmf:∀ (fn:Fn) (first cap:Array Value) (w:World),(Instr.makeFunc fn first cap).run Tryz.prog w=.ok (.func fn first cap) w:=fun _ _ _ _=>rfl
 go_enter Tryz.func278,Tryz.ntmps278
 go_wp2
 go_ret
 have hal:∀ (u:World) (o:Obj),(u.alloc o).heap[u.heap.size]?=some o:=by intro u o;simp [World.alloc,-World.alloc_eq]
 have hsz:∀ (u:World) (o:Obj),(u.alloc o).heap.size=u.heap.size+1:=by intro u o;simp [World.alloc,-World.alloc_eq]
 refine ⟨w.heap.size,w.heap.size+1,w.heap.size+1+1,rfl,?_,?_,?_,?_⟩
 ·rw [World.cell?_of_block (Below.heap_alloc _ _ w.heap.size (by simp only [hsz];omega)),World.cell?_of_block (Below.heap_alloc _ _ w.heap.size (by simp only [hsz];omega))]
  simp only [World.cell?,hal];rfl
 ·rw [World.cell?_of_block (Below.heap_alloc _ _ (w.heap.size+1) (by simp only [hsz];omega))]
  simp only [World.cell?,← hsz w (.cells #[.func (.func f1) #[] b1] 287),hal];rfl
 ·simp only [World.cell?,← hsz w (.cells #[.func (.func f1) #[] b1] 287),← hsz (w.alloc (.cells #[.func (.func f1) #[] b1] 287)) (.cells #[.func (.func f2) #[] b2] 287),hal];rfl
 ·exact (((Below.refl _ w).alloc (Nat.le_refl _) _).alloc (by rw [hsz];omega) _).alloc (by rw [hsz,hsz];omega) _
theorem nextNode_calls (w:World) (R:World→Nat→Option Nat→Prop) (hR:∀ w',Below w.heap.size w w'→∀ b x,R w' b x→Calls Tryz.prog 312 #[.pointer (some ⟨b,0,none⟩)] w' fun e w2=>e=.returned (pv x)∧w2=w') (d b:Nat) (fc:Option Nat) (x:Option Nat)
  (h1:∀ w',Below w.heap.size w w'→Calls Tryz.prog 313 #[.pointer (some ⟨b,0,none⟩)] w' fun e w2=>e=.returned (pv fc)∧w2=w') (h2:∀ w',Below w.heap.size w w'→fc=none→After w' (R w') d b x) (h3:∀ c,fc=some c→x=some c):
  Calls Tryz.prog 262 #[.pointer (some ⟨b,0,none⟩)] w fun e w'=>e=.returned (pv x)∧Below w.heap.size w w':=by
 have CI:=am (initNb_calls w 313 312 281 #[] #[] #[])
 have HR:=am hR
 have H1:=am h1
 have H2:=am h2
 have H3:=am h3
 clear hR h1 h2 h3
 go_enter Tryz.func262,Tryz.ntmps262
 go_wp2_with (go_at_call 278;fail)
 refine CI.out.mono ?_
 rintro e w1 ⟨A1,A2,A3,rfl,hc1,hc2,hc3,hb⟩
 have HB:=am hb
 have CN:=am (nbNode_calls w1 (R w1) (HR.out w1 hb) d b fc x (H1.out w1 hb) (H2.out w1 hb) H3.out A1 A2 A3 hc1 hc2 hc3)
 clear hb
 go_wp2_with (go_at_call 323;fail)
 refine CN.out.mono ?_
 rintro e w2 ⟨rfl,hw⟩
 rw [hw]
 clear hw
 go_wp2
 go_ret
 exact ⟨rfl,HB.out⟩
theorem nextE_calls (w:World) (R:World→Nat→Option Nat→Prop) (hR:∀ w',Below w.heap.size w w'→∀ b x,R w' b x→Calls Tryz.prog 280 #[.pointer (some ⟨b,0,none⟩)] w' fun e w2=>e=.returned (pv x)∧w2=w') (d b:Nat) (fc:Option Nat) (x:Option Nat)
  (h1:∀ w',Below w.heap.size w w'→Calls Tryz.prog 279 #[.pointer (some ⟨b,0,none⟩)] w' fun e w2=>e=.returned (pv fc)∧w2=w') (h2:∀ w',Below w.heap.size w w'→fc=none→After w' (R w') d b x) (h3:∀ c,fc=some c→x=some c):
  Calls Tryz.prog 227 #[.pointer (some ⟨b,0,none⟩)] w fun e w'=>e=.returned (pv x)∧Below w.heap.size w w':=by
 have CI:=am (initNb_calls w 279 280 281 #[] #[] #[])
 have HR:=am hR
 have H1:=am h1
 have H2:=am h2
 have H3:=am h3
 clear hR h1 h2 h3
 go_enter Tryz.func227,Tryz.ntmps227
 go_wp2_with (go_at_call 278;fail)
 refine CI.out.mono ?_
 rintro e w1 ⟨A1,A2,A3,rfl,hc1,hc2,hc3,hb⟩
 have HB:=am hb
 have CN:=am (nbElement_calls w1 (R w1) (HR.out w1 hb) d b fc x (H1.out w1 hb) (H2.out w1 hb) H3.out A1 A2 A3 hc1 hc2 hc3)
 clear hb
 go_wp2_with (go_at_call 323;fail)
 refine CN.out.mono ?_
 rintro e w2 ⟨rfl,hw⟩
 rw [hw]
 clear hw
 go_wp2
 go_ret
 exact ⟨rfl,HB.out⟩
theorem DT.induct {P:DT→Prop} (h:∀ b i kids,(∀ t∈kids,P t)→P (.node b i kids)):∀ t,P t
 |.node b i kids=>h b i kids fun t ht=>DT.induct h t
termination_by t=>SizeOf.sizeOf t
decreasing_by
 have:=List.sizeOf_lt_of_mem ht
 simp only [DT.node.sizeOf_spec];omega
def nText:ByteArray:=⟨#[35,116,101,120,116]⟩
def nDoc:ByteArray:=⟨#[35,100,111,99,117,109,101,110,116]⟩
def nTable:ByteArray:=⟨#[116,97,98,108,101]⟩
def nThead:ByteArray:=⟨#[116,104,101,97,100]⟩
def nTbody:ByteArray:=⟨#[116,98,111,100,121]⟩
def nTfoot:ByteArray:=⟨#[116,102,111,111,116]⟩
def nTr:ByteArray:=⟨#[116,114]⟩
def nTd:ByteArray:=⟨#[116,100]⟩
def nTh:ByteArray:=⟨#[116,104]⟩
def NI.nm (i:NI):ByteArray:=if i.kind=1 then nText else if i.kind=2 then nDoc else i.data
inductive NI.Plain (i:NI):Prop where
 |text (h:i.kind=1)
 |doc (h:i.kind=2)
 |table (h:i.kind=3) (hd:i.data=nTable)
 |thead (h:i.kind=3) (hd:i.data=nThead)
 |tbody (h:i.kind=3) (hd:i.data=nTbody)
 |tfoot (h:i.kind=3) (hd:i.data=nTfoot)
 |tr (h:i.kind=3) (hd:i.data=nTr)
 |td (h:i.kind=3) (hd:i.data=nTd)
 |th (h:i.kind=3) (hd:i.data=nTh)
theorem NI.Plain.kind {i:NI} (h:i.Plain):i.kind=1∨i.kind=2∨i.kind=3:=by cases h <;> simp_all
theorem NI.Plain.cases {i:NI} (h:i.Plain):i.nm=⟨#[35,116,101,120,116]⟩∨i.nm=⟨#[35,100,111,99,117,109,101,110,116]⟩∨i.nm=⟨#[116,97,98,108,101]⟩∨i.nm=⟨#[116,104,101,97,100]⟩∨i.nm=⟨#[116,98,111,100,121]⟩∨i.nm=⟨#[116,102,111,111,116]⟩∨i.nm=⟨#[116,114]⟩∨i.nm=⟨#[116,100]⟩∨i.nm=⟨#[116,104]⟩:=by
 cases h <;> simp_all [NI.nm,nText,nDoc,nTable,nThead,nTbody,nTfoot,nTr,nTd,nTh]
mutual
def DT.Plain:DT→Prop
 |.node _ i kids=>i.Plain∧DT.PlainL kids
def DT.PlainL:List DT→Prop
 |[]=>True
 |t::r=>t.Plain∧DT.PlainL r
end
theorem DT.PlainL.mem:∀ {l:List DT},DT.PlainL l→∀ t∈l,t.Plain
 |t::r,⟨h1,h2⟩,u,hu=>by
  rcases List.mem_cons.1 hu with rfl|hu
  ·exact h1
  ·exact DT.PlainL.mem h2 u hu
theorem cell_block {w:World} {b:Nat} {k:Nat} {v:Value} (h:w.cell? ⟨b,k,none⟩=some v):b < w.heap.size:=by
 rcases hb:w.heap[b]? with _|o
 ·simp [World.cell?,hb] at h
 ·exact (Array.getElem?_eq_some_iff.1 hb).1
theorem At_next {w:World} {t:DT} {par prev next:Option Nat} (h:DT.At w par prev next t):w.cell? ⟨t.blk,4,none⟩=some (pv next):=by
 obtain ⟨b,i,kids⟩:=t
 exact (node_fields h.1).2.2.2.2.1
theorem name_calls (w:World) (b:Nat) (i:NI) (kids:List DT) (par prev next:Option Nat) (h:DT.At w par prev next (.node b i kids)) (hp:i.Plain):
 Calls Tryz.prog 72 #[.pointer (some ⟨b,0,none⟩)] w fun e w'=>e=.returned (.string i.nm)∧w'=w:=nodeName_calls w b i kids par prev next h hp.kind
theorem isFakeSpan_calls (w:World) (b:Nat) (i:NI) (kids:List DT) (par prev next:Option Nat) (h:DT.At w par prev next (.node b i kids)) (hp:i.Plain):
  Calls Tryz.prog 252 #[.pointer (some ⟨b,0,none⟩)] w fun e w'=>e=.returned (.bool false)∧Below w.heap.size w w':=by
 have C:=am (name_calls w b i kids par prev next h hp)
 have HN:=am hp.cases
 clear h hp
 go_enter Tryz.func252,Tryz.ntmps252
 go_wp2_with (go_at_call 72;fail)
 refine C.out.mono ?_
 rintro e w1 ⟨rfl,hw⟩
 rw [hw]
 clear hw
 rcases HN.out with e|e|e|e|e|e|e|e|e <;> rw [e] <;> go_wp2 <;> go_ret <;> exact ⟨rfl,Below.refl _ _⟩
theorem fakeSpans_calls (t:DT):∀ (w:World) (par prev next:Option Nat) (B:Nat) (h:DT.At w par prev next t) (hp:t.Plain) (hB:w.cell? ⟨B,0,none⟩=some (.func (.func 251) #[] #[.pointer (some ⟨B,0,none⟩)])),
  Calls Tryz.prog 251 #[.pointer (some ⟨t.blk,0,none⟩),.pointer (some ⟨B,0,none⟩)] w fun e w'=>e=.returned (.tuple #[])∧Below w.heap.size w w':=by
 induction t using DT.induct with
 |h b i kids IH=>
 intro w par prev next B h hp hB
 have C:=am (isFakeSpan_calls w b i kids par prev next h hp.1)
 have IH:=am IH
 have HP:=am (DT.PlainL.mem hp.2)
 have HK:=am h.2
 have HB:=am hB
 have HSz:=am (Array.getElem?_eq_some_iff.1 h.1).1
 have H1:=am h.1
 clear h hp hB
 show Calls Tryz.prog 251 #[.pointer (some ⟨b,0,none⟩),.pointer (some ⟨B,0,none⟩)] w _
 go_enter Tryz.func251,Tryz.ntmps251
 go_wp2_with (go_at_call 252;fail)
 refine C.out.mono ?_
 rintro e w1 ⟨rfl,hw⟩
 have HW:=am hw
 clear hw
 obtain ⟨f0,f1,f2,f3,f4,f5,f6,f7,f8,f9⟩:=node_fields (show w1.heap[b]?=_ by rw [HW.out.block b HSz.out];exact H1.out)
 clear f0 f2 f3 f4 f5 f6 f7 f8 f9
 go_wp2
 go_loopg [3] kids.length (fun gf v3 wx=>∃ (pr:Option Nat) (rest:List DT),v3=pv (firstB rest)∧Aside0 (∀ t∈rest,t∈kids)∧Aside0 (Below w.heap.size w wx)∧Aside0 (rest.length≤gf)∧Aside0 (KidsAt w b pr rest))
 case atStart=>exact ⟨none,kids,rfl,⟨fun _ h=>h⟩,HW,⟨Nat.le_refl _⟩,HK⟩
 case round=>
  obtain ⟨pr,rest,rfl,HM,HBw,HG,HKr⟩:=hrel
  cases rest with
  |nil=>
   have e:pv (firstB [])=.pointer none:=rfl
   rw [e]
   go_wp2
   go_end0
   exact ⟨rfl,HBw.out⟩
  |cons t r=>
   obtain ⟨ht,hr⟩:=HKr.out
   obtain ⟨g',rfl⟩:∃ g',gk=g'+1:=⟨gk - 1,by have:=HG.out;simp only [List.length_cons] at this;omega⟩
   have e:pv (firstB (t::r))=.pointer (some ⟨t.blk,0,none⟩):=rfl
   rw [e]
   have hBc:wr.cell? ⟨B,0,none⟩=some (.func (.func 251) #[] #[.pointer (some ⟨B,0,none⟩)]):=by
    rw [World.cell?_of_block (HBw.out.block B (cell_block HB.out))];exact HB.out
   have CI:=am (IH.out t (HM.out t (List.mem_cons_self ..)) wr (some b) pr (firstB r) B (DT.At.keep HBw.out ht) (HP.out t (HM.out t (List.mem_cons_self ..))) hBc)
   have HT:=am ht
   have HR:=am hr
   clear ht hr
   go_wp2_with (go_at_call 251;fail)
   refine CI.out.mono ?_
   rintro e w1 ⟨rfl,hw⟩
   have HW1:=am (HBw.out.trans (hw.mono (HBw.out.size)))
   clear hw
   have f4:w1.cell? ⟨t.blk,4,none⟩=some (pv (firstB r)):=At_next (DT.At.keep HW1.out HT.out)
   clear hBc
   go_wp2
   go_roundg g'
   case measure=>omega
   case rel=>exact ⟨some t.blk,r,rfl,⟨fun u hu=>HM.out u (List.mem_cons_of_mem _ hu)⟩,HW1,⟨by have:=HG.out;simp only [List.length_cons] at this;omega⟩,HR⟩
inductive Kids:List DT→Prop where
 |elems (l:List DT) (h:∀ b i k,DT.node b i k∈l→i.kind=3):Kids l
 |text (b:Nat) (i:NI) (h:i.kind=1):Kids [.node b i []]
mutual
def DT.Shape:DT→Prop
 |.node _ i kids=>i.Plain∧Kids kids∧(i.kind=1→kids=[])∧DT.ShapeL kids
def DT.ShapeL:List DT→Prop
 |[]=>True
 |t::r=>t.Shape∧DT.ShapeL r
end
theorem DT.ShapeL.mem:∀ {l:List DT},DT.ShapeL l→∀ t∈l,t.Shape
 |t::r,⟨h1,h2⟩,u,hu=>by
  rcases List.mem_cons.1 hu with rfl|hu
  ·exact h1
  ·exact DT.ShapeL.mem h2 u hu
mutual
theorem DT.Shape.plain:∀ {t:DT},t.Shape→t.Plain
 |.node _ _ _,⟨h1,_,_,h2⟩=>⟨h1,DT.ShapeL.plain h2⟩
theorem DT.ShapeL.plain:∀ {l:List DT},DT.ShapeL l→DT.PlainL l
 |[],_=>trivial
 |_::_,⟨h1,h2⟩=>⟨DT.Shape.plain h1,DT.ShapeL.plain h2⟩
end
mutual
def DT.pre:DT→List Nat
 |.node b i kids=>if i.kind=1 then [] else b::DT.preL kids
def DT.preL:List DT→List Nat
 |[]=>[]
 |t::r=>t.pre++DT.preL r
end
mutual
def DT.all:DT→List Nat
 |.node b i kids=>b::DT.allL kids
def DT.allL:List DT→List Nat
 |[]=>[]
 |t::r=>t.all++DT.allL r
end
def Row (S:Nat→Option Nat→Prop):List Nat→Option Nat→Prop
 |[],_=>True
 |[b],x=>S b x
 |b::c::r,x=>S b (some c)∧Row S (c::r) x
theorem Row.append {S:Nat→Option Nat→Prop}:∀ {l:List Nat} {c:Nat} {r:List Nat} {x:Option Nat},Row S l (some c)→Row S (c::r) x→Row S (l++c::r) x
 |[],_,_,_,_,h=>h
 |[_],_,_,_,h1,h2=>⟨h1,h2⟩
 |_::d::l,_,_,_,⟨h1,h3⟩,h2=>⟨h1,Row.append (l:=d::l) h3 h2⟩
theorem Row.tail {S:Nat→Option Nat→Prop} {b:Nat} {r:List Nat} {x:Option Nat} (h:Row S (b::r) x):Row S r x:=by
 cases r with
 |nil=>trivial
 |cons c r=>exact h.2
theorem Row.head {S:Nat→Option Nat→Prop} {b:Nat} {r:List Nat} (h:Row S (b::r) none):S b r.head?:=by
 cases r with
 |nil=>exact h
 |cons c r=>exact h.1
theorem DT.preL_cons (t:DT) (r:List DT):DT.preL (t::r)=t.pre++DT.preL r:=by rw [DT.preL]
theorem DT.preL_elem {b:Nat} {i:NI} {k r:List DT} (h:i.kind≠1):DT.preL (.node b i k::r)=b::(DT.preL k++DT.preL r):=by rw [DT.preL,DT.pre,if_neg h];rfl
def StepE (w:World) (b:Nat) (x:Option Nat):Prop:=∃ d fc,FirstE w b fc∧(fc=none→After w (NextE w) d b x)∧∀ c,fc=some c→x=some c
def StepN (w:World) (b:Nat) (x:Option Nat):Prop:=∃ d fc,w.cell? ⟨b,1,none⟩=some (pv fc)∧(fc=none→After w (NextN w) d b x)∧∀ c,fc=some c→x=some c
theorem At_fields {w:World} {b:Nat} {i:NI} {kids:List DT} {par prev next:Option Nat} (h:DT.At w par prev next (.node b i kids)):
  w.cell? ⟨b,0,none⟩=some (pv par)∧w.cell? ⟨b,1,none⟩=some (pv (firstB kids))∧w.cell? ⟨b,2,none⟩=some (pv (lastB kids))∧w.cell? ⟨b,3,none⟩=some (pv prev)∧w.cell? ⟨b,4,none⟩=some (pv next)∧w.cell? ⟨b,5,none⟩=some (.int .u32 (i.kind:Int)) ∧
   w.cell? ⟨b,6,none⟩=some (.int .u32 i.atom)∧w.cell? ⟨b,7,none⟩=some (.string i.data)∧w.cell? ⟨b,9,none⟩=some i.attr:=by
 obtain ⟨f0,f1,f2,f3,f4,f5,f6,f7,f8,f9⟩:=node_fields h.1
 exact ⟨f0,f1,f2,f3,f4,f5,f6,f7,f9⟩
theorem DT.rowEL {w:World} (l:List DT) (IH:∀ t∈l,∀ (par prev next:Option Nat),DT.At w par prev next t→t.Shape→(∀ b i k,t=.node b i k→i.kind≠1)→∀ (d:Nat) (x:Option Nat),After w (NextE w) d t.blk x→Row (StepE w) t.pre x):
  ∀ (b:Nat) (prev:Option Nat),KidsAt w b prev l→DT.ShapeL l→(∀ tb ti tk,DT.node tb ti tk∈l→ti.kind=3)→∀ (d:Nat) (x:Option Nat),After w (NextE w) d b x→Row (StepE w) (DT.preL l) x:=by
 induction l with
 |nil=>intro b prev _ _ _ d x _;rw [DT.preL];trivial
 |cons t r ih=>
  intro b prev h hs he d x ha
  obtain ⟨tb,ti,tk⟩:=t
  have f:=At_fields h.1
  have hti:=he tb ti tk (List.mem_cons_self ..)
  have hr:=ih (fun t ht=>IH t (List.mem_cons_of_mem _ ht)) b (some tb) h.2 hs.2 (fun tb ti tk hm=>he tb ti tk (List.mem_cons_of_mem _ hm)) d x ha
  have ht:=IH (.node tb ti tk) (List.mem_cons_self ..) (some b) prev (firstB r) h.1 hs.1 (fun b i k hh=>by injection hh with _ h2 _;subst h2;omega)
  cases r with
  |nil=>
   have:=ht (d+1) x (After.up d tb b x (.inl ⟨f.2.2.2.2.1,rfl⟩) f.1 ha)
   rw [DT.preL,DT.preL,List.append_nil];exact this
  |cons u r=>
   obtain ⟨ub,ui,uk⟩:=u
   have hui:=he ub ui uk (List.mem_cons_of_mem _ (List.mem_cons_self ..))
   have g:=At_fields h.2.1
   have:=ht 0 (some ub) (After.sib 0 tb ub (.inr ⟨ub,f.2.2.2.2.1,by have:=g.2.2.2.2.2.1;rw [hui] at this;exact this,rfl⟩))
   rw [DT.preL_elem (by omega)] at hr
   rw [DT.preL_cons,DT.preL_elem (by omega)]
   exact Row.append this hr
theorem DT.rowE {w:World} (t:DT):∀ (par prev next:Option Nat),DT.At w par prev next t→t.Shape→(∀ b i k,t=.node b i k→i.kind≠1)→∀ (d:Nat) (x:Option Nat),After w (NextE w) d t.blk x→Row (StepE w) t.pre x:=by
 induction t using DT.induct with
 |h b i kids IH=>
 intro par prev next h hs he d x ha
 have f:=At_fields h
 have h1:i.kind≠1:=he b i kids rfl
 rw [DT.pre,if_neg h1]
 rcases hs.2.1 with ⟨_,hk⟩|⟨tb,ti,hk⟩
 ·cases kids with
  |nil=>
   rw [DT.preL]
   exact ⟨d,none,.inl ⟨f.2.1,rfl⟩,fun _=>ha,fun c hc=>by cases hc⟩
  |cons t r=>
   obtain ⟨tb,ti,tk⟩:=t
   have hti:=hk tb ti tk (List.mem_cons_self ..)
   have hf:FirstE w b (some tb):=.inr (.inl ⟨tb,f.2.1,by have:=(At_fields h.2.1).2.2.2.2.2.1;rw [hti] at this;exact this,rfl⟩)
   have hr:=DT.rowEL (DT.node tb ti tk::r) IH b none h.2 hs.2.2.2 hk d x ha
   rw [DT.preL_elem (by omega)] at hr ⊢
   exact ⟨⟨0,some tb,hf,fun h=>by (cases h),fun c hc=>hc⟩,hr⟩
 ·have hf:FirstE w b none:=.inr (.inr ⟨tb,f.2.1,by have:=(At_fields h.2.1).2.2.2.2.2.1;rw [hk] at this;exact this,(At_fields h.2.1).2.2.2.2.1,rfl⟩)
  rw [DT.preL,DT.preL,DT.pre,if_pos hk]
  exact ⟨d,none,hf,fun _=>ha,fun c hc=>by cases hc⟩
theorem DT.allL_cons (t:DT) (r:List DT):DT.allL (t::r)=t.all++DT.allL r:=by rw [DT.allL]
theorem DT.all_eq (t:DT):∃ l,t.all=t.blk::l:=by
 obtain ⟨b,i,k⟩:=t
 exact ⟨_,by rw [DT.all];rfl⟩
theorem DT.rowNL {w:World} (l:List DT) (IH:∀ t∈l,∀ (par prev next:Option Nat),DT.At w par prev next t→∀ (d:Nat) (x:Option Nat),After w (NextN w) d t.blk x→Row (StepN w) t.all x):
  ∀ (b:Nat) (prev:Option Nat),KidsAt w b prev l→∀ (d:Nat) (x:Option Nat),After w (NextN w) d b x→Row (StepN w) (DT.allL l) x:=by
 induction l with
 |nil=>intro b prev _ d x _;rw [DT.allL];trivial
 |cons t r ih=>
  intro b prev h d x ha
  obtain ⟨tb,ti,tk⟩:=t
  have f:=At_fields h.1
  have hr:=ih (fun t ht=>IH t (List.mem_cons_of_mem _ ht)) b (some tb) h.2 d x ha
  have ht:=IH (.node tb ti tk) (List.mem_cons_self ..) (some b) prev (firstB r) h.1
  cases r with
  |nil=>
   have:=ht (d+1) x (After.up d tb b x f.2.2.2.2.1 f.1 ha)
   rw [DT.allL,DT.allL,List.append_nil];exact this
  |cons u r=>
   have:=ht 0 (some u.blk) (After.sib 0 tb u.blk f.2.2.2.2.1)
   obtain ⟨ul,hu⟩:=DT.all_eq u
   rw [DT.allL_cons,hu] at hr
   rw [DT.allL_cons,DT.allL_cons,hu]
   exact Row.append this hr
theorem DT.rowN {w:World} (t:DT):∀ (par prev next:Option Nat),DT.At w par prev next t→∀ (d:Nat) (x:Option Nat),After w (NextN w) d t.blk x→Row (StepN w) t.all x:=by
 induction t using DT.induct with
 |h b i kids IH=>
 intro par prev next h d x ha
 have f:=At_fields h
 rw [DT.all]
 cases kids with
 |nil=>
  rw [DT.allL]
  exact ⟨d,none,f.2.1,fun _=>ha,fun c hc=>by cases hc⟩
 |cons t r=>
  have hr:=DT.rowNL (t::r) IH b none h.2 d x ha
  obtain ⟨tl,ht⟩:=DT.all_eq t
  rw [DT.allL_cons,ht] at hr ⊢
  exact ⟨⟨0,some t.blk,f.2.1,fun h=>by (cases h),fun c hc=>hc⟩,hr⟩
structure NodeAt (w:World) (b:Nat) (i:NI) (kids:List DT) (par prev next:Option Nat):Prop where
 at_:DT.At w par prev next (.node b i kids)
 shape:(DT.node b i kids).Shape
theorem DT.mem_allL {w:World} (l:List DT) (IH:∀ t∈l,∀ (par prev next:Option Nat),DT.At w par prev next t→t.Shape→∀ c∈t.all,∃ i kids par prev next,NodeAt w c i kids par prev next):
  ∀ (b:Nat) (prev:Option Nat),KidsAt w b prev l→DT.ShapeL l→∀ c∈DT.allL l,∃ i kids par prev next,NodeAt w c i kids par prev next:=by
 induction l with
 |nil=>intro b prev _ _ c hc;rw [DT.allL] at hc;cases hc
 |cons t r ih=>
  intro b prev h hs c hc
  rw [DT.allL_cons,List.mem_append] at hc
  rcases hc with hc|hc
  ·exact IH t (List.mem_cons_self ..) (some b) prev (firstB r) h.1 hs.1 c hc
  ·exact ih (fun t ht=>IH t (List.mem_cons_of_mem _ ht)) b (some t.blk) h.2 hs.2 c hc
theorem DT.mem_all {w:World} (t:DT):∀ (par prev next:Option Nat),DT.At w par prev next t→t.Shape→∀ c∈t.all,∃ i kids par prev next,NodeAt w c i kids par prev next:=by
 induction t using DT.induct with
 |h b i kids IH=>
 intro par prev next h hs c hc
 rw [DT.all,List.mem_cons] at hc
 rcases hc with rfl|hc
 ·exact ⟨i,kids,par,prev,next,h,hs⟩
 ·exact DT.mem_allL kids IH b none h.2 hs.2.2.2 c hc
theorem DT.pre_subL (l:List DT) (IH:∀ t∈l,∀ c∈t.pre,c∈t.all):∀ c∈DT.preL l,c∈DT.allL l:=by
 induction l with
 |nil=>intro c hc;rw [DT.preL] at hc;cases hc
 |cons t r ih=>
  intro c hc
  rw [DT.preL_cons,List.mem_append] at hc
  rw [DT.allL_cons,List.mem_append]
  rcases hc with hc|hc
  ·exact .inl (IH t (List.mem_cons_self ..) c hc)
  ·exact .inr (ih (fun t ht=>IH t (List.mem_cons_of_mem _ ht)) c hc)
theorem DT.pre_sub (t:DT):∀ c∈t.pre,c∈t.all:=by
 induction t using DT.induct with
 |h b i kids IH=>
 intro c hc
 rw [DT.all]
 rw [DT.pre] at hc
 split at hc
 ·cases hc
 ·rcases List.mem_cons.1 hc with rfl|hc
  ·exact List.mem_cons_self ..
  ·exact List.mem_cons_of_mem _ (DT.pre_subL kids IH c hc)
theorem NodeAt.keep {w w':World} (h:Below w.heap.size w w') {b:Nat} {i:NI} {kids:List DT} {par prev next:Option Nat} (hn:NodeAt w b i kids par prev next):NodeAt w' b i kids par prev next:=⟨DT.At.keep h hn.at_,hn.shape⟩
theorem isBold_calls (w:World) (b:Nat) (i:NI) (kids:List DT) (par prev next:Option Nat) (h:NodeAt w b i kids par prev next):
  Calls Tryz.prog 256 #[.pointer (some ⟨b,0,none⟩)] w fun e w'=>e=.returned (.bool false)∧w'=w:=by
 have C80:=am (name_calls w b i kids par prev next h.at_ h.shape.1)
 have HN:=am h.shape.1.cases
 clear h
 go_enter Tryz.func256,Tryz.ntmps256
 go_wp2_with (go_at_call 72;fail)
 refine C80.out.mono ?_
 rintro e w1 ⟨rfl,hw⟩
 rw [hw]
 clear hw
 rcases HN.out with e|e|e|e|e|e|e|e|e <;> rw [e] <;> go_wp2 <;> go_ret <;> exact ⟨rfl,rfl⟩
theorem isItalic_calls (w:World) (b:Nat) (i:NI) (kids:List DT) (par prev next:Option Nat) (h:NodeAt w b i kids par prev next):
  Calls Tryz.prog 257 #[.pointer (some ⟨b,0,none⟩)] w fun e w'=>e=.returned (.bool false)∧w'=w:=by
 have C80:=am (name_calls w b i kids par prev next h.at_ h.shape.1)
 have HN:=am h.shape.1.cases
 clear h
 go_enter Tryz.func257,Tryz.ntmps257
 go_wp2_with (go_at_call 72;fail)
 refine C80.out.mono ?_
 rintro e w1 ⟨rfl,hw⟩
 rw [hw]
 clear hw
 rcases HN.out with e|e|e|e|e|e|e|e|e <;> rw [e] <;> go_wp2 <;> go_ret <;> exact ⟨rfl,rfl⟩
theorem isInlineCode_calls (w:World) (b:Nat) (i:NI) (kids:List DT) (par prev next:Option Nat) (h:NodeAt w b i kids par prev next):
  Calls Tryz.prog 216 #[.pointer (some ⟨b,0,none⟩)] w fun e w'=>e=.returned (.bool false)∧w'=w:=by
 have C80:=am (name_calls w b i kids par prev next h.at_ h.shape.1)
 have HN:=am h.shape.1.cases
 clear h
 go_enter Tryz.func216,Tryz.ntmps216
 go_wp2_with (go_at_call 72;fail)
 refine C80.out.mono ?_
 rintro e w1 ⟨rfl,hw⟩
 rw [hw]
 clear hw
 rcases HN.out with e|e|e|e|e|e|e|e|e <;> rw [e] <;> go_wp2 <;> go_ret <;> exact ⟨rfl,rfl⟩
theorem isLink_calls (w:World) (b:Nat) (i:NI) (kids:List DT) (par prev next:Option Nat) (h:NodeAt w b i kids par prev next):
  Calls Tryz.prog 220 #[.pointer (some ⟨b,0,none⟩)] w fun e w'=>e=.returned (.bool false)∧w'=w:=by
 have C80:=am (name_calls w b i kids par prev next h.at_ h.shape.1)
 have HN:=am h.shape.1.cases
 clear h
 go_enter Tryz.func220,Tryz.ntmps220
 go_wp2_with (go_at_call 72;fail)
 refine C80.out.mono ?_
 rintro e w1 ⟨rfl,hw⟩
 rw [hw]
 clear hw
 rcases HN.out with e|e|e|e|e|e|e|e|e <;> rw [e] <;> go_wp2 <;> go_ret <;> exact ⟨rfl,rfl⟩
theorem isList_calls (w:World) (b:Nat) (i:NI) (kids:List DT) (par prev next:Option Nat) (h:NodeAt w b i kids par prev next):
  Calls Tryz.prog 224 #[.pointer (some ⟨b,0,none⟩)] w fun e w'=>e=.returned (.bool false)∧w'=w:=by
 have C80:=am (name_calls w b i kids par prev next h.at_ h.shape.1)
 have HN:=am h.shape.1.cases
 clear h
 go_enter Tryz.func224,Tryz.ntmps224
 go_wp2_with (go_at_call 72;fail)
 refine C80.out.mono ?_
 rintro e w1 ⟨rfl,hw⟩
 rw [hw]
 clear hw
 rcases HN.out with e|e|e|e|e|e|e|e|e <;> rw [e] <;> go_wp2 <;> go_ret <;> exact ⟨rfl,rfl⟩
theorem isBoldItalic_calls (w:World) (b:Nat) (i:NI) (kids:List DT) (par prev next:Option Nat) (h:NodeAt w b i kids par prev next):
  Calls Tryz.prog 213 #[.pointer (some ⟨b,0,none⟩)] w fun e w'=>e=.returned (.bool false)∧w'=w:=by
 have C261:=am (isBold_calls w b i kids par prev next h)
 have C262:=am (isItalic_calls w b i kids par prev next h)
 clear h
 go_enter Tryz.func213,Tryz.ntmps213
 go_wp2_with (go_at_call 256;fail)
 refine C261.out.mono ?_
 rintro e w1 ⟨rfl,hw⟩
 rw [hw]
 clear hw
 go_wp2_with (go_at_call 257;fail)
 refine C262.out.mono ?_
 rintro e w1 ⟨rfl,hw⟩
 rw [hw]
 clear hw
 go_wp2
 go_ret
 exact ⟨rfl,rfl⟩
theorem bothBoldItalic_calls (w:World) (b:Nat) (i:NI) (kids:List DT) (par prev next:Option Nat) (h:NodeAt w b i kids par prev next) (v:Value):
  Calls Tryz.prog 211 #[.pointer (some ⟨b,0,none⟩),v] w fun e w'=>e=.returned (.bool false)∧w'=w:=by
 have C261:=am (isBold_calls w b i kids par prev next h)
 have C262:=am (isItalic_calls w b i kids par prev next h)
 clear h
 go_enter Tryz.func211,Tryz.ntmps211
 go_wp2_with (go_at_call 256;fail)
 refine C261.out.mono ?_
 rintro e w1 ⟨rfl,hw⟩
 rw [hw]
 clear hw
 go_wp2_with (go_at_call 257;fail)
 refine C262.out.mono ?_
 rintro e w1 ⟨rfl,hw⟩
 rw [hw]
 clear hw
 go_wp2
 go_ret
 exact ⟨rfl,rfl⟩
theorem bothLink_calls (w:World) (b:Nat) (i:NI) (kids:List DT) (par prev next:Option Nat) (h:NodeAt w b i kids par prev next) (v:Value):
  Calls Tryz.prog 219 #[.pointer (some ⟨b,0,none⟩),v] w fun e w'=>e=.returned (.bool false)∧w'=w:=by
 have C80:=am (name_calls w b i kids par prev next h.at_ h.shape.1)
 have HN:=am h.shape.1.cases
 clear h
 go_enter Tryz.func219,Tryz.ntmps219
 go_wp2_with (go_at_call 72;fail)
 refine C80.out.mono ?_
 rintro e w1 ⟨rfl,hw⟩
 rw [hw]
 clear hw
 rcases HN.out with e|e|e|e|e|e|e|e|e <;> rw [e] <;> go_wp2 <;> go_ret <;> exact ⟨rfl,rfl⟩
theorem ancestor_bothBoldItalic_calls (w:World) (b:Nat) (i:NI) (kids:List DT) (par prev next:Option Nat) (h:NodeAt w b i kids par prev next):
  Calls Tryz.prog 254 #[.pointer (some ⟨b,0,none⟩),.func (.func 211) #[] #[]] w fun e w'=>e=.returned (.bool false)∧w'=w:=by
 have C216:=am (bothBoldItalic_calls w b i kids par prev next h (.pointer (some ⟨b,0,none⟩)))
 clear h
 go_enter Tryz.func254,Tryz.ntmps254
 go_wp2_with (go_at_call 211;fail)
 refine C216.out.mono ?_
 rintro e w1 ⟨rfl,hw⟩
 rw [hw]
 clear hw
 go_wp2
 go_ret
 exact ⟨rfl,rfl⟩
theorem ancestor_bothLink_calls (w:World) (b:Nat) (i:NI) (kids:List DT) (par prev next:Option Nat) (h:NodeAt w b i kids par prev next):
  Calls Tryz.prog 254 #[.pointer (some ⟨b,0,none⟩),.func (.func 219) #[] #[]] w fun e w'=>e=.returned (.bool false)∧w'=w:=by
 have C224:=am (bothLink_calls w b i kids par prev next h (.pointer (some ⟨b,0,none⟩)))
 clear h
 go_enter Tryz.func254,Tryz.ntmps254
 go_wp2_with (go_at_call 219;fail)
 refine C224.out.mono ?_
 rintro e w1 ⟨rfl,hw⟩
 rw [hw]
 clear hw
 go_wp2
 go_ret
 exact ⟨rfl,rfl⟩
theorem cell_keep {w w':World} (h:Below w.heap.size w w') {b k:Nat} {v:Value} (hc:w.cell? ⟨b,k,none⟩=some v):w'.cell? ⟨b,k,none⟩=some v:=by
 rw [World.cell?_of_block (h.block b (cell_block hc))];exact hc
theorem FirstE.keep {w w':World} (h:Below w.heap.size w w') {b:Nat} {x:Option Nat} (hf:FirstE w b x):FirstE w' b x:=by
 rcases hf with ⟨h1,h2⟩|⟨c,h1,h2,h3⟩|⟨c,h1,h2,h3,h4⟩
 ·exact .inl ⟨cell_keep h h1,h2⟩
 ·exact .inr (.inl ⟨c,cell_keep h h1,cell_keep h h2,h3⟩)
 ·exact .inr (.inr ⟨c,cell_keep h h1,cell_keep h h2,cell_keep h h3,h4⟩)
theorem NextE.keep {w w':World} (h:Below w.heap.size w w') {b:Nat} {x:Option Nat} (hf:NextE w b x):NextE w' b x:=by
 rcases hf with ⟨h1,h2⟩|⟨c,h1,h2,h3⟩
 ·exact .inl ⟨cell_keep h h1,h2⟩
 ·exact .inr ⟨c,cell_keep h h1,cell_keep h h2,h3⟩
theorem After.keep {w w':World} (h:Below w.heap.size w w') {R R':Nat→Option Nat→Prop} (hR:∀ b x,R b x→R' b x) {d b:Nat} {x:Option Nat} (ha:After w R d b x):After w' R' d b x:=by
 induction ha with
 |sib d b s h1=>exact .sib d b s (hR _ _ h1)
 |up d b p x h1 h2 _ ih=>exact .up d b p x (hR _ _ h1) (cell_keep h h2) ih
 |root d b h1 h2=>exact .root d b (hR _ _ h1) (cell_keep h h2)
theorem stepE_calls (w:World) (b:Nat) (x:Option Nat) (h:StepE w b x):Calls Tryz.prog 227 #[.pointer (some ⟨b,0,none⟩)] w fun e w'=>e=.returned (pv x)∧Below w.heap.size w w':=by
 obtain ⟨d,fc,h1,h2,h3⟩:=h
 exact nextE_calls w NextE (fun w' _ b x hx=>nextElement_calls w' b x hx) d b fc x (fun w' hb=>firstElement_calls w' b fc (h1.keep hb)) (fun w' hb hfc=>(h2 hfc).keep hb fun _ _ hx=>hx.keep hb) h3
theorem stepN_calls (w:World) (b:Nat) (x:Option Nat) (h:StepN w b x):Calls Tryz.prog 262 #[.pointer (some ⟨b,0,none⟩)] w fun e w'=>e=.returned (pv x)∧Below w.heap.size w w':=by
 obtain ⟨d,fc,h1,h2,h3⟩:=h
 exact nextNode_calls w NextN (fun w' _ b x hx=>nextSibling_calls w' b (pv x) hx) d b fc x (fun w' hb=>firstChild_calls w' b (pv fc) (cell_keep hb h1)) (fun w' hb hfc=>(h2 hfc).keep hb fun _ _ hx=>cell_keep hb hx) h3
structure DocAt (w:World) (t:DT):Prop where
 at_:DT.At w none none none t
 shape:t.Shape
 isDoc:∀ b i k,t=.node b i k→i.kind=2
theorem DocAt.keep {w w':World} {t:DT} (hb:Below w.heap.size w w') (h:DocAt w t):DocAt w' t:=⟨DT.At.keep hb h.at_,h.shape,h.isDoc⟩
theorem DocAt.rowE {w:World} {t:DT} (h:DocAt w t):Row (StepE w) t.pre none:=by
 have hd:=h.isDoc
 refine DT.rowE t none none none h.at_ h.shape (fun b i k e=>by rw [hd b i k e];decide) 0 none ?_
 obtain ⟨b,i,k⟩:=t
 have f:=At_fields h.at_
 exact .root 0 b (.inl ⟨f.2.2.2.2.1,rfl⟩) f.1
theorem DocAt.rowN {w:World} {t:DT} (h:DocAt w t):Row (StepN w) t.all none:=by
 refine DT.rowN t none none none h.at_ 0 none ?_
 obtain ⟨b,i,k⟩:=t
 have f:=At_fields h.at_
 exact .root 0 b f.2.2.2.2.1 f.1
theorem DocAt.node {w:World} {t:DT} (h:DocAt w t):∀ c∈t.all,∃ i kids par prev next,NodeAt w c i kids par prev next:=DT.mem_all t none none none h.at_ h.shape
theorem DocAt.nodeE {w:World} {t:DT} (h:DocAt w t):∀ c∈t.pre,∃ i kids par prev next,NodeAt w c i kids par prev next:=fun c hc=>h.node c (DT.pre_sub t c hc)
theorem DocAt.pre {w:World} {t:DT} (h:DocAt w t):∃ l,t.pre=t.blk::l:=by
 have hd:=h.isDoc
 obtain ⟨b,i,k⟩:=t
 exact ⟨_,by rw [DT.pre,if_neg (by rw [hd b i k rfl];decide)];rfl⟩
theorem Row.all {w:World} {S:World→Nat→Option Nat→Prop}:∀ {l:List Nat} {x:Option Nat},(∀ w',Below w.heap.size w w'→Row (S w') l x)→Row (fun b x=>∀ w',Below w.heap.size w w'→S w' b x) l x
 |[],_,_=>trivial
 |[_],_,h=>h
 |_::c::l,_,h=>⟨fun w' hb=>(h w' hb).1,Row.all (l:=c::l) fun w' hb=>(h w' hb).2⟩
theorem mergeAdjacent_isBoldItalic_calls (w:World) (t:DT) (h:DocAt w t):
  Calls Tryz.prog 212 #[.pointer (some ⟨t.blk,0,none⟩),.func (.func 213) #[] #[]] w fun e w'=>e=.returned (.tuple #[])∧Below w.heap.size w w':=by
 have HD:=am h
 clear h
 go_enter Tryz.func212,Tryz.ntmps212
 go_wp2
 go_loopg [4] t.pre.length (fun gf v wx=>∃ (rest:List Nat),v=pv rest.head?∧Aside0 (∀ c∈rest,c∈t.pre)∧Aside0 (Below w.heap.size w wx)∧Aside0 (rest.length≤gf)∧Aside0 (Row (fun b x=>∀ w',Below w.heap.size w w'→StepE w' b x) rest none))
 case atStart=>
  obtain ⟨l,hl⟩:=HD.out.pre
  refine ⟨t.pre,by rw [hl];rfl,⟨fun _ h=>h⟩,⟨Below.refl _ _⟩,⟨Nat.le_refl _⟩,⟨?_⟩⟩
  exact Row.all fun w' hb=>(HD.out.keep hb).rowE
 case round=>
  obtain ⟨rest,rfl,HM,HBw,HG,HR⟩:=hrel
  cases rest with
  |nil=>
   have e:pv (List.head? ([]:List Nat))=.pointer none:=rfl
   rw [e]
   go_wp2
   go_end0
   exact ⟨rfl,HBw.out⟩
  |cons b r=>
   obtain ⟨i,kids,par,prev,next,hn⟩:=(HD.out.keep HBw.out).nodeE b (HM.out b (List.mem_cons_self ..))
   obtain ⟨g',rfl⟩:∃ g',gk=g'+1:=⟨gk - 1,by have:=HG.out;simp only [List.length_cons] at this;omega⟩
   have e:pv (List.head? (b::r))=.pointer (some ⟨b,0,none⟩):=rfl
   rw [e]
   have CP:=am (isBoldItalic_calls wr b i kids par prev next hn)
   have HNm:=am hn.shape.1.cases
   have CS:=am (stepE_calls wr b r.head? (HR.out.head wr HBw.out))
   clear hn
   go_wp2_with (go_at_call 213;fail)
   refine CP.out.mono ?_
   rintro e w1 ⟨rfl,hw⟩
   rw [hw]
   clear hw
   go_wp2_with (go_at_call 227;fail)
   refine CS.out.mono ?_
   rintro e w1 ⟨rfl,hw⟩
   have HW1:=am (HBw.out.trans (hw.mono HBw.out.size))
   clear hw
   go_wp2
   go_roundg g'
   case measure=>omega
   case rel=>exact ⟨r,rfl,⟨fun c hc=>HM.out c (List.mem_cons_of_mem _ hc)⟩,HW1,⟨by have:=HG.out;simp only [List.length_cons] at this;omega⟩,⟨HR.out.tail⟩⟩
theorem mergeAdjacent_isInlineCode_calls (w:World) (t:DT) (h:DocAt w t):
  Calls Tryz.prog 212 #[.pointer (some ⟨t.blk,0,none⟩),.func (.func 216) #[] #[]] w fun e w'=>e=.returned (.tuple #[])∧Below w.heap.size w w':=by
 have HD:=am h
 clear h
 go_enter Tryz.func212,Tryz.ntmps212
 go_wp2
 go_loopg [4] t.pre.length (fun gf v wx=>∃ (rest:List Nat),v=pv rest.head?∧Aside0 (∀ c∈rest,c∈t.pre)∧Aside0 (Below w.heap.size w wx)∧Aside0 (rest.length≤gf)∧Aside0 (Row (fun b x=>∀ w',Below w.heap.size w w'→StepE w' b x) rest none))
 case atStart=>
  obtain ⟨l,hl⟩:=HD.out.pre
  refine ⟨t.pre,by rw [hl];rfl,⟨fun _ h=>h⟩,⟨Below.refl _ _⟩,⟨Nat.le_refl _⟩,⟨?_⟩⟩
  exact Row.all fun w' hb=>(HD.out.keep hb).rowE
 case round=>
  obtain ⟨rest,rfl,HM,HBw,HG,HR⟩:=hrel
  cases rest with
  |nil=>
   have e:pv (List.head? ([]:List Nat))=.pointer none:=rfl
   rw [e]
   go_wp2
   go_end0
   exact ⟨rfl,HBw.out⟩
  |cons b r=>
   obtain ⟨i,kids,par,prev,next,hn⟩:=(HD.out.keep HBw.out).nodeE b (HM.out b (List.mem_cons_self ..))
   obtain ⟨g',rfl⟩:∃ g',gk=g'+1:=⟨gk - 1,by have:=HG.out;simp only [List.length_cons] at this;omega⟩
   have e:pv (List.head? (b::r))=.pointer (some ⟨b,0,none⟩):=rfl
   rw [e]
   have CP:=am (isInlineCode_calls wr b i kids par prev next hn)
   have HNm:=am hn.shape.1.cases
   have CS:=am (stepE_calls wr b r.head? (HR.out.head wr HBw.out))
   clear hn
   go_wp2_with (go_at_call 216;fail)
   refine CP.out.mono ?_
   rintro e w1 ⟨rfl,hw⟩
   rw [hw]
   clear hw
   go_wp2_with (go_at_call 227;fail)
   refine CS.out.mono ?_
   rintro e w1 ⟨rfl,hw⟩
   have HW1:=am (HBw.out.trans (hw.mono HBw.out.size))
   clear hw
   go_wp2
   go_roundg g'
   case measure=>omega
   case rel=>exact ⟨r,rfl,⟨fun c hc=>HM.out c (List.mem_cons_of_mem _ hc)⟩,HW1,⟨by have:=HG.out;simp only [List.length_cons] at this;omega⟩,⟨HR.out.tail⟩⟩
theorem addListEnd_calls (w:World) (t:DT) (h:DocAt w t) (v:Value):
  Calls Tryz.prog 189 #[v,.pointer (some ⟨t.blk,0,none⟩)] w fun e w'=>e=.returned (.tuple #[])∧Below w.heap.size w w':=by
 have HD:=am h
 clear h
 go_enter Tryz.func189,Tryz.ntmps189
 go_wp2
 go_loopg [4] t.pre.length (fun gf v wx=>∃ (rest:List Nat),v=pv rest.head?∧Aside0 (∀ c∈rest,c∈t.pre)∧Aside0 (Below w.heap.size w wx)∧Aside0 (rest.length≤gf)∧Aside0 (Row (fun b x=>∀ w',Below w.heap.size w w'→StepE w' b x) rest none))
 case atStart=>
  obtain ⟨l,hl⟩:=HD.out.pre
  refine ⟨t.pre,by rw [hl];rfl,⟨fun _ h=>h⟩,⟨Below.refl _ _⟩,⟨Nat.le_refl _⟩,⟨?_⟩⟩
  exact Row.all fun w' hb=>(HD.out.keep hb).rowE
 case round=>
  obtain ⟨rest,rfl,HM,HBw,HG,HR⟩:=hrel
  cases rest with
  |nil=>
   have e:pv (List.head? ([]:List Nat))=.pointer none:=rfl
   rw [e]
   go_wp2
   go_end0
   exact ⟨rfl,HBw.out⟩
  |cons b r=>
   obtain ⟨i,kids,par,prev,next,hn⟩:=(HD.out.keep HBw.out).nodeE b (HM.out b (List.mem_cons_self ..))
   obtain ⟨g',rfl⟩:∃ g',gk=g'+1:=⟨gk - 1,by have:=HG.out;simp only [List.length_cons] at this;omega⟩
   have e:pv (List.head? (b::r))=.pointer (some ⟨b,0,none⟩):=rfl
   rw [e]
   have CP:=am (isList_calls wr b i kids par prev next hn)
   have HNm:=am hn.shape.1.cases
   have CS:=am (stepE_calls wr b r.head? (HR.out.head wr HBw.out))
   clear hn
   go_wp2_with (go_at_call 224;fail)
   refine CP.out.mono ?_
   rintro e w1 ⟨rfl,hw⟩
   rw [hw]
   clear hw
   go_wp2_with (go_at_call 227;fail)
   refine CS.out.mono ?_
   rintro e w1 ⟨rfl,hw⟩
   have HW1:=am (HBw.out.trans (hw.mono HBw.out.size))
   clear hw
   go_wp2
   go_roundg g'
   case measure=>omega
   case rel=>exact ⟨r,rfl,⟨fun c hc=>HM.out c (List.mem_cons_of_mem _ hc)⟩,HW1,⟨by have:=HG.out;simp only [List.length_cons] at this;omega⟩,⟨HR.out.tail⟩⟩
theorem addSpace_calls (w:World) (t:DT) (h:DocAt w t) (v:Value):
  Calls Tryz.prog 218 #[v,.pointer (some ⟨t.blk,0,none⟩),.func (.func 213) #[] #[],.func (.func 216) #[] #[]] w fun e w'=>e=.returned (.tuple #[])∧Below w.heap.size w w':=by
 have HD:=am h
 clear h
 go_enter Tryz.func218,Tryz.ntmps218
 go_wp2
 go_loopg [8] t.pre.length (fun gf v wx=>∃ (rest:List Nat),v=pv rest.head?∧Aside0 (∀ c∈rest,c∈t.pre)∧Aside0 (Below w.heap.size w wx)∧Aside0 (rest.length≤gf)∧Aside0 (Row (fun b x=>∀ w',Below w.heap.size w w'→StepE w' b x) rest none))
 case atStart=>
  obtain ⟨l,hl⟩:=HD.out.pre
  refine ⟨t.pre,by rw [hl];rfl,⟨fun _ h=>h⟩,⟨Below.refl _ _⟩,⟨Nat.le_refl _⟩,⟨?_⟩⟩
  exact Row.all fun w' hb=>(HD.out.keep hb).rowE
 case round=>
  obtain ⟨rest,rfl,HM,HBw,HG,HR⟩:=hrel
  cases rest with
  |nil=>
   have e:pv (List.head? ([]:List Nat))=.pointer none:=rfl
   rw [e]
   go_wp2
   go_end0
   exact ⟨rfl,HBw.out⟩
  |cons b r=>
   obtain ⟨i,kids,par,prev,next,hn⟩:=(HD.out.keep HBw.out).nodeE b (HM.out b (List.mem_cons_self ..))
   obtain ⟨g',rfl⟩:∃ g',gk=g'+1:=⟨gk - 1,by have:=HG.out;simp only [List.length_cons] at this;omega⟩
   have e:pv (List.head? (b::r))=.pointer (some ⟨b,0,none⟩):=rfl
   rw [e]
   have CP:=am (isBoldItalic_calls wr b i kids par prev next hn)
   have HNm:=am hn.shape.1.cases
   have CS:=am (stepE_calls wr b r.head? (HR.out.head wr HBw.out))
   clear hn
   go_wp2_with (go_at_call 213;fail)
   refine CP.out.mono ?_
   rintro e w1 ⟨rfl,hw⟩
   rw [hw]
   clear hw
   go_wp2_with (go_at_call 227;fail)
   refine CS.out.mono ?_
   rintro e w1 ⟨rfl,hw⟩
   have HW1:=am (HBw.out.trans (hw.mono HBw.out.size))
   clear hw
   go_wp2
   go_roundg g'
   case measure=>omega
   case rel=>exact ⟨r,rfl,⟨fun c hc=>HM.out c (List.mem_cons_of_mem _ hc)⟩,HW1,⟨by have:=HG.out;simp only [List.length_cons] at this;omega⟩,⟨HR.out.tail⟩⟩
theorem removeEmptyCode_calls (w:World) (t:DT) (h:DocAt w t) (v:Value):
  Calls Tryz.prog 214 #[v,.pointer (some ⟨t.blk,0,none⟩)] w fun e w'=>e=.returned (.tuple #[])∧Below w.heap.size w w':=by
 have HD:=am h
 clear h
 go_enter Tryz.func214,Tryz.ntmps214
 go_wp2
 go_loopg [4] t.all.length (fun gf v wx=>∃ (rest:List Nat),v=pv rest.head?∧Aside0 (∀ c∈rest,c∈t.all)∧Aside0 (Below w.heap.size w wx)∧Aside0 (rest.length≤gf)∧Aside0 (Row (fun b x=>∀ w',Below w.heap.size w w'→StepN w' b x) rest none))
 case atStart=>
  obtain ⟨l,hl⟩:=(DT.all_eq t)
  refine ⟨t.all,by rw [hl];rfl,⟨fun _ h=>h⟩,⟨Below.refl _ _⟩,⟨Nat.le_refl _⟩,⟨?_⟩⟩
  exact Row.all fun w' hb=>(HD.out.keep hb).rowN
 case round=>
  obtain ⟨rest,rfl,HM,HBw,HG,HR⟩:=hrel
  cases rest with
  |nil=>
   have e:pv (List.head? ([]:List Nat))=.pointer none:=rfl
   rw [e]
   go_wp2
   go_end0
   exact ⟨rfl,HBw.out⟩
  |cons b r=>
   obtain ⟨i,kids,par,prev,next,hn⟩:=(HD.out.keep HBw.out).node b (HM.out b (List.mem_cons_self ..))
   obtain ⟨g',rfl⟩:∃ g',gk=g'+1:=⟨gk - 1,by have:=HG.out;simp only [List.length_cons] at this;omega⟩
   have e:pv (List.head? (b::r))=.pointer (some ⟨b,0,none⟩):=rfl
   rw [e]
   have CP:=am (name_calls wr b i kids par prev next hn.at_ hn.shape.1)
   have HNm:=am hn.shape.1.cases
   have CS:=am (stepN_calls wr b r.head? (HR.out.head wr HBw.out))
   clear hn
   go_wp2_with (go_at_call 72;fail)
   refine CP.out.mono ?_
   rintro e w1 ⟨rfl,hw⟩
   rw [hw]
   clear hw
   rcases HNm.out with e|e|e|e|e|e|e|e|e <;> rw [e] <;> go_wp2_with (go_at_call 262;fail)
   all_goals refine CS.out.mono ?_
   all_goals rintro e w1 ⟨rfl,hw⟩
   all_goals have HW1:=am (HBw.out.trans (hw.mono HBw.out.size))
   all_goals clear hw
   all_goals go_wp2
   all_goals go_roundg g'
   all_goals first|omega|exact ⟨r,rfl,⟨fun c hc=>HM.out c (List.mem_cons_of_mem _ hc)⟩,HW1,⟨by have:=HG.out;simp only [List.length_cons] at this;omega⟩,⟨HR.out.tail⟩⟩
theorem run_store_func' {P:Program} {w:World} {a:Addr} {m:Mode} (f:Fn) (x y:Array Value):(store a (.func f x y) m).run P w=stored P w a (.func f x y) m:=run_store P w a _ m rfl
attribute [local go_sem] run_store_func'
theorem alloc_new (u:World) (o:Obj):(u.alloc o).heap[u.heap.size]?=some o:=by simp [World.alloc,-World.alloc_eq]
theorem box_cell (w:World) (v:Value) (T:TypeId):(w.alloc (.cells #[v] T)).cell? ⟨w.heap.size,0,none⟩=some v:=by
 simp only [World.cell?,alloc_new];rfl
theorem alloc_size (u:World) (o:Obj):(u.alloc o).heap.size=u.heap.size+1:=by simp [World.alloc,-World.alloc_eq]
def DT.kds:DT→List DT
 |.node _ _ k=>k
theorem renameFakeSpans_calls (w:World) (t:DT) (h:DocAt w t) (v:Value):
  Calls Tryz.prog 209 #[v,.pointer (some ⟨t.blk,0,none⟩)] w fun e w'=>e=.returned (.tuple #[])∧Below w.heap.size w w':=by
 have hmf:∀ (fn:Fn) (first cap:Array Value) (w:World),(Instr.makeFunc fn first cap).run Tryz.prog w=.ok (.func fn first cap) w:=fun _ _ _ _=>rfl
 have HD:=am h
 clear h
 go_enter Tryz.func209,Tryz.ntmps209
 go_wp2_with (go_at_call 251;fail)
 ·have HB:Below w.heap.size w (w.alloc (.cells #[.func (.func 251) #[] #[.pointer (some ⟨w.heap.size,0,none⟩)]] 164)):=(Below.refl _ _).alloc (Nat.le_refl _) _
  refine (fakeSpans_calls t _ none none none w.heap.size (DT.At.keep HB HD.out.at_) HD.out.shape.plain (box_cell _ _ _)).mono ?_
  rintro e w1 ⟨rfl,hw⟩
  have HW:=am (HB.trans (hw.mono HB.size))
  clear hw
  go_wp2
  go_end0
  exact ⟨rfl,HW.out⟩
end Go.Proofs.YtbheflncgmhadaaGreat.Hand
namespace Go
section
variable {P:Program}
theorem leaves_stepsD {fn:Func} {tmps:Array Value} {R:Ending→World→Prop}:∀ (ds:List Deferred) (u:FrameMode) (w:World) (fr:Frame)
  (cs:List Frame),fr.mode=u→fr.defers=ds→fr.tmps=tmps→P.funcs[fr.fn]?=some fn→fr.kind=.deferred→Leaves P fn tmps R ds u w →
  ∃ e w' fr',R e w'∧Comes P (lone fr cs w) (lone fr' cs w') e∧fr'.kind=.deferred∧fr'.going P w' e:=by
 intro ds
 induction ds with
 |nil=>
  intro u w fr cs hu hd ht hf hk h
  cases u with
  |run=>exact h.elim
  |returning=>
   obtain ⟨v,hr,hR⟩:=h
   exact ⟨.returned v,w,fr,hR,Steps.refl P _,hk,hu,hd,fn,hf,ht▸hr⟩
  |panicking chain=>exact ⟨.panicked chain,w,fr,h,Steps.refl P _,hk,hu,hd,fn,hf⟩
 |cons d ds ih=>
  intro u w fr cs hu hd ht hf hk h
  obtain ⟨hrun,fv,cap,f,args,htar,hinv,hcall⟩:=h
  have h1:=step_defer (cs:=cs) (hu▸hrun) hd htar hinv
  obtain ⟨e,u',w',frX,hR,hsteps,hkX,hgo⟩:=hcall { fr with defers:=ds } cs hu
  cases e with
  |returned v=>
   have h2:=step_going_returned (c:={ { fr with defers:=ds } with mode:=u' }) (cs:=cs) hkX hgo
   obtain ⟨e',w'',fr',hR',hs',hk',hl'⟩:=ih (settle u') w' { { { fr with defers:=ds } with mode:=u' } with mode:=settle u' } cs rfl rfl ht hf hk hR
   exact ⟨e',w'',fr',hR',Comes.of_steps (.head h1 (Steps.trans hsteps (.one h2))) hs',hk',hl'⟩
  |panicked chain=>
   have h2:=step_going_panicked (c:={ { fr with defers:=ds } with mode:=u' }) (cs:=cs) hgo
   obtain ⟨e',w'',fr',hR',hs',hk',hl'⟩:=ih (raised u' chain) w' { { { fr with defers:=ds } with mode:=u' } with mode:=raised u' chain } cs rfl rfl ht hf hk hR
   exact ⟨e',w'',fr',hR',Comes.of_steps (.head h1 (Steps.trans hsteps (.one h2))) hs',hk',hl'⟩
  |outgrown=>exact ⟨.outgrown,w',{ fr with defers:=ds },hR,Outgrown.of_steps (.one h1) hsteps,hk,trivial⟩
theorem callsD_of_wp_defers {f:FuncId} {fn:Func} {c:Code} {args:Array Value} {u:FrameMode} {w:World} {R:Ending→World→Prop}
  (hf:P.funcs[f]?=some fn) (hb:fn.body=some c)
  (h:c.wp P (bodyPostD P fn R) { tmps:=args++Array.replicate (fn.ntmps - args.size) undef,defers:=[] } w):
  CallsD P f args u w fun e u' w'=>u'=u∧R e w':=by
 intro c₀ cs hu
 let b:Frame:={ (default:Frame) with fn:=f,kind:=.deferred }
 have henter:Frame.enter P f args .deferred=
   b.at { tmps:=args++Array.replicate (fn.ntmps - args.size) undef,defers:=[] } [.code c]:=by
  simp [Frame.enter,Frame.at,hf,hb,b]
 have hc:({ c₀ with mode:=u }:Frame)=c₀:=by subst hu;rfl
 obtain ⟨e,a',w',hq,harr⟩:=h b [] (c₀::cs)
 rw [← henter] at harr
 cases e with
 |normal=>
  obtain ⟨e',w'',fr',hR,hs,hk,hl⟩:=leaves_stepsD a'.defers .returning w' { b.at a' [] with mode:=.returning } (c₀::cs) rfl rfl rfl hf rfl hq
  exact ⟨e',u,w'',fr',⟨rfl,hR⟩,(by rw [hc];exact Comes.of_steps (Steps.trans harr (.one step_end)) hs),hk,hl⟩
 |ret=>
  obtain ⟨todo,hs₀⟩:=harr
  obtain ⟨e',w'',fr',hR,hs,hk,hl⟩:=leaves_stepsD a'.defers .returning w' { b.at a' todo with mode:=.returning } (c₀::cs) rfl rfl rfl hf rfl hq
  exact ⟨e',u,w'',fr',⟨rfl,hR⟩,(by rw [hc];exact Comes.of_steps hs₀ hs),hk,hl⟩
 |panic chain=>
  obtain ⟨todo,hs₀⟩:=harr
  obtain ⟨e',w'',fr',hR,hs,hk,hl⟩:=leaves_stepsD a'.defers (.panicking chain) w' { b.at a' todo with mode:=.panicking chain } (c₀::cs) rfl rfl rfl hf rfl hq
  exact ⟨e',u,w'',fr',⟨rfl,hR⟩,(by rw [hc];exact Comes.of_steps hs₀ hs),hk,hl⟩
 |exit id=>exact hq.elim
 |goto l=>exact hq.elim
 |outgrown=>exact ⟨.outgrown,u,w',b,⟨rfl,hq⟩,(by rw [hc];exact harr.resolve_left (by simp [b])),rfl,trivial⟩
end
end Go
