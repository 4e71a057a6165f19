/- The plugin of tables: searches, cells of a row. Conditions: those in each statement. -/
import Derived.Test.YtbheflncgmhadaaGreatXl
import Derived.Test.YtbheflncgmhadaaGreatXd
set_option linter.unusedVariables false
set_option linter.unusedSimpArgs false
set_option maxHeartbeats 40000000
set_option maxRecDepth 100000
namespace Go.Proofs.YtbheflncgmhadaaGreat.Hand
open Go.RowKit Go.Proofs.YtbheflncgmhadaaGreatW.PrintWords Go.Proofs.YtbheflncgmhadaaGreatW.PrintLast Go.Proofs.YtbheflncgmhadaaGreatW.PrintMore
attribute [local go_sem] run_store_func'
inductive AfterTo (w:World) (R:Nat→Option Nat→Prop) (S:Nat):Nat→Nat→Option Nat→Prop where
 |sib (d b s:Nat) (h:R b (some s)):AfterTo w R S d b (some s)
 |stop (d b:Nat) (h:R b none) (hp:w.cell? ⟨b,0,none⟩=some (pv (some S))):AfterTo w R S (d+1) b none
 |up (d b p:Nat) (x:Option Nat) (h:R b none) (hp:w.cell? ⟨b,0,none⟩=some (pv (some p))) (hne:p≠S) (hc:Clear w p) (r:AfterTo w R S d p x):AfterTo w R S (d+1) b x
def ClimbTo (w:World) (R:Nat→Option Nat→Prop) (S d b:Nat) (x:Option Nat):Prop:=∃ e p,d=e+1∧w.cell? ⟨b,0,none⟩=some (pv (some p))∧((p=S∧x=none)∨(p≠S∧Clear w p∧AfterTo w R S e p x))
theorem AfterTo.cases {w:World} {R:Nat→Option Nat→Prop} {S d b:Nat} {x:Option Nat} (h:AfterTo w R S d b x):(∃ s,x=some s∧R b (some s))∨(R b none∧ClimbTo w R S d b x):=by
 cases h with
 |sib d b s h=>exact .inl ⟨s,rfl,h⟩
 |stop d b h hp=>exact .inr ⟨h,d,S,rfl,hp,.inl ⟨rfl,rfl⟩⟩
 |up d b p x h hp hne hc r=>exact .inr ⟨h,d,p,rfl,hp,.inr ⟨hne,hc,r⟩⟩
def StepTo (w:World) (S b:Nat) (x:Option Nat):Prop:=∃ d fc,w.cell? ⟨b,1,none⟩=some (pv fc)∧(fc=none→AfterTo w (NextN w) S d b x)∧∀ c,fc=some c→x=some c
def UpTo (w:World) (S d b:Nat) (x:Option Nat):Prop:=(b=S∧x=none)∨(b≠S∧Clear w b∧AfterTo w (NextN w) S d b x)
theorem UpTo.kid {w:World} {S d b k:Nat} {x:Option Nat} (h:UpTo w S d b x) (hn:NextN w k none) (hp:w.cell? ⟨k,0,none⟩=some (pv (some b))):AfterTo w (NextN w) S (d+1) k x:=by
 rcases h with ⟨rfl,rfl⟩|⟨h1,h2,h3⟩
 ·exact .stop d k hn hp
 ·exact .up d k b x hn hp h1 h2 h3
theorem DT.rowToL {w:World} {S:Nat} (l:List DT) (IH:∀ t∈l,∀ (par prev next:Option Nat),DT.At w par prev next t→S∉t.all→∀ (d:Nat) (x:Option Nat),AfterTo w (NextN w) S d t.blk x→Row (StepTo w S) t.all x):
  ∀ (b:Nat) (prev:Option Nat),KidsAt w b prev l→S∉DT.allL l→∀ (d:Nat) (x:Option Nat),UpTo w S d b x→Row (StepTo w S) (DT.allL l) x:=by
 induction l with
 |nil=>intro b prev _ _ d x _;rw [DT.allL];trivial
 |cons t r ih=>
  intro b prev h hS d x ha
  obtain ⟨tb,ti,tk⟩:=t
  rw [DT.allL_cons,List.mem_append,not_or] at hS
  have f:=At_fields h.1
  have hr:=ih (fun t ht=>IH t (List.mem_cons_of_mem _ ht)) b (some tb) h.2 hS.2 d x ha
  have ht:=IH (.node tb ti tk) (List.mem_cons_self ..) (some b) prev (firstB r) h.1 hS.1
  cases r with
  |nil=>
   have:=ht (d+1) x (ha.kid f.2.2.2.2.1 f.1)
   rw [DT.allL,DT.allL,List.append_nil];exact this
  |cons u r=>
   have:=ht 0 (some u.blk) (AfterTo.sib 0 tb u.blk f.2.2.2.2.1)
   obtain ⟨ul,hu⟩:=DT.all_eq u
   rw [DT.allL_cons,hu] at hr
   rw [DT.allL_cons,DT.allL_cons,hu]
   exact Row.append this hr
theorem DT.rowTo {w:World} {S:Nat} (t:DT):∀ (par prev next:Option Nat),DT.At w par prev next t→S∉t.all→∀ (d:Nat) (x:Option Nat),AfterTo w (NextN w) S d t.blk x→Row (StepTo w S) t.all x:=by
 induction t using DT.induct with
 |h b i kids IH=>
 intro par prev next h hS d x ha
 have f:=At_fields h
 rw [DT.all] at hS ⊢
 rw [List.mem_cons,not_or] at hS
 cases kids with
 |nil=>
  rw [DT.allL]
  exact ⟨d,none,f.2.1,fun _=>ha,fun c hc=>by cases hc⟩
 |cons t r=>
  have hr:=DT.rowToL (t::r) IH b none h.2 hS.2 d x (.inr ⟨fun e=>hS.1 e.symm,⟨_,_,h.1⟩,ha⟩)
  obtain ⟨tl,ht⟩:=DT.all_eq t
  rw [DT.allL_cons,ht] at hr ⊢
  exact ⟨⟨0,some t.blk,f.2.1,fun h=>by (cases h),fun c hc=>hc⟩,hr⟩
theorem DT.rowBelow {w:World} {S:Nat} {i:NI} {kids:List DT} {par prev next:Option Nat} (h:DT.At w par prev next (.node S i kids)) (hS:S∉DT.allL kids):Row (StepTo w S) (DT.allL kids) none:=
 DT.rowToL kids (fun t _=>DT.rowTo t) S none h.2 hS 0 none (.inl ⟨rfl,rfl⟩)
theorem goUpFirst_calls (w:World) (p S Bs:Nat) (hb:w.cell? ⟨Bs,0,none⟩=some (.pointer (some ⟨S,0,none⟩))) (hp:p=S∨(p≠S∧Clear w p∧Clear w S)):
  Calls Tryz.prog 438 #[.pointer (some ⟨p,0,none⟩),.pointer (some ⟨Bs,0,none⟩)] w fun e w'=>e=.returned (.bool (decide (p=S)))∧w'=w:=by
 rcases hp with rfl|⟨h1,h2,h3⟩
 ·have he:=eql_of (equal_same w p)
  rw [decide_eq_true rfl]
  go_enter Tryz.func438,Tryz.ntmps438
  go_wp2
  go_ret
  exact ⟨rfl,rfl⟩
 ·have he:=eql_of (equal_other w p S h1 h2 h3)
  rw [decide_eq_false h1]
  clear h1 h2 h3
  go_enter Tryz.func438,Tryz.ntmps438
  go_wp2
  go_ret
  exact ⟨rfl,rfl⟩
theorem nbFirst_calls (w:World) (S Bs:Nat) (hS:Clear w S) (hBs:w.cell? ⟨Bs,0,none⟩=some (.pointer (some ⟨S,0,none⟩))) (b:Nat) (x:Option Nat) (hst:StepTo w S b x) (A1 A2 A3:Nat)
  (c1:w.cell? ⟨A1,0,none⟩=some (.func (.func 313) #[] #[])) (c2:w.cell? ⟨A2,0,none⟩=some (.func (.func 312) #[] #[])) (c3:w.cell? ⟨A3,0,none⟩=some (.func (.func 438) #[] #[.pointer (some ⟨Bs,0,none⟩)])):
  Calls Tryz.prog 323 #[.pointer (some ⟨b,0,none⟩),.pointer (some ⟨A1,0,none⟩),.pointer (some ⟨A2,0,none⟩),.pointer (some ⟨A3,0,none⟩)] w fun e w'=>e=.returned (pv x)∧w'=w:=by
 obtain ⟨d,fc,hfc,h2,h3⟩:=hst
 have C1:=am (firstChild_calls w b _ hfc)
 have H2:=am h2
 have H3:=am h3
 have HC3:=am c3
 have HBS:=am hBs
 have HSC:=am hS
 clear h2 h3 hfc hBs hS
 go_enter Tryz.func323,Tryz.ntmps323
 go_wp2_with (go_at_call 313;fail)
 refine C1.out.mono ?_
 rintro e w1 ⟨rfl,hw⟩
 rw [hw]
 clear hw
 cases fc with
 |some c=>
  have:=H3.out c rfl
  subst this
  have e:pv (some c)=.pointer (some ⟨c,0,none⟩):=rfl
  rw [e]
  go_wp2
  go_ret
  exact ⟨rfl,rfl⟩
 |none=>
  have e:pv none=.pointer none:=rfl
  rw [e]
  rcases (H2.out rfl).cases with ⟨s,rfl,hs⟩|⟨hs,hc⟩
  ·have C2:=am (nextSibling_calls w b _ hs)
   clear hs
   go_wp2_with (go_at_call 312;fail)
   refine C2.out.mono ?_
   rintro e w1 ⟨rfl,hw⟩
   rw [hw]
   clear hw
   have e:pv (some s)=.pointer (some ⟨s,0,none⟩):=rfl
   rw [e]
   go_wp2
   go_ret
   exact ⟨rfl,rfl⟩
  ·have C2:=am (nextSibling_calls w b _ hs)
   have HC:=am hc
   clear hs hc
   go_wp2_with (go_at_call 312;fail)
   refine C2.out.mono ?_
   rintro e w1 ⟨rfl,hw⟩
   rw [hw]
   clear hw
   have e:pv none=.pointer none:=rfl
   rw [e]
   go_wp2
   go_loopg [0] d (fun gf v0 wx=>∃ n,v0=.pointer (some ⟨n,0,none⟩)∧wx=w∧Aside0 (ClimbTo w (NextN w) S gf n x))
   case atStart=>exact ⟨b,rfl,rfl,HC⟩
   case round=>
    obtain ⟨n,rfl,hwx,HCl⟩:=hrel
    subst hwx
    obtain ⟨e,p,rfl,hp,hor⟩:=HCl.out
    change wr.cell? ⟨n,0,none⟩=some (.pointer (some ⟨p,0,none⟩)) at hp
    have c3:=HC3.out
    rcases hor with ⟨rfl,rfl⟩|⟨hne,hcl,ha⟩
    ·have C4:=am (goUpFirst_calls wr p p Bs HBS.out (.inl rfl))
     rw [decide_eq_true rfl] at C4
     go_wp2_with (go_at_call 438;fail)
     refine C4.out.mono ?_
     rintro e1 w1 ⟨rfl,hw⟩
     rw [hw]
     clear hw
     go_wp2
     go_ret
     exact ⟨rfl,rfl⟩
    ·have C4:=am (goUpFirst_calls wr p S Bs HBS.out (.inr ⟨hne,hcl,HSC.out⟩))
     rw [decide_eq_false hne] at C4
     have HA:=am ha
     clear ha hne hcl
     go_wp2_with (go_at_call 438;fail)
     refine C4.out.mono ?_
     rintro e1 w1 ⟨rfl,hw⟩
     rw [hw]
     clear hw
     rcases HA.out.cases with ⟨s,rfl,hs⟩|⟨hs,hc⟩
     ·have C5:=am (nextSibling_calls wr p _ hs)
      clear hs
      go_wp2_with (go_at_call 312;fail)
      refine C5.out.mono ?_
      rintro e1 w1 ⟨rfl,hw⟩
      rw [hw]
      clear hw
      have e0:pv (some s)=.pointer (some ⟨s,0,none⟩):=rfl
      rw [e0]
      go_wp2
      go_ret
      exact ⟨rfl,rfl⟩
     ·have C5:=am (nextSibling_calls wr p _ hs)
      have HCp:=am hc
      clear hs hc
      go_wp2_with (go_at_call 312;fail)
      refine C5.out.mono ?_
      rintro e1 w1 ⟨rfl,hw⟩
      rw [hw]
      clear hw
      have e0:pv none=.pointer none:=rfl
      rw [e0]
      go_wp2
      go_roundg e
      case measure=>omega
      case rel=>exact ⟨p,rfl,rfl,HCp⟩
theorem goUpAll_calls (w:World) (p S Bs:Nat) (hb:w.cell? ⟨Bs,0,none⟩=some (.pointer (some ⟨S,0,none⟩))) (hp:p=S∨(p≠S∧Clear w p∧Clear w S)):
  Calls Tryz.prog 449 #[.pointer (some ⟨p,0,none⟩),.pointer (some ⟨Bs,0,none⟩)] w fun e w'=>e=.returned (.bool (decide (p=S)))∧w'=w:=by
 rcases hp with rfl|⟨h1,h2,h3⟩
 ·have he:=eql_of (equal_same w p)
  rw [decide_eq_true rfl]
  go_enter Tryz.func449,Tryz.ntmps449
  go_wp2
  go_ret
  exact ⟨rfl,rfl⟩
 ·have he:=eql_of (equal_other w p S h1 h2 h3)
  rw [decide_eq_false h1]
  clear h1 h2 h3
  go_enter Tryz.func449,Tryz.ntmps449
  go_wp2
  go_ret
  exact ⟨rfl,rfl⟩
theorem nbAll_calls (w:World) (S Bs:Nat) (hS:Clear w S) (hBs:w.cell? ⟨Bs,0,none⟩=some (.pointer (some ⟨S,0,none⟩))) (b:Nat) (x:Option Nat) (hst:StepTo w S b x) (A1 A2 A3:Nat)
  (c1:w.cell? ⟨A1,0,none⟩=some (.func (.func 313) #[] #[])) (c2:w.cell? ⟨A2,0,none⟩=some (.func (.func 312) #[] #[])) (c3:w.cell? ⟨A3,0,none⟩=some (.func (.func 449) #[] #[.pointer (some ⟨Bs,0,none⟩)])):
  Calls Tryz.prog 323 #[.pointer (some ⟨b,0,none⟩),.pointer (some ⟨A1,0,none⟩),.pointer (some ⟨A2,0,none⟩),.pointer (some ⟨A3,0,none⟩)] w fun e w'=>e=.returned (pv x)∧w'=w:=by
 obtain ⟨d,fc,hfc,h2,h3⟩:=hst
 have C1:=am (firstChild_calls w b _ hfc)
 have H2:=am h2
 have H3:=am h3
 have HC3:=am c3
 have HBS:=am hBs
 have HSC:=am hS
 clear h2 h3 hfc hBs hS
 go_enter Tryz.func323,Tryz.ntmps323
 go_wp2_with (go_at_call 313;fail)
 refine C1.out.mono ?_
 rintro e w1 ⟨rfl,hw⟩
 rw [hw]
 clear hw
 cases fc with
 |some c=>
  have:=H3.out c rfl
  subst this
  have e:pv (some c)=.pointer (some ⟨c,0,none⟩):=rfl
  rw [e]
  go_wp2
  go_ret
  exact ⟨rfl,rfl⟩
 |none=>
  have e:pv none=.pointer none:=rfl
  rw [e]
  rcases (H2.out rfl).cases with ⟨s,rfl,hs⟩|⟨hs,hc⟩
  ·have C2:=am (nextSibling_calls w b _ hs)
   clear hs
   go_wp2_with (go_at_call 312;fail)
   refine C2.out.mono ?_
   rintro e w1 ⟨rfl,hw⟩
   rw [hw]
   clear hw
   have e:pv (some s)=.pointer (some ⟨s,0,none⟩):=rfl
   rw [e]
   go_wp2
   go_ret
   exact ⟨rfl,rfl⟩
  ·have C2:=am (nextSibling_calls w b _ hs)
   have HC:=am hc
   clear hs hc
   go_wp2_with (go_at_call 312;fail)
   refine C2.out.mono ?_
   rintro e w1 ⟨rfl,hw⟩
   rw [hw]
   clear hw
   have e:pv none=.pointer none:=rfl
   rw [e]
   go_wp2
   go_loopg [0] d (fun gf v0 wx=>∃ n,v0=.pointer (some ⟨n,0,none⟩)∧wx=w∧Aside0 (ClimbTo w (NextN w) S gf n x))
   case atStart=>exact ⟨b,rfl,rfl,HC⟩
   case round=>
    obtain ⟨n,rfl,hwx,HCl⟩:=hrel
    subst hwx
    obtain ⟨e,p,rfl,hp,hor⟩:=HCl.out
    change wr.cell? ⟨n,0,none⟩=some (.pointer (some ⟨p,0,none⟩)) at hp
    have c3:=HC3.out
    rcases hor with ⟨rfl,rfl⟩|⟨hne,hcl,ha⟩
    ·have C4:=am (goUpAll_calls wr p p Bs HBS.out (.inl rfl))
     rw [decide_eq_true rfl] at C4
     go_wp2_with (go_at_call 449;fail)
     refine C4.out.mono ?_
     rintro e1 w1 ⟨rfl,hw⟩
     rw [hw]
     clear hw
     go_wp2
     go_ret
     exact ⟨rfl,rfl⟩
    ·have C4:=am (goUpAll_calls wr p S Bs HBS.out (.inr ⟨hne,hcl,HSC.out⟩))
     rw [decide_eq_false hne] at C4
     have HA:=am ha
     clear ha hne hcl
     go_wp2_with (go_at_call 449;fail)
     refine C4.out.mono ?_
     rintro e1 w1 ⟨rfl,hw⟩
     rw [hw]
     clear hw
     rcases HA.out.cases with ⟨s,rfl,hs⟩|⟨hs,hc⟩
     ·have C5:=am (nextSibling_calls wr p _ hs)
      clear hs
      go_wp2_with (go_at_call 312;fail)
      refine C5.out.mono ?_
      rintro e1 w1 ⟨rfl,hw⟩
      rw [hw]
      clear hw
      have e0:pv (some s)=.pointer (some ⟨s,0,none⟩):=rfl
      rw [e0]
      go_wp2
      go_ret
      exact ⟨rfl,rfl⟩
     ·have C5:=am (nextSibling_calls wr p _ hs)
      have HCp:=am hc
      clear hs hc
      go_wp2_with (go_at_call 312;fail)
      refine C5.out.mono ?_
      rintro e1 w1 ⟨rfl,hw⟩
      rw [hw]
      clear hw
      have e0:pv none=.pointer none:=rfl
      rw [e0]
      go_wp2
      go_roundg e
      case measure=>omega
      case rel=>exact ⟨p,rfl,rfl,HCp⟩
theorem Row.at {S:Nat→Option Nat→Prop}:∀ (l:List Nat) {c:Nat} {r:List Nat},Row S (l++c::r) none→S c r.head?
 |[],_,_,h=>Row.head h
 |_::l,_,_,h=>Row.at l (Row.tail h)
theorem firstB_head (kids:List DT):firstB kids=(DT.allL kids).head?:=by
 cases kids with
 |nil=>rw [DT.allL];rfl
 |cons t r=>
  obtain ⟨l,h⟩:=DT.all_eq t
  rw [DT.allL_cons,h];rfl
theorem find_skip {P:Nat→Bool}:∀ {l r:List Nat},l.find? P=none→(l++r).find? P=r.find? P:=by
 intro l r h
 rw [List.find?_append,h];rfl
theorem findFirst_calls (m:FuncId) (hcf:∀ a w,(callFunc m a).run Tryz.prog w=.ok (.enter m a) w) (P:Nat→Bool) (w:World) (S:Nat) (i:NI) (kids:List DT) (par prev next:Option Nat) (h:DT.At w par prev next (.node S i kids)) (hS:S∉DT.allL kids)
  (hm:∀ w',Below w.heap.size w w'→∀ c∈DT.allL kids,Calls Tryz.prog m #[.pointer (some ⟨c,0,none⟩)] w' fun e w2=>e=.returned (.bool (P c))∧Below w'.heap.size w' w2):
  Calls Tryz.prog 422 #[.pointer (some ⟨S,0,none⟩),.func (.func m) #[] #[]] w fun e w'=>e=.returned (pv ((DT.allL kids).find? P))∧Below w.heap.size w w':=by
 have hmf:∀ (fn:Fn) (first cap:Array Value) (w:World),(Instr.makeFunc fn first cap).run Tryz.prog w=.ok (.func fn first cap) w:=fun _ _ _ _=>rfl
 have HA:=am h
 have HS:=am hS
 have HM:=am hm
 have f1:=(At_fields h).2.1
 clear h hS hm
 go_enter Tryz.func422,Tryz.ntmps422
 go_wp2_with (go_at_call 278;fail)
 have hB0:Below w.heap.size w (w.alloc (.cells #[.pointer (some ⟨S,0,none⟩)] 67)):=(Below.refl _ w).alloc (Nat.le_refl _) _
 refine (initNb_calls (w.alloc (.cells #[.pointer (some ⟨S,0,none⟩)] 67)) 313 312 438 #[] #[] #[.pointer (some ⟨w.heap.size,0,none⟩)]).mono ?_
 rintro e w1 ⟨A1,A2,A3,rfl,c1,c2,c3,hb⟩
 have cb:w1.cell? ⟨w.heap.size,0,none⟩=some (.pointer (some ⟨S,0,none⟩)):=cell_keep hb (box_cell w _ _)
 have hB1:Below w.heap.size w w1:=hB0.trans (hb.mono hB0.size)
 have g1:w1.cell? ⟨S,1,none⟩=some (pv (firstB kids)):=cell_keep hB1 f1
 have HB1:=am hB1
 have C1:=am c1
 have C2:=am c2
 have C3:=am c3
 have CB:=am cb
 clear hB0 hB1 hb c1 c2 c3 f1
 go_wp2
 clear cb g1
 go_loopg [6] (DT.allL kids).length (fun gf v6 wx=>∃ (dn rest:List Nat),v6=pv rest.head?∧Aside0 (DT.allL kids=dn++rest)∧Aside0 (dn.find? P=none)∧Aside0 (Below w1.heap.size w1 wx)∧Aside0 (rest.length≤gf))
 case atStart=>exact ⟨[],DT.allL kids,by rw [firstB_head],⟨rfl⟩,⟨rfl⟩,⟨Below.refl _ _⟩,⟨Nat.le_refl _⟩⟩
 case round=>
  obtain ⟨dn,rest,rfl,HD,HF,HB,HG⟩:=hrel
  cases rest with
  |nil=>
   have e:pv ([]:List Nat).head?=.pointer none:=rfl
   rw [e]
   go_wp2
   go_ret
   have hd:=HD.out
   rw [List.append_nil] at hd
   refine ⟨by rw [hd,HF.out];rfl,HB1.out.trans (HB.out.mono HB1.out.size)⟩
  |cons c r=>
   have e:pv (c::r).head?=.pointer (some ⟨c,0,none⟩):=rfl
   rw [e]
   obtain ⟨g',rfl⟩:∃ g',gk=g'+1:=⟨gk - 1,by have:=HG.out;simp only [List.length_cons] at this;omega⟩
   have CM:=am (HM.out wr (HB1.out.trans (HB.out.mono HB1.out.size)) c (by rw [HD.out];exact List.mem_append_right _ (List.mem_cons_self ..)))
   cases hP:P c with
   |true=>
    rw [hP] at CM
    have HPC:=am hP
    clear hP
    go_wp2_with fail
    refine CM.out.mono ?_
    rintro e w2 ⟨rfl,hb⟩
    have HB2:=am hb
    clear hb
    go_wp2
    go_ret
    refine ⟨?_,(HB1.out.trans (HB.out.mono HB1.out.size)).trans (HB2.out.mono (Nat.le_trans HB1.out.size HB.out.size))⟩
    rw [HD.out,find_skip HF.out,List.find?_cons,HPC.out]
    rfl
   |false=>
    rw [hP] at CM
    have HPC:=am hP
    clear hP
    go_wp2_with fail
    refine CM.out.mono ?_
    rintro e w2 ⟨rfl,hb⟩
    have HB2:=am (HB.out.trans (hb.mono HB.out.size))
    have HBW:=am (HB1.out.trans (HB2.out.mono HB1.out.size))
    clear hb
    have c1:=cell_keep HB2.out C1.out
    have c2:=cell_keep HB2.out C2.out
    have c3:=cell_keep HB2.out C3.out
    have hst:StepTo w2 S c r.head?:=by
     have:=DT.rowBelow (DT.At.keep HBW.out HA.out) HS.out
     rw [HD.out] at this
     exact Row.at dn this
    have CN:=am (nbFirst_calls w2 S w.heap.size ⟨_,_,(DT.At.keep HBW.out HA.out).1⟩ (cell_keep HB2.out CB.out) c _ hst A1 A2 A3 c1 c2 c3)
    clear hst c1 c2 c3
    go_wp2_with (go_at_call 323;fail)
    refine CN.out.mono ?_
    rintro e w3 ⟨rfl,hw⟩
    rw [hw]
    clear hw
    go_wp2
    go_roundg g'
    case measure=>omega
    case rel=>
     refine ⟨dn++[c],r,rfl,⟨by rw [HD.out,List.append_assoc];rfl⟩,⟨?_⟩,HB2,⟨by have:=HG.out;simp only [List.length_cons] at this;omega⟩⟩
     rw [find_skip HF.out,List.find?_cons,HPC.out]
     rfl
theorem findAll_calls (m:FuncId) (hcf:∀ a w,(callFunc m a).run Tryz.prog w=.ok (.enter m a) w) (P:Nat→Bool) (w:World) (S:Nat) (i:NI) (kids:List DT) (par prev next:Option Nat) (h:DT.At w par prev next (.node S i kids)) (hS:S∉DT.allL kids) (hl:(DT.allL kids).length≤1000)
  (hm:∀ w',Below w.heap.size w w'→∀ c∈DT.allL kids,Calls Tryz.prog m #[.pointer (some ⟨c,0,none⟩)] w' fun e w2=>e=.returned (.bool (P c))∧Below w'.heap.size w' w2):
  Calls Tryz.prog 435 #[.pointer (some ⟨S,0,none⟩),.func (.func m) #[] #[]] w fun e w'=>∃ v,e=.returned v∧Kd.R ptrK 67 w' w.heap.size (fun _=>True) v ((DT.allL kids).filter P)∧Below w.heap.size w w':=by
 have hmf:∀ (fn:Fn) (first cap:Array Value) (w:World),(Instr.makeFunc fn first cap).run Tryz.prog w=.ok (.func fn first cap) w:=fun _ _ _ _=>rfl
 have HA:=am h
 have HS:=am hS
 have HM:=am hm
 have HL:=am hl
 have f1:=(At_fields h).2.1
 clear h hS hm hl
 go_enter Tryz.func435,Tryz.ntmps435
 go_wp2_with (go_at_call 278;fail)
 have hB0:Below w.heap.size w (w.alloc (.cells #[.pointer (some ⟨S,0,none⟩)] 67)):=(Below.refl _ w).alloc (Nat.le_refl _) _
 refine (initNb_calls (w.alloc (.cells #[.pointer (some ⟨S,0,none⟩)] 67)) 313 312 449 #[] #[] #[.pointer (some ⟨w.heap.size,0,none⟩)]).mono ?_
 rintro e w1 ⟨A1,A2,A3,rfl,c1,c2,c3,hb⟩
 have cb:w1.cell? ⟨w.heap.size,0,none⟩=some (.pointer (some ⟨S,0,none⟩)):=cell_keep hb (box_cell w _ _)
 have hB1:Below w.heap.size w w1:=hB0.trans (hb.mono hB0.size)
 have g1:w1.cell? ⟨S,1,none⟩=some (pv (firstB kids)):=cell_keep hB1 f1
 have HB1:=am hB1
 have C1:=am c1
 have C2:=am c2
 have C3:=am c3
 have CB:=am cb
 clear hB0 hB1 hb c1 c2 c3 f1
 go_wp2
 clear cb g1
 go_loopg [4,6] (DT.allL kids).length (fun gf v4 v6 wx=>∃ (dn rest:List Nat),v6=pv rest.head?∧Aside0 (DT.allL kids=dn++rest)∧Aside0 (Kd.R ptrK 67 wx w1.heap.size (fun _=>True) v4 (dn.filter P))∧Aside0 (Below w1.heap.size w1 wx)∧Aside0 (rest.length≤gf))
 case atStart=>exact ⟨[],DT.allL kids,by rw [firstB_head],⟨rfl⟩,⟨Kd.R_nil _ _ _ _ _⟩,⟨Below.refl _ _⟩,⟨Nat.le_refl _⟩⟩
 case round=>
  obtain ⟨dn,rest,rfl,HD,HF,HB,HG⟩:=hrel
  cases rest with
  |nil=>
   have e:pv ([]:List Nat).head?=.pointer none:=rfl
   rw [e]
   go_wp2
   go_ret
   have hd:=HD.out
   rw [List.append_nil] at hd
   exact ⟨_,rfl,Kd.R_lower (by rw [hd];exact HF.out) HB1.out.size,HB1.out.trans (HB.out.mono HB1.out.size)⟩
  |cons c r=>
   have e:pv (c::r).head?=.pointer (some ⟨c,0,none⟩):=rfl
   rw [e]
   obtain ⟨g',rfl⟩:∃ g',gk=g'+1:=⟨gk - 1,by have:=HG.out;simp only [List.length_cons] at this;omega⟩
   have CM:=am (HM.out wr (HB1.out.trans (HB.out.mono HB1.out.size)) c (by rw [HD.out];exact List.mem_append_right _ (List.mem_cons_self ..)))
   have HLD:=am (show (dn.filter P).length≤1000 by have:=HL.out;rw [HD.out,List.length_append] at this;have:=List.length_filter_le P dn;omega)
   cases hP:P c with
   |true=>
    rw [hP] at CM
    have HPC:=am hP
    clear hP
    go_wp2_with fail
    refine CM.out.mono ?_
    rintro e w2 ⟨rfl,hb⟩
    have HB2:=am (HB.out.trans (hb.mono HB.out.size))
    have HF2:=am (Kd.R_below HF.out hb)
    clear hb
    obtain ⟨fl,hfl⟩:∃ fl,dn.filter P=fl:=⟨_,rfl⟩
    rw [hfl] at HF2 HLD
    have HFL:=am hfl
    clear hfl
    go_wp2_with (first|(at_builtin;refine Kd.R_append ptrK (w0:=w1) w1.heap.size rfl (.tmp _) (.tmp _) 338 67 (.pointer none) 8 rfl Tryz.underlying338 info92 rfl (by decide) (by omega) u4 fl c [.pointer (some ⟨c,0,none⟩)] (fun _=>True) (fun _=>False) rfl rfl rfl (fun _ hk=>hk.elim) (fun _ _=>trivial) HF2.out HB2.out (below_size HB2.out) (by have:=HLD.out;omega) ?_;intro v1 wn ho1 hb1 hg1 hat1;have HRN:=am ho1;have HBN:=am hb1;clear ho1 hb1 hg1 hat1)|fail)
    have HBW:=am (HB1.out.trans (HBN.out.mono HB1.out.size))
    have c1:=cell_keep HBN.out C1.out
    have c2:=cell_keep HBN.out C2.out
    have c3:=cell_keep HBN.out C3.out
    have hst:StepTo wn S c r.head?:=by
     have:=DT.rowBelow (DT.At.keep HBW.out HA.out) HS.out
     rw [HD.out] at this
     exact Row.at dn this
    have CN:=am (nbAll_calls wn S w.heap.size ⟨_,_,(DT.At.keep HBW.out HA.out).1⟩ (cell_keep HBN.out CB.out) c _ hst A1 A2 A3 c1 c2 c3)
    clear hst c1 c2 c3
    go_wp2_with (go_at_call 323;fail)
    refine CN.out.mono ?_
    rintro e w4 ⟨rfl,hw⟩
    rw [hw]
    clear hw
    go_wp2
    go_roundg g'
    case measure=>omega
    case rel=>
     refine ⟨dn++[c],r,rfl,⟨by rw [HD.out,List.append_assoc];rfl⟩,⟨?_⟩,HBN,⟨by have:=HG.out;simp only [List.length_cons] at this;omega⟩⟩
     rw [List.filter_append,List.filter_cons,HPC.out]
     have:=HRN.out
     rw [← HFL.out] at this
     exact this
   |false=>
    rw [hP] at CM
    have HPC:=am hP
    clear hP
    go_wp2_with fail
    refine CM.out.mono ?_
    rintro e wn ⟨rfl,hb⟩
    have HBN:=am (HB.out.trans (hb.mono HB.out.size))
    have HF2:=am (Kd.R_below HF.out hb)
    clear hb
    have HBW:=am (HB1.out.trans (HBN.out.mono HB1.out.size))
    have c1:=cell_keep HBN.out C1.out
    have c2:=cell_keep HBN.out C2.out
    have c3:=cell_keep HBN.out C3.out
    have hst:StepTo wn S c r.head?:=by
     have:=DT.rowBelow (DT.At.keep HBW.out HA.out) HS.out
     rw [HD.out] at this
     exact Row.at dn this
    have CN:=am (nbAll_calls wn S w.heap.size ⟨_,_,(DT.At.keep HBW.out HA.out).1⟩ (cell_keep HBN.out CB.out) c _ hst A1 A2 A3 c1 c2 c3)
    clear hst c1 c2 c3
    go_wp2_with (go_at_call 323;fail)
    refine CN.out.mono ?_
    rintro e w4 ⟨rfl,hw⟩
    rw [hw]
    clear hw
    go_wp2
    go_roundg g'
    case measure=>omega
    case rel=>
     refine ⟨dn++[c],r,rfl,⟨by rw [HD.out,List.append_assoc];rfl⟩,⟨?_⟩,HBN,⟨by have:=HG.out;simp only [List.length_cons] at this;omega⟩⟩
     rw [List.filter_append,List.filter_cons,HPC.out]
     simpa using HF2.out
theorem isHeadName_calls (w:World) (i:NI) (hp:i.Plain):
  Calls Tryz.prog 424 #[.string i.nm] w fun e w'=>e=.returned (.bool false)∧w'=w:=by
 rcases hp.cases with e|e|e|e|e|e|e|e|e <;> rw [e] <;> go_enter Tryz.func424,Tryz.ntmps424 <;> go_wp2 <;> go_ret <;> exact ⟨rfl,rfl⟩
theorem matchProblem_calls (w:World) (q:Nat) (i:NI) (kids:List DT) (par prev next:Option Nat) (h:DT.At w par prev next (.node q i kids)) (hp:i.Plain):
  Calls Tryz.prog 423 #[.pointer (some ⟨q,0,none⟩)] w fun e w'=>e=.returned (.bool (decide (i.nm=nTable)))∧Below w.heap.size w w':=by
 have CN:=name_calls w q i kids par prev next h hp
 have CH:=isHeadName_calls w i hp
 rcases hp.cases with e|e|e|e|e|e|e|e|e
 all_goals
  rw [e] at CN CH ⊢
  have CN:=am CN
  have CH:=am CH
  clear h hp e
  go_enter Tryz.func423,Tryz.ntmps423
  go_wp2_with (go_at_call 72;fail)
  refine CN.out.mono ?_
  rintro e w1 ⟨rfl,hw⟩
  rw [hw]
  clear hw CN
  go_wp2_with (go_at_call 424;fail)
  refine CH.out.mono ?_
  rintro e w1 ⟨rfl,hw⟩
  rw [hw]
  clear hw CH
  go_wp2
  go_ret
  exact ⟨by rfl,Below.refl _ _⟩
theorem matchThead_calls (w:World) (q:Nat) (i:NI) (kids:List DT) (par prev next:Option Nat) (h:DT.At w par prev next (.node q i kids)) (hp:i.Plain):
  Calls Tryz.prog 425 #[.pointer (some ⟨q,0,none⟩)] w fun e w'=>e=.returned (.bool (decide (i.nm=nThead)))∧Below w.heap.size w w':=by
 have CN:=name_calls w q i kids par prev next h hp
 rcases hp.cases with e|e|e|e|e|e|e|e|e
 all_goals
  rw [e] at CN ⊢
  have CN:=am CN
  clear h hp e
  go_enter Tryz.func425,Tryz.ntmps425
  go_wp2_with (go_at_call 72;fail)
  refine CN.out.mono ?_
  rintro e w1 ⟨rfl,hw⟩
  rw [hw]
  clear hw CN
  go_wp2
  go_ret
  exact ⟨by rfl,Below.refl _ _⟩
theorem matchTr_calls (w:World) (q:Nat) (i:NI) (kids:List DT) (par prev next:Option Nat) (h:DT.At w par prev next (.node q i kids)) (hp:i.Plain):
  Calls Tryz.prog 426 #[.pointer (some ⟨q,0,none⟩)] w fun e w'=>e=.returned (.bool (decide (i.nm=nTr)))∧Below w.heap.size w w':=by
 have CN:=name_calls w q i kids par prev next h hp
 rcases hp.cases with e|e|e|e|e|e|e|e|e
 all_goals
  rw [e] at CN ⊢
  have CN:=am CN
  clear h hp e
  go_enter Tryz.func426,Tryz.ntmps426
  go_wp2_with (go_at_call 72;fail)
  refine CN.out.mono ?_
  rintro e w1 ⟨rfl,hw⟩
  rw [hw]
  clear hw CN
  go_wp2
  go_ret
  exact ⟨by rfl,Below.refl _ _⟩
theorem matchTh_calls (w:World) (q:Nat) (i:NI) (kids:List DT) (par prev next:Option Nat) (h:DT.At w par prev next (.node q i kids)) (hp:i.Plain):
  Calls Tryz.prog 427 #[.pointer (some ⟨q,0,none⟩)] w fun e w'=>e=.returned (.bool (decide (i.nm=nTh)))∧Below w.heap.size w w':=by
 have CN:=name_calls w q i kids par prev next h hp
 rcases hp.cases with e|e|e|e|e|e|e|e|e
 all_goals
  rw [e] at CN ⊢
  have CN:=am CN
  clear h hp e
  go_enter Tryz.func427,Tryz.ntmps427
  go_wp2_with (go_at_call 72;fail)
  refine CN.out.mono ?_
  rintro e w1 ⟨rfl,hw⟩
  rw [hw]
  clear hw CN
  go_wp2
  go_ret
  exact ⟨by rfl,Below.refl _ _⟩
theorem matchCellA_calls (w:World) (q:Nat) (i:NI) (kids:List DT) (par prev next:Option Nat) (h:DT.At w par prev next (.node q i kids)) (hp:i.Plain):
  Calls Tryz.prog 436 #[.pointer (some ⟨q,0,none⟩)] w fun e w'=>e=.returned (.bool (decide (i.nm=nTh∨i.nm=nTd)))∧Below w.heap.size w w':=by
 have CN:=name_calls w q i kids par prev next h hp
 rcases hp.cases with e|e|e|e|e|e|e|e|e
 all_goals
  rw [e] at CN ⊢
  have CN:=am CN
  clear h hp e
  go_enter Tryz.func436,Tryz.ntmps436
  go_wp2_with (go_at_call 72;fail)
  refine CN.out.mono ?_
  rintro e w1 ⟨rfl,hw⟩
  rw [hw]
  clear hw CN
  go_wp2
  go_ret
  exact ⟨by rfl,Below.refl _ _⟩
theorem matchCellR_calls (w:World) (q:Nat) (i:NI) (kids:List DT) (par prev next:Option Nat) (h:DT.At w par prev next (.node q i kids)) (hp:i.Plain):
  Calls Tryz.prog 439 #[.pointer (some ⟨q,0,none⟩)] w fun e w'=>e=.returned (.bool (decide (i.nm=nTh∨i.nm=nTd)))∧Below w.heap.size w w':=by
 have CN:=name_calls w q i kids par prev next h hp
 rcases hp.cases with e|e|e|e|e|e|e|e|e
 all_goals
  rw [e] at CN ⊢
  have CN:=am CN
  clear h hp e
  go_enter Tryz.func439,Tryz.ntmps439
  go_wp2_with (go_at_call 72;fail)
  refine CN.out.mono ?_
  rintro e w1 ⟨rfl,hw⟩
  rw [hw]
  clear hw CN
  go_wp2
  go_ret
  exact ⟨by rfl,Below.refl _ _⟩
theorem matchCaption_calls (w:World) (q:Nat) (i:NI) (kids:List DT) (par prev next:Option Nat) (h:DT.At w par prev next (.node q i kids)) (ha:i.atom=0):
  Calls Tryz.prog 437 #[.pointer (some ⟨q,0,none⟩)] w fun e w'=>e=.returned (.bool false)∧Below w.heap.size w w':=by
 have f6:=(At_fields h).2.2.2.2.2.2.1
 rw [ha] at f6
 clear h ha
 go_enter Tryz.func437,Tryz.ntmps437
 go_wp2
 go_ret
 exact ⟨rfl,Below.refl _ _⟩
end Go.Proofs.YtbheflncgmhadaaGreat.Hand
namespace Go.Proofs.YtbheflncgmhadaaGreat.Hand
open Go.RowKit Go.Proofs.YtbheflncgmhadaaGreatW.PrintWords Go.Proofs.YtbheflncgmhadaaGreatW.PrintLast Go.Proofs.YtbheflncgmhadaaGreatW.PrintMore
mutual
def DT.sel (Q:NI→Bool):DT→List Nat
 |.node b i kids=>(if Q i then [b] else [])++DT.selL Q kids
def DT.selL (Q:NI→Bool):List DT→List Nat
 |[]=>[]
 |t::r=>t.sel Q++DT.selL Q r
end
theorem DT.At.info {w:World} {c:Nat} {i i':NI} {k k':List DT} {p p' v v' n n':Option Nat} (h:DT.At w p v n (.node c i k)) (h':DT.At w p' v' n' (.node c i' k')):i=i':=by
 have f:=At_fields h
 have f':=At_fields h'
 obtain ⟨_,_,_,_,_,a1,a2,a3,a4⟩:=f
 obtain ⟨_,_,_,_,_,b1,b2,b3,b4⟩:=f'
 rw [a1] at b1
 rw [a2] at b2
 rw [a3] at b3
 rw [a4] at b4
 obtain ⟨k1,k2,k3,k4⟩:=i
 obtain ⟨l1,l2,l3,l4⟩:=i'
 simp only [Option.some.injEq,Value.int.injEq,true_and,Value.string.injEq] at b1 b2 b3 b4
 have e1:k1=l1:=by exact_mod_cast b1
 rw [e1,b2,b3,b4]
open Classical in
noncomputable def Pn (w:World) (Q:NI→Bool) (c:Nat):Bool:=decide (∃ i kids par prev next,DT.At w par prev next (.node c i kids)∧Q i=true)
open Classical in
theorem Pn_of {w:World} {Q:NI→Bool} {c:Nat} {i:NI} {k:List DT} {p v n:Option Nat} (h:DT.At w p v n (.node c i k)):Pn w Q c=Q i:=by
 unfold Pn
 cases hq:Q i with
 |true=>exact decide_eq_true ⟨i,k,p,v,n,h,hq⟩
 |false=>
  refine decide_eq_false ?_
  rintro ⟨i',k',p',v',n',h',hq'⟩
  rw [← h.info h',hq] at hq'
  cases hq'
theorem DT.selL_eq {w:World} {Q:NI→Bool} (l:List DT) (IH:∀ t∈l,∀ (par prev next:Option Nat),DT.At w par prev next t→t.all.filter (Pn w Q)=t.sel Q):∀ (b:Nat) (prev:Option Nat),KidsAt w b prev l→(DT.allL l).filter (Pn w Q)=DT.selL Q l:=by
 induction l with
 |nil=>intro b prev _;rw [DT.allL,DT.selL];rfl
 |cons t r ih=>
  intro b prev h
  rw [DT.allL_cons,DT.selL,List.filter_append,IH t (List.mem_cons_self ..) _ _ _ h.1,ih (fun t ht=>IH t (List.mem_cons_of_mem _ ht)) b _ h.2]
theorem DT.sel_eq {w:World} {Q:NI→Bool} (t:DT):∀ (par prev next:Option Nat),DT.At w par prev next t→t.all.filter (Pn w Q)=t.sel Q:=by
 induction t using DT.induct with
 |h b i kids IH=>
 intro par prev next h
 rw [DT.all,DT.sel,List.filter_cons,Pn_of h,DT.selL_eq kids IH b none h.2]
 cases Q i <;> rfl
structure Looked (w:World) (A:NI→Prop) (S:Nat) (i:NI) (kids:List DT) (par prev next:Option Nat):Prop where
 at_:DT.At w par prev next (.node S i kids)
 shape:(DT.node S i kids).Shape
 all:(DT.node S i kids).AllP A
 nodup:(S::DT.allL kids).Nodup
 len:(DT.allL kids).length≤999
def Matches (m:FuncId) (A:NI→Prop) (Q:NI→Bool):Prop:=(∀ a w,(callFunc m a).run Tryz.prog w=.ok (.enter m a) w) ∧
 ∀ (w:World) (q:Nat) (i:NI) (kids:List DT) (par prev next:Option Nat),DT.At w par prev next (.node q i kids)→i.Plain→A i→Calls Tryz.prog m #[.pointer (some ⟨q,0,none⟩)] w fun e w'=>e=.returned (.bool (Q i))∧Below w.heap.size w w'
theorem Looked.match {w:World} {A:NI→Prop} {S:Nat} {i:NI} {kids:List DT} {par prev next:Option Nat} (h:Looked w A S i kids par prev next) {m:FuncId} {Q:NI→Bool} (hm:Matches m A Q):
  ∀ w',Below w.heap.size w w'→∀ c∈DT.allL kids,Calls Tryz.prog m #[.pointer (some ⟨c,0,none⟩)] w' fun e w2=>e=.returned (.bool (Pn w Q c))∧Below w'.heap.size w' w2:=by
 intro w' hb c hc
 have hc':c∈(DT.node S i kids).all:=by rw [DT.all];exact List.mem_cons_of_mem _ hc
 obtain ⟨j,k,p,v,n,hn,ha⟩:=DT.mem_allP (P:=A) (.node S i kids) par prev next h.at_ h.shape h.all c hc'
 rw [Pn_of hn.at_]
 exact hm.2 w' c j k p v n (DT.At.keep hb hn.at_) hn.shape.1 ha
theorem findFirst_sel {w:World} {A:NI→Prop} {S:Nat} {i:NI} {kids:List DT} {par prev next:Option Nat} (h:Looked w A S i kids par prev next) {m:FuncId} {Q:NI→Bool} (hm:Matches m A Q):
  Calls Tryz.prog 422 #[.pointer (some ⟨S,0,none⟩),.func (.func m) #[] #[]] w fun e w'=>e=.returned (pv (DT.selL Q kids).head?)∧Below w.heap.size w w':=by
 refine (findFirst_calls m hm.1 (Pn w Q) w S i kids par prev next h.at_ (List.nodup_cons.1 h.nodup).1 (h.match hm)).mono ?_
 rintro e w' ⟨rfl,hb⟩
 refine ⟨?_,hb⟩
 rw [← DT.selL_eq kids (fun t _=>DT.sel_eq t) S none h.at_.2,List.head?_filter]
theorem findAll_sel {w:World} {A:NI→Prop} {S:Nat} {i:NI} {kids:List DT} {par prev next:Option Nat} (h:Looked w A S i kids par prev next) {m:FuncId} {Q:NI→Bool} (hm:Matches m A Q):
  Calls Tryz.prog 435 #[.pointer (some ⟨S,0,none⟩),.func (.func m) #[] #[]] w fun e w'=>∃ v,e=.returned v∧Kd.R ptrK 67 w' w.heap.size (fun _=>True) v (DT.selL Q kids)∧Below w.heap.size w w':=by
 refine (findAll_calls m hm.1 (Pn w Q) w S i kids par prev next h.at_ (List.nodup_cons.1 h.nodup).1 (Nat.le_trans h.len (by decide)) (h.match hm)).mono ?_
 rintro e w' ⟨v,rfl,hr,hb⟩
 refine ⟨v,rfl,?_,hb⟩
 rw [← DT.selL_eq kids (fun t _=>DT.sel_eq t) S none h.at_.2]
 exact hr
set_option maxRecDepth 100000
theorem matchesThead:Matches 425 (fun _=>True) (fun i=>decide (i.nm=nThead)):=⟨fun a w=>by rfl,fun w q i kids par prev next h hp _=>matchThead_calls w q i kids par prev next h hp⟩
theorem matchesTr:Matches 426 (fun _=>True) (fun i=>decide (i.nm=nTr)):=⟨fun a w=>by rfl,fun w q i kids par prev next h hp _=>matchTr_calls w q i kids par prev next h hp⟩
theorem matchesTh:Matches 427 (fun _=>True) (fun i=>decide (i.nm=nTh)):=⟨fun a w=>by rfl,fun w q i kids par prev next h hp _=>matchTh_calls w q i kids par prev next h hp⟩
theorem matchesCellA:Matches 436 (fun _=>True) (fun i=>decide (i.nm=nTh∨i.nm=nTd)):=⟨fun a w=>by rfl,fun w q i kids par prev next h hp _=>matchCellA_calls w q i kids par prev next h hp⟩
theorem matchesCellR:Matches 439 (fun _=>True) (fun i=>decide (i.nm=nTh∨i.nm=nTd)):=⟨fun a w=>by rfl,fun w q i kids par prev next h hp _=>matchCellR_calls w q i kids par prev next h hp⟩
theorem matchesProblem:Matches 423 (fun _=>True) (fun i=>decide (i.nm=nTable)):=⟨fun a w=>by rfl,fun w q i kids par prev next h hp _=>matchProblem_calls w q i kids par prev next h hp⟩
theorem matchesCaption:Matches 437 (fun i=>i.atom=0) (fun _=>false):=⟨fun a w=>by rfl,fun w q i kids par prev next h hp ha=>matchCaption_calls w q i kids par prev next h ha⟩
end Go.Proofs.YtbheflncgmhadaaGreat.Hand
namespace Go.Proofs.YtbheflncgmhadaaGreat.Hand
open Go.RowKit Go.Proofs.YtbheflncgmhadaaGreatW.PrintWords Go.Proofs.YtbheflncgmhadaaGreatW.PrintLast Go.Proofs.YtbheflncgmhadaaGreatW.PrintMore
attribute [local go_sem] run_store_func'
theorem Looked.keep {w w':World} {A:NI→Prop} {S:Nat} {i:NI} {kids:List DT} {par prev next:Option Nat} (hb:Below w.heap.size w w') (h:Looked w A S i kids par prev next):Looked w' A S i kids par prev next:=⟨DT.At.keep hb h.at_,h.shape,h.all,h.nodup,h.len⟩
def qThead (i:NI):Bool:=decide (i.nm=nThead)
def qTr (i:NI):Bool:=decide (i.nm=nTr)
def qTh (i:NI):Bool:=decide (i.nm=nTh)
def qCell (i:NI):Bool:=decide (i.nm=nTh∨i.nm=nTd)
def qTable (i:NI):Bool:=decide (i.nm=nTable)
def anyN (_:NI):Prop:=True
theorem headerTh_calls {w:World} {S:Nat} {i:NI} {kids:List DT} {par prev next:Option Nat} (h:Looked w anyN S i kids par prev next) (h1:(DT.selL qThead kids).head?=none) (c H:Nat) (h2:(DT.selL qTh kids).head?=some c) (hp:w.cell? ⟨c,0,none⟩=some (.pointer (some ⟨H,0,none⟩))):
  Calls Tryz.prog 413 #[.pointer (some ⟨S,0,none⟩)] w fun e w'=>e=.returned (.pointer (some ⟨H,0,none⟩))∧Below w.heap.size w w':=by
 have hmf:∀ (fn:Fn) (first cap:Array Value) (w:World),(Instr.makeFunc fn first cap).run Tryz.prog w=.ok (.func fn first cap) w:=fun _ _ _ _=>rfl
 have HL:=am h
 have C1:=am (findFirst_sel h matchesThead)
 rw [show (DT.selL (fun i=>decide (i.nm=nThead)) kids).head?=none from h1] at C1
 have H2:=am h2
 have HP:=am hp
 clear h h1 h2 hp
 go_enter Tryz.func413,Tryz.ntmps413
 go_wp2_with (go_at_call 422;fail)
 refine C1.out.mono ?_
 rintro e w1 ⟨rfl,hb⟩
 have HB:=am hb
 have e0:pv none=.pointer none:=rfl
 rw [e0]
 have C2:=findFirst_sel (HL.out.keep hb) matchesTh
 rw [show (DT.selL (fun i=>decide (i.nm=nTh)) kids).head?=some c from H2.out] at C2
 have C2:=am C2
 clear hb
 go_wp2_with (go_at_call 422;fail)
 refine C2.out.mono ?_
 rintro e w2 ⟨rfl,hb⟩
 have HB2:=am (HB.out.trans (hb.mono HB.out.size))
 have e0:pv (some c)=.pointer (some ⟨c,0,none⟩):=rfl
 rw [e0]
 have hp:=cell_keep HB2.out HP.out
 clear hb
 go_wp2
 go_ret
 exact ⟨rfl,HB2.out⟩
theorem headerThead_calls {w:World} {S:Nat} {i:NI} {kids:List DT} {par prev next:Option Nat} (h:Looked w anyN S i kids par prev next) (T H:Nat) (h1:(DT.selL qThead kids).head?=some T) {iT:NI} {kT:List DT} {pT vT nT:Option Nat} (hT:Looked w anyN T iT kT pT vT nT) (h2:(DT.selL qTr kT).head?=some H):
  Calls Tryz.prog 413 #[.pointer (some ⟨S,0,none⟩)] w fun e w'=>e=.returned (.pointer (some ⟨H,0,none⟩))∧Below w.heap.size w w':=by
 have hmf:∀ (fn:Fn) (first cap:Array Value) (w:World),(Instr.makeFunc fn first cap).run Tryz.prog w=.ok (.func fn first cap) w:=fun _ _ _ _=>rfl
 have HL:=am hT
 have C1:=am (findFirst_sel h matchesThead)
 rw [show (DT.selL (fun i=>decide (i.nm=nThead)) kids).head?=some T from h1] at C1
 have H2:=am h2
 clear h h1 h2 hT
 go_enter Tryz.func413,Tryz.ntmps413
 go_wp2_with (go_at_call 422;fail)
 refine C1.out.mono ?_
 rintro e w1 ⟨rfl,hb⟩
 have HB:=am hb
 have e0:pv (some T)=.pointer (some ⟨T,0,none⟩):=rfl
 rw [e0]
 have C2:=findFirst_sel (HL.out.keep hb) matchesTr
 rw [show (DT.selL (fun i=>decide (i.nm=nTr)) kT).head?=some H from H2.out] at C2
 have C2:=am C2
 clear hb
 go_wp2_with (go_at_call 422;fail)
 refine C2.out.mono ?_
 rintro e w2 ⟨rfl,hb⟩
 have HB2:=am (HB.out.trans (hb.mono HB.out.size))
 have e0:pv (some H)=.pointer (some ⟨H,0,none⟩):=rfl
 rw [e0]
 clear hb
 go_wp2
 go_ret
 exact ⟨rfl,HB2.out⟩
theorem noProblem_calls {w:World} {S:Nat} {i:NI} {kids:List DT} {par prev next:Option Nat} (h:Looked w anyN S i kids par prev next) (h1:(DT.selL qTable kids).head?=none):
  Calls Tryz.prog 411 #[.pointer (some ⟨S,0,none⟩)] w fun e w'=>e=.returned (.bool false)∧Below w.heap.size w w':=by
 have hmf:∀ (fn:Fn) (first cap:Array Value) (w:World),(Instr.makeFunc fn first cap).run Tryz.prog w=.ok (.func fn first cap) w:=fun _ _ _ _=>rfl
 have C1:=am (findFirst_sel h matchesProblem)
 rw [show (DT.selL (fun i=>decide (i.nm=nTable)) kids).head?=none from h1] at C1
 clear h h1
 go_enter Tryz.func411,Tryz.ntmps411
 go_wp2_with (go_at_call 422;fail)
 refine C1.out.mono ?_
 rintro e w1 ⟨rfl,hb⟩
 have HB:=am hb
 have e0:pv none=.pointer none:=rfl
 rw [e0]
 clear hb
 go_wp2
 go_ret
 exact ⟨rfl,HB.out⟩
theorem noParent_calls {w:World} {S D:Nat} {i iD:NI} {kids kD:List DT} {prev next pD vD nD:Option Nat} (h:DT.At w (some D) prev next (.node S i kids)) (hD:DT.At w none vD nD (.node D iD kD)) (hp:iD.Plain) (hn:iD.nm=nDoc):
  Calls Tryz.prog 412 #[.pointer (some ⟨S,0,none⟩)] w fun e w'=>e=.returned (.bool false)∧Below w.heap.size w w':=by
 have CN:=name_calls w D iD kD none vD nD hD hp
 have f0:w.cell? ⟨S,0,none⟩=some (.pointer (some ⟨D,0,none⟩)):=(At_fields h).1
 have f1:w.cell? ⟨D,0,none⟩=some (.pointer none):=(At_fields hD).1
 have e1:nDoc=⟨#[35,100,111,99,117,109,101,110,116]⟩:=rfl
 rw [hn,e1] at CN
 have CN:=am CN
 clear h hD hp hn e1
 go_enter Tryz.func412,Tryz.ntmps412
 go_wp2
 go_loopg [3] 1 (fun gf v3 wx=>wx=w∧((v3=.pointer (some ⟨D,0,none⟩)∧gf=1)∨v3=.pointer none))
 case atStart=>exact ⟨rfl,.inl ⟨rfl,rfl⟩⟩
 case round=>
  obtain ⟨hw,hor⟩:=hrel
  subst hw
  rcases hor with ⟨rfl,rfl⟩|rfl
  ·go_wp2_with (go_at_call 72;fail)
   refine CN.out.mono ?_
   rintro e w1 ⟨rfl,hw⟩
   rw [hw]
   clear hw CN
   go_wp2
   go_roundg 0
   case measure=>omega
   case rel=>exact ⟨rfl,.inr rfl⟩
  ·go_wp2
   go_ret
   exact ⟨rfl,Below.refl _ _⟩
theorem attrOr_calls (w:World) (q:Nat) (h:w.cell? ⟨q,9,none⟩=some (.slice none 0 0)) (k f:ByteArray):
  Calls Tryz.prog 303 #[.pointer (some ⟨q,0,none⟩),.string k,.string f] w fun e w'=>e=.returned (.string f)∧w'=w:=by
 go_enter Tryz.func303,Tryz.ntmps303
 go_wp2
 refine wp_loop_once ?_
 go_wp2
 go_ret
 exact ⟨rfl,rfl⟩
theorem attr_calls (w:World) (q:Nat) (h:w.cell? ⟨q,9,none⟩=some (.slice none 0 0)) (k:ByteArray):
  Calls Tryz.prog 450 #[.pointer (some ⟨q,0,none⟩),.string k] w fun e w'=>e=.returned (.tuple #[.string ⟨#[]⟩,.bool false])∧w'=w:=by
 go_enter Tryz.func450,Tryz.ntmps450
 go_wp2
 refine wp_loop_once ?_
 go_wp2
 go_ret2
 exact ⟨rfl,rfl⟩
theorem numAttr_calls (w:World) (q:Nat) (h:w.cell? ⟨q,9,none⟩=some (.slice none 0 0)) (k:ByteArray) (f:Int):
  Calls Tryz.prog 440 #[.pointer (some ⟨q,0,none⟩),.string k,.int .i64 f] w fun e w'=>e=.returned (.int .i64 f)∧w'=w:=by
 have CA:=am (attr_calls w q h k)
 clear h
 go_enter Tryz.func440,Tryz.ntmps440
 go_wp2_with (go_at_call 450;fail)
 refine CA.out.mono ?_
 rintro e w1 ⟨rfl,hw⟩
 rw [hw]
 clear hw CA
 go_wp2
 go_ret
 exact ⟨rfl,rfl⟩
theorem noCaption_calls {w:World} {S:Nat} {i:NI} {kids:List DT} {par prev next:Option Nat} (h:Looked w (fun i=>i.atom=0) S i kids par prev next) (T:TypeId) (x:Value):
  Calls Tryz.prog 419 #[.iface T x,.pointer (some ⟨S,0,none⟩)] w fun e w'=>e=.returned (.slice none 0 0)∧Below w.heap.size w w':=by
 have hmf:∀ (fn:Fn) (first cap:Array Value) (w:World),(Instr.makeFunc fn first cap).run Tryz.prog w=.ok (.func fn first cap) w:=fun _ _ _ _=>rfl
 have C1:=findFirst_sel h matchesCaption
 have hnone:∀ l:List DT,DT.selL (fun _=>false) l=[]:=by
  have one:∀ t:DT,t.sel (fun _=>false)=[]:=by
   intro t
   induction t using DT.induct with
   |h b i kids IH=>
    have:∀ l:List DT,(∀ t∈l,t.sel (fun _=>false)=[])→DT.selL (fun _=>false) l=[]:=by
     intro l
     induction l with
     |nil=>intro _;rw [DT.selL]
     |cons t r ih=>intro hl;rw [DT.selL,hl t (List.mem_cons_self ..),ih (fun t ht=>hl t (List.mem_cons_of_mem _ ht))];rfl
    rw [DT.sel,this kids IH];rfl
  intro l
  induction l with
  |nil=>rw [DT.selL]
  |cons t r ih=>rw [DT.selL,one t,ih];rfl
 rw [hnone] at C1
 have C1:=am C1
 clear h hnone
 go_enter Tryz.func419,Tryz.ntmps419
 go_wp2_with (go_at_call 422;fail)
 refine C1.out.mono ?_
 rintro e w1 ⟨rfl,hb⟩
 have HB:=am hb
 have e0:pv ([]:List Nat).head?=.pointer none:=rfl
 rw [e0]
 clear hb
 go_wp2
 go_ret
 exact ⟨rfl,HB.out⟩
theorem getFirst_calls (w:World) (H:Nat) (v:Value):
  Calls Tryz.prog 434 #[.pointer (some ⟨H,0,none⟩),v] w fun e w'=>e=.returned (.pointer (some ⟨H,0,none⟩))∧w'=w:=by
 go_enter Tryz.func434,Tryz.ntmps434
 go_wp2
 go_ret
 exact ⟨rfl,rfl⟩
theorem own_ptrs {w:World} {base:Nat} {ok:Nat→Prop} {v:Value} {l:List Nat} (h:Kd.R ptrK 67 w base ok v l):(l=[]∧∃ c,v=.slice none 0 c)∨∃ g c,v=.slice (some ⟨g,0,none⟩) l.length c∧l.length≤c∧base≤g∧g < w.heap.size∧∀ (j:Nat) (hj:j < l.length),w.cell? ⟨g,j,none⟩=some (.pointer (some ⟨l[j],0,none⟩)):=by
 obtain ⟨_,inner,hown,hr⟩:=h
 have e:inner=l.map fun b=>pv (some b):=reps_scalar (enc:=fun b:Nat=>pv (some b)) hr
 subst e
 obtain ⟨h1,h2⟩:=hown
 rcases h2 with ⟨rfl,h0⟩|⟨g,cap,cur,rfl,hg,hh,hlc,hcm,hcs,htk⟩
 ·exact .inl ⟨List.eq_nil_of_length_eq_zero h0,0,rfl⟩
 ·refine .inr ⟨g,cap,rfl,hlc,hg,heap_lt hh,fun j hj=>?_⟩
  have h3:(cur.toList.take (l.length * 1))[j]?=some (pv (some l[j])):=by
   have:cur.toList.take (l.length * 1)=l.map fun b=>pv (some b):=htk
   rw [this,List.getElem?_map,List.getElem?_eq_getElem hj];rfl
  rw [List.getElem?_take] at h3
  split at h3
  ·simp [World.cell?,hh]
   simpa [pv] using h3
  ·rename_i hx
   exact absurd (by simpa using hj) hx
theorem infoStr:(Tryz.prog.info? 9).map (fun i=>(i.zero,i.size,i.bytes))=some (some (.string ⟨#[]⟩),1,16):=by kernel_rfl
theorem alignments_calls {w:World} {H:Nat} {i:NI} {kids:List DT} {par prev next:Option Nat} (h:Looked w (fun _=>True) H i kids par prev next) (ha:∀ c∈DT.selL qCell kids,w.cell? ⟨c,9,none⟩=some (.slice none 0 0)) (v0:Value):
  Calls Tryz.prog 418 #[.pointer (some ⟨H,0,none⟩),v0] w fun e w'=>∃ v,e=.returned v∧Kd.R Kd.string 9 w' w.heap.size (fun _=>True) v (List.replicate (DT.selL qCell kids).length ⟨#[]⟩)∧Below w.heap.size w w':=by
 have hmf:∀ (fn:Fn) (first cap:Array Value) (w:World),(Instr.makeFunc fn first cap).run Tryz.prog w=.ok (.func fn first cap) w:=fun _ _ _ _=>rfl
 have CG:=am (getFirst_calls w H v0)
 have C1:=am (findAll_sel h matchesCellA)
 have HL:=am (show (DT.selL qCell kids).length≤1000 by
  rw [← DT.selL_eq (w:=w) kids (fun t _=>DT.sel_eq t) H none h.at_.2]
  exact Nat.le_trans (List.length_filter_le _ _) (Nat.le_trans h.len (by decide)))
 have HA:=am ha
 clear h ha
 obtain ⟨L,hL⟩:∃ L,DT.selL qCell kids=L:=⟨_,rfl⟩
 rw [show DT.selL (fun i=>decide (i.nm=nTh∨i.nm=nTd)) kids=L from hL] at C1
 rw [hL] at HL HA ⊢
 clear hL
 go_enter Tryz.func418,Tryz.ntmps418
 go_wp2_with (go_at_call 434;fail)
 refine CG.out.mono ?_
 rintro e w1 ⟨rfl,hw⟩
 rw [hw]
 clear hw CG
 go_wp2_with (go_at_call 435;fail)
 refine C1.out.mono ?_
 rintro e w1 ⟨v,rfl,hr,hb⟩
 have HB:=am hb
 clear hb C1
 rcases own_ptrs hr with ⟨rfl,c,rfl⟩|⟨g,c,rfl,hlc,hbg,hgs,hcell⟩
 ·clear hr
  go_wp2
  refine wp_loop_once ?_
  go_wp2
  go_ret
  exact ⟨_,rfl,Kd.R_nil _ _ _ _ _,HB.out⟩
 ·have HC:=am hcell
  have HGS:=am hgs
  clear hr hcell hbg hgs
  go_wp2
  go_loopg [7,20] L.length (fun gf v7 v20 wx=>∃ (j:Nat),v20=.int .i64 (j:Int)∧Aside0 (j≤L.length∧L.length - j=gf)∧Aside0 (Kd.R Kd.string 9 wx w1.heap.size (fun _=>True) v7 (List.replicate j ⟨#[]⟩))∧Aside0 (Below w1.heap.size w1 wx))
  case atStart=>exact ⟨0,rfl,⟨by omega⟩,⟨Kd.R_nil _ _ _ _ _⟩,⟨Below.refl _ _⟩⟩
  case round=>
   obtain ⟨j,rfl,HP,HR,HBr⟩:=hrel
   by_cases hj:j < L.length
   ·have g0:wr.cell? ⟨g,j,none⟩=some (.pointer (some ⟨L[j],0,none⟩)):=cell_keep HBr.out (HC.out j hj)
    have HJ:=am hj
    have hlt:decide ((j:Int) < (L.length:Int))=true:=decide_eq_true (by omega)
    have hpp:=eq_true hj
    have hw1:wrap64 ((j:Int)+1)=((j+1:Nat):Int):=by have:=HL.out;unfold wrap64;omega
    have CA:=fun k f=>attrOr_calls wr L[j] (cell_keep ((HB.out.trans (HBr.out.mono HB.out.size))) (HA.out L[j] (List.getElem_mem hj))) k f
    obtain ⟨t,ht⟩:∃ t,L[j]=t:=⟨_,rfl⟩
    rw [ht] at CA g0
    have CA:=am CA
    clear hj ht
    go_wp2_with (go_at_call 303;fail)
    refine (CA.out _ _).mono ?_
    rintro e w2 ⟨rfl,hw⟩
    rw [hw]
    clear hw CA
    have HLj:=am (show (List.replicate j (⟨#[]⟩:ByteArray)).length≤1000 by rw [List.length_replicate];have:=HL.out;have:=HP.out;omega)
    obtain ⟨fl,hfl⟩:∃ fl,List.replicate j (⟨#[]⟩:ByteArray)=fl:=⟨_,rfl⟩
    rw [hfl] at HR HLj
    have HFL:=am hfl
    clear hfl
    go_wp2_with (first|(at_builtin;refine Kd.R_append Kd.string (w0:=w1) w1.heap.size rfl (.tmp _) (.tmp _) 98 9 (.string ⟨#[]⟩) 16 rfl Tryz.underlying98 infoStr rfl (by decide) (by omega) u7 fl ⟨#[]⟩ [.string ⟨#[]⟩] (fun _=>True) (fun _=>False) rfl rfl rfl (fun _ hk=>hk.elim) (fun _ _=>trivial) HR.out HBr.out (below_size HBr.out) (by have:=HLj.out;omega) ?_;intro v1 wn ho1 hb1 hg1 hat1;have HRN:=am ho1;have HBN:=am hb1;clear ho1 hb1 hg1 hat1)|fail)
    go_roundg (L.length - (j+1))
    case measure=>have:=HP.out;have:=HJ.out;omega
    case rel=>
     refine ⟨j+1,by rw [hw1],⟨by have:=HJ.out;omega⟩,⟨?_⟩,HBN⟩
     have:=HRN.out
     rw [← HFL.out] at this
     rw [List.replicate_succ']
     exact this
   ·have hlt:decide ((j:Int) < (L.length:Int))=false:=decide_eq_false (by omega)
    have hpp:=eq_false hj
    have HJ:=am hj
    clear hj
    go_wp2
    go_ret
    have e1:j=L.length:=by have:=HP.out;have:=HJ.out;omega
    have h1:=HR.out
    rw [e1] at h1
    exact ⟨_,rfl,Kd.R_lower h1 HB.out.size,HB.out.trans (HBr.out.mono HB.out.size)⟩
mutual
def DT.nrm (H:Nat):DT→List Nat
 |.node b i kids=>(if i.nm=nTr∧b≠H then [b] else [])++DT.nrmL H kids
def DT.nrmL (H:Nat):List DT→List Nat
 |[]=>[]
 |t::r=>t.nrm H++DT.nrmL H r
end
theorem DT.nrmL_append (H:Nat):∀ (a c:List DT),DT.nrmL H (a++c)=DT.nrmL H a++DT.nrmL H c
 |[],c=>by rw [DT.nrmL];rfl
 |t::r,c=>by rw [List.cons_append,DT.nrmL,DT.nrmL,DT.nrmL_append H r c,List.append_assoc]
def RowsOk (N H:Nat) (t:DT):Prop:=∀ (w:World) (par prev next:Option Nat) (Bh Bx Bf:Nat) (v:Value) (L:List Nat) (h:DT.At w par prev next t) (hN:t.Lt N) (hBh:Bh < N) (hBx:N≤Bx) (hc:Clear w H) (hHN:H < N) (hbh:w.cell? ⟨Bh,0,none⟩=some (.pointer (some ⟨H,0,none⟩))) (hbx:w.heap[Bx]?=some (.cells #[v] 338 (0,0))) (hR:Kd.R ptrK 67 w N (fun _=>True) v L)
 (hbf:w.heap[Bf]?=some (.cells #[.func (.func 428) #[] #[.pointer (some ⟨Bh,0,none⟩),.pointer (some ⟨Bx,0,none⟩),.pointer (some ⟨Bf,0,none⟩)]] 164 (0,0))) (hl:L.length+t.all.length≤1000) (hs:t.Shape),
 Calls Tryz.prog 428 #[.pointer (some ⟨t.blk,0,none⟩),.pointer (some ⟨Bh,0,none⟩),.pointer (some ⟨Bx,0,none⟩),.pointer (some ⟨Bf,0,none⟩)] w fun e w'=>e=.returned (.tuple #[])∧Below N w w' ∧
  w'.heap[Bf]?=some (.cells #[.func (.func 428) #[] #[.pointer (some ⟨Bh,0,none⟩),.pointer (some ⟨Bx,0,none⟩),.pointer (some ⟨Bf,0,none⟩)]] 164 (0,0))∧∃ v',w'.heap[Bx]?=some (.cells #[v'] 338 (0,0))∧Kd.R ptrK 67 w' N (fun _=>True) v' (L++t.nrm H)
theorem nrm_len (H:Nat) (t:DT):(t.nrm H).length≤t.all.length:=by
 induction t using DT.induct with
 |h b i kids IH=>
 have key:∀ l:List DT,(∀ t∈l,(t.nrm H).length≤t.all.length)→(DT.nrmL H l).length≤(DT.allL l).length:=by
  intro l
  induction l with
  |nil=>intro _;rw [DT.nrmL,DT.allL];exact Nat.le_refl _
  |cons t r ih=>
   intro h
   rw [DT.nrmL,DT.allL_cons,List.length_append,List.length_append]
   have:=h t (List.mem_cons_self ..)
   have:=ih (fun t ht=>h t (List.mem_cons_of_mem _ ht))
   omega
 have:=key kids IH
 rw [DT.nrm,DT.all,List.length_append,List.length_cons]
 split <;> simp <;> omega
theorem rows1_calls (N H:Nat) (t:DT):RowsOk N H t:=by
 induction t using DT.induct with
 |h b i kids IH=>
 intro w par prev next Bh Bx Bf v L h hN hBh hBx hc hHN hbh hbx hR hbf hl hs
 obtain ⟨A0,c0,rfl⟩:=Kd.R_slice hR
 have IH:=am IH
 have HN:=am hN
 have HX:=am hBx
 have HHN:=am hHN
 have HBH:=am hBh
 have HBX:=am hbx
 have HBF:=am hbf
 have HR:=am hR
 have HL:=am hl
 have HH:=am hbh
 have HC:=am hc
 have HS:=am hs
 have H1:=am h.1
 have HK:=am h.2
 have CN:=am (name_calls w b i kids par prev next h hs.1)
 have HNw:=am (Nat.le_of_lt (Nat.lt_of_le_of_lt hBx (heap_lt hbx)))
 have HLn:=am (show (L.length+1) * 8≤140737488355328 by have:=hl;rw [DT.all,List.length_cons] at this;omega)
 have hne:¬ b=Bx:=by have:=hN.1;omega
 have hne2:¬ Bx=b:=fun h=>hne h.symm
 have c1:=heap_cell hbx
 have z1:=heap_frozen hbx
 have f1:=(node_fields h.1).2.1
 have HFX:Aside0 (Bf≠Bx):=⟨by
  intro e
  have h1:=hbf
  rw [e,hbx] at h1
  injection h1 with h1
  injection h1 with _ h2 _
  exact absurd h2 (by decide)⟩
 have HPC:=am hs.1.cases
 have hclb:Clear w b:=⟨_,_,h.1⟩
 have HCB:=am hclb
 clear hN hBh hBx hc hHN hbx hR hbf hl hs hclb h
 show Calls Tryz.prog 428 #[.pointer (some ⟨b,0,none⟩),.pointer (some ⟨Bh,0,none⟩),.pointer (some ⟨Bx,0,none⟩),.pointer (some ⟨Bf,0,none⟩)] w _
 by_cases htr:i.nm=nTr
 ·have htr':i.nm=⟨#[116,114]⟩:=htr
  rw [htr'] at CN
  by_cases hbH:b=H
  ·have HQ:=am (show (if i.nm=nTr∧b≠H then [b] else [])=([]:List Nat) from if_neg fun h=>h.2 hbH)
   have hq:(binOp .neq 67 (.pointer (some ⟨b,0,none⟩)) (.pointer (some ⟨H,0,none⟩))).run Tryz.prog w=.ok (.bool false) w:=by
    rw [hbH];exact neq_of (equal_same w H)
   clear htr htr' HPC hbH
   go_enter Tryz.func428,Tryz.ntmps428
   go_wp2_with (go_at_call 72;fail)
   refine CN.out.mono ?_
   rintro e w1 ⟨rfl,hw⟩
   rw [hw]
   clear hw CN
   go_wp2
   clear hq c1 z1 hbh f1
   go_loopg [6] kids.length (fun gf v6 wx=>∃ (pr:Option Nat) (dn rest:List DT) (vv:Value),v6=pv (firstB rest)∧Aside0 (kids=dn++rest)∧Aside0 (Below N w wx)∧Aside0 (rest.length≤gf)∧Aside0 (KidsAt w b pr rest) ∧
    Aside0 (wx.heap[Bx]?=some (.cells #[vv] 338 (0,0)))∧Aside0 (Kd.R ptrK 67 wx N (fun _=>True) vv (L++(([]:List Nat)++DT.nrmL H dn)))∧Aside0 (wx.heap[Bf]?=some (.cells #[.func (.func 428) #[] #[.pointer (some ⟨Bh,0,none⟩),.pointer (some ⟨Bx,0,none⟩),.pointer (some ⟨Bf,0,none⟩)]] 164 (0,0))))
   case atStart=>
    exact ⟨none,[],kids,_,rfl,⟨rfl⟩,⟨Below.refl _ _⟩,⟨Nat.le_refl _⟩,HK,HBX,⟨by rw [DT.nrmL];simpa using HR.out⟩,HBF⟩
   case round=>
    obtain ⟨pr,dn,rest,vv,rfl,HD,HBw,HG,HKr,HXw,HRw,HFw⟩:=hrel
    cases rest with
    |nil=>
     have e:pv (firstB [])=.pointer none:=rfl
     rw [e]
     go_wp2
     go_end0
     have hd:=HD.out
     rw [List.append_nil] at hd
     subst hd
     exact ⟨rfl,HBw.out,HFw.out,vv,HXw.out,by rw [DT.nrm,HQ.out];exact HRw.out⟩
    |cons t r=>
     obtain ⟨ht,hr⟩:=HKr.out
     obtain ⟨g',rfl⟩:∃ g',gk=g'+1:=⟨gk - 1,by have:=HG.out;simp only [List.length_cons] at this;omega⟩
     have hm:t∈kids:=by rw [HD.out];exact List.mem_append_right _ (List.mem_cons_self ..)
     have hlt:t.Lt N:=HN.out.2.mem _ hm
     have e:pv (firstB (t::r))=.pointer (some ⟨t.blk,0,none⟩):=rfl
     rw [e]
     have c3:=heap_cell HFw.out
     have hcl:Clear wr H:=by
      obtain ⟨cc,tt,hh⟩:=HC.out
      exact ⟨cc,tt,by rw [HBw.out.block H HHN.out];exact hh⟩
     have hcb:wr.cell? ⟨Bh,0,none⟩=some (.pointer (some ⟨H,0,none⟩)):=by rw [World.cell?_of_block (HBw.out.block Bh HBH.out)];exact HH.out
     have CI:=am (IH.out t hm wr (some b) pr (firstB r) Bh Bx Bf vv (L++(([]:List Nat)++DT.nrmL H dn)) (DT.At.keepN HBw.out hlt ht) hlt HBH.out HX.out hcl HHN.out hcb HXw.out HRw.out HFw.out (by
      have:=HL.out
      rw [DT.all,HD.out,DT.allL_append,DT.allL_cons] at this
      have h3:(DT.nrmL H dn).length≤(DT.allL dn).length:=by
       clear this
       generalize dn=l
       induction l with
       |nil=>rw [DT.nrmL,DT.allL];exact Nat.le_refl _
       |cons t r ih=>
        rw [DT.nrmL,DT.allL_cons,List.length_append,List.length_append]
        have:=nrm_len H t
        omega
      simp only [List.length_append,List.length_cons,List.length_nil] at this ⊢
      omega) (HS.out.2.2.2.mem _ hm))
     have HT:=am ht
     have HR2:=am hr
     have HLT:=am hlt
     clear ht hr hm hlt hcl hcb
     go_wp2_with (go_at_call 428;fail)
     refine CI.out.mono ?_
     rintro e w1 ⟨rfl,hw,hf,v2,hx,hrr⟩
     have HW1:=am (HBw.out.trans hw)
     have HX2:=am hx
     have HF2:=am hf
     have HR3:=am hrr
     clear hw hf hx hrr c3
     have f4:w1.cell? ⟨t.blk,4,none⟩=some (pv (firstB r)):=At_next (DT.At.keepN HW1.out HLT.out HT.out)
     go_wp2
     go_roundg g'
     case measure=>omega
     case rel=>
      refine ⟨some t.blk,dn++[t],r,v2,rfl,⟨by rw [HD.out,List.append_assoc];rfl⟩,HW1,⟨by have:=HG.out;simp only [List.length_cons] at this;omega⟩,HR2,HX2,⟨?_⟩,HF2⟩
      have:=HR3.out
      rw [DT.nrmL_append,DT.nrmL,DT.nrmL,List.append_nil]
      simp only [List.append_assoc] at this ⊢
      exact this
  ·have HQ:=am (show (if i.nm=nTr∧b≠H then [b] else [])=[b] from if_pos ⟨htr,hbH⟩)
   have hq:(binOp .neq 67 (.pointer (some ⟨b,0,none⟩)) (.pointer (some ⟨H,0,none⟩))).run Tryz.prog w=.ok (.bool true) w:=neq_of (equal_other w b H hbH HCB.out HC.out)
   clear htr htr' HPC hbH
   go_enter Tryz.func428,Tryz.ntmps428
   go_wp2_with (go_at_call 72;fail)
   refine CN.out.mono ?_
   rintro e w1 ⟨rfl,hw⟩
   rw [hw]
   clear hw CN
   go_wp2_with (first|(at_builtin;(refine Kd.R_append ptrK (w0:=w) N rfl (.tmp _) (.tmp _) 338 67 (.pointer none) 8 rfl Tryz.underlying338 info92 rfl (by decide) (by omega) (.slice A0 L.length c0) L b [.pointer (some ⟨b,0,none⟩)] (fun _=>True) (fun _=>False) rfl rfl rfl (fun _ hk=>hk.elim) (fun _ _=>trivial) HR.out (Below.refl _ _) HNw.out HLn.out ?_;intro v1 w1 ho1 hb1 hg1 hat1;obtain ⟨A1,cp1,hv1⟩:=Kd.R_slice ho1;rw [List.length_append,List.length_singleton] at hv1;subst hv1;have HR1:=am ho1;have HB1:=am hb1;have HX1:=am (box_stays HBX.out HR.out (by decide) hg1);have HF1:=am (box_stays HBF.out HR.out (by decide) hg1);have k1:w1.cell? ⟨b,1,none⟩=some (pv (firstB kids)):=by { rw [World.cell?_of_block (hb1.block b HN.out.1)];exact (node_fields H1.out).2.1 };have k2:(w1.setCell ⟨Bx,0,none⟩ (.slice A1 (L.length+1) cp1)).cell? ⟨b,1,none⟩=some (pv (firstB kids)):=by { rw [World.cell?_setCell_far _ _ _ _ hne2];exact k1 };have c2:=heap_cell HX1.out;have z2:=heap_frozen HX1.out;clear ho1 hb1 hg1 hat1))|fail)
   clear hq c1 z1 hne hne2 hbh f1
   go_loopg [6] kids.length (fun gf v6 wx=>∃ (pr:Option Nat) (dn rest:List DT) (vv:Value),v6=pv (firstB rest)∧Aside0 (kids=dn++rest)∧Aside0 (Below N w wx)∧Aside0 (rest.length≤gf)∧Aside0 (KidsAt w b pr rest) ∧
    Aside0 (wx.heap[Bx]?=some (.cells #[vv] 338 (0,0)))∧Aside0 (Kd.R ptrK 67 wx N (fun _=>True) vv (L++([b]++DT.nrmL H dn)))∧Aside0 (wx.heap[Bf]?=some (.cells #[.func (.func 428) #[] #[.pointer (some ⟨Bh,0,none⟩),.pointer (some ⟨Bx,0,none⟩),.pointer (some ⟨Bf,0,none⟩)]] 164 (0,0))))
   case atStart=>
    refine ⟨none,[],kids,_,rfl,⟨rfl⟩,⟨HB1.out.setCell HX.out _⟩,⟨Nat.le_refl _⟩,HK,⟨heap_set HX1.out⟩,⟨?_⟩,⟨?_⟩⟩
    ·rw [DT.nrmL,List.append_nil];exact Kd.R_set HR1.out HX1.out (by decide) 0 _
    ·rw [Below.heap_setCell _ _ _ _ HFX.out];exact HF1.out
   case round=>
    obtain ⟨pr,dn,rest,vv,rfl,HD,HBw,HG,HKr,HXw,HRw,HFw⟩:=hrel
    cases rest with
    |nil=>
     have e:pv (firstB [])=.pointer none:=rfl
     rw [e]
     go_wp2
     go_end0
     have hd:=HD.out
     rw [List.append_nil] at hd
     subst hd
     exact ⟨rfl,HBw.out,HFw.out,vv,HXw.out,by rw [DT.nrm,HQ.out];exact HRw.out⟩
    |cons t r=>
     obtain ⟨ht,hr⟩:=HKr.out
     obtain ⟨g',rfl⟩:∃ g',gk=g'+1:=⟨gk - 1,by have:=HG.out;simp only [List.length_cons] at this;omega⟩
     have hm:t∈kids:=by rw [HD.out];exact List.mem_append_right _ (List.mem_cons_self ..)
     have hlt:t.Lt N:=HN.out.2.mem _ hm
     have e:pv (firstB (t::r))=.pointer (some ⟨t.blk,0,none⟩):=rfl
     rw [e]
     have c3:=heap_cell HFw.out
     have hcl:Clear wr H:=by
      obtain ⟨cc,tt,hh⟩:=HC.out
      exact ⟨cc,tt,by rw [HBw.out.block H HHN.out];exact hh⟩
     have hcb:wr.cell? ⟨Bh,0,none⟩=some (.pointer (some ⟨H,0,none⟩)):=by rw [World.cell?_of_block (HBw.out.block Bh HBH.out)];exact HH.out
     have CI:=am (IH.out t hm wr (some b) pr (firstB r) Bh Bx Bf vv (L++([b]++DT.nrmL H dn)) (DT.At.keepN HBw.out hlt ht) hlt HBH.out HX.out hcl HHN.out hcb HXw.out HRw.out HFw.out (by
      have:=HL.out
      rw [DT.all,HD.out,DT.allL_append,DT.allL_cons] at this
      have h3:(DT.nrmL H dn).length≤(DT.allL dn).length:=by
       clear this
       generalize dn=l
       induction l with
       |nil=>rw [DT.nrmL,DT.allL];exact Nat.le_refl _
       |cons t r ih=>
        rw [DT.nrmL,DT.allL_cons,List.length_append,List.length_append]
        have:=nrm_len H t
        omega
      simp only [List.length_append,List.length_cons,List.length_nil] at this ⊢
      omega) (HS.out.2.2.2.mem _ hm))
     have HT:=am ht
     have HR2:=am hr
     have HLT:=am hlt
     clear ht hr hm hlt hcl hcb
     go_wp2_with (go_at_call 428;fail)
     refine CI.out.mono ?_
     rintro e w1 ⟨rfl,hw,hf,v2,hx,hrr⟩
     have HW1:=am (HBw.out.trans hw)
     have HX2:=am hx
     have HF2:=am hf
     have HR3:=am hrr
     clear hw hf hx hrr c3
     have f4:w1.cell? ⟨t.blk,4,none⟩=some (pv (firstB r)):=At_next (DT.At.keepN HW1.out HLT.out HT.out)
     go_wp2
     go_roundg g'
     case measure=>omega
     case rel=>
      refine ⟨some t.blk,dn++[t],r,v2,rfl,⟨by rw [HD.out,List.append_assoc];rfl⟩,HW1,⟨by have:=HG.out;simp only [List.length_cons] at this;omega⟩,HR2,HX2,⟨?_⟩,HF2⟩
      have:=HR3.out
      rw [DT.nrmL_append,DT.nrmL,DT.nrmL,List.append_nil]
      simp only [List.append_assoc] at this ⊢
      exact this
 ·have HQ:=am (show (if i.nm=nTr∧b≠H then [b] else [])=([]:List Nat) from if_neg fun h=>htr h.1)
  rcases HPC.out with e|e|e|e|e|e|e|e|e
  case inr.inr.inr.inr.inr.inr.inl=>exact absurd e htr
  all_goals
   rw [e] at CN
   clear htr e
   go_enter Tryz.func428,Tryz.ntmps428
   go_wp2_with (go_at_call 72;fail)
   refine CN.out.mono ?_
   rintro e w1 ⟨rfl,hw⟩
   rw [hw]
   clear hw CN
   go_wp2
   clear c1 z1 hbh f1
   go_loopg [6] kids.length (fun gf v6 wx=>∃ (pr:Option Nat) (dn rest:List DT) (vv:Value),v6=pv (firstB rest)∧Aside0 (kids=dn++rest)∧Aside0 (Below N w wx)∧Aside0 (rest.length≤gf)∧Aside0 (KidsAt w b pr rest) ∧
    Aside0 (wx.heap[Bx]?=some (.cells #[vv] 338 (0,0)))∧Aside0 (Kd.R ptrK 67 wx N (fun _=>True) vv (L++(([]:List Nat)++DT.nrmL H dn)))∧Aside0 (wx.heap[Bf]?=some (.cells #[.func (.func 428) #[] #[.pointer (some ⟨Bh,0,none⟩),.pointer (some ⟨Bx,0,none⟩),.pointer (some ⟨Bf,0,none⟩)]] 164 (0,0))))
   case atStart=>
    exact ⟨none,[],kids,_,rfl,⟨rfl⟩,⟨Below.refl _ _⟩,⟨Nat.le_refl _⟩,HK,HBX,⟨by rw [DT.nrmL];simpa using HR.out⟩,HBF⟩
   case round=>
    obtain ⟨pr,dn,rest,vv,rfl,HD,HBw,HG,HKr,HXw,HRw,HFw⟩:=hrel
    cases rest with
    |nil=>
     have e:pv (firstB [])=.pointer none:=rfl
     rw [e]
     go_wp2
     go_end0
     have hd:=HD.out
     rw [List.append_nil] at hd
     subst hd
     exact ⟨rfl,HBw.out,HFw.out,vv,HXw.out,by rw [DT.nrm,HQ.out];exact HRw.out⟩
    |cons t r=>
     obtain ⟨ht,hr⟩:=HKr.out
     obtain ⟨g',rfl⟩:∃ g',gk=g'+1:=⟨gk - 1,by have:=HG.out;simp only [List.length_cons] at this;omega⟩
     have hm:t∈kids:=by rw [HD.out];exact List.mem_append_right _ (List.mem_cons_self ..)
     have hlt:t.Lt N:=HN.out.2.mem _ hm
     have e:pv (firstB (t::r))=.pointer (some ⟨t.blk,0,none⟩):=rfl
     rw [e]
     have c3:=heap_cell HFw.out
     have hcl:Clear wr H:=by
      obtain ⟨cc,tt,hh⟩:=HC.out
      exact ⟨cc,tt,by rw [HBw.out.block H HHN.out];exact hh⟩
     have hcb:wr.cell? ⟨Bh,0,none⟩=some (.pointer (some ⟨H,0,none⟩)):=by rw [World.cell?_of_block (HBw.out.block Bh HBH.out)];exact HH.out
     have CI:=am (IH.out t hm wr (some b) pr (firstB r) Bh Bx Bf vv (L++(([]:List Nat)++DT.nrmL H dn)) (DT.At.keepN HBw.out hlt ht) hlt HBH.out HX.out hcl HHN.out hcb HXw.out HRw.out HFw.out (by
      have:=HL.out
      rw [DT.all,HD.out,DT.allL_append,DT.allL_cons] at this
      have h3:(DT.nrmL H dn).length≤(DT.allL dn).length:=by
       clear this
       generalize dn=l
       induction l with
       |nil=>rw [DT.nrmL,DT.allL];exact Nat.le_refl _
       |cons t r ih=>
        rw [DT.nrmL,DT.allL_cons,List.length_append,List.length_append]
        have:=nrm_len H t
        omega
      simp only [List.length_append,List.length_cons,List.length_nil] at this ⊢
      omega) (HS.out.2.2.2.mem _ hm))
     have HT:=am ht
     have HR2:=am hr
     have HLT:=am hlt
     clear ht hr hm hlt hcl hcb
     go_wp2_with (go_at_call 428;fail)
     refine CI.out.mono ?_
     rintro e w1 ⟨rfl,hw,hf,v2,hx,hrr⟩
     have HW1:=am (HBw.out.trans hw)
     have HX2:=am hx
     have HF2:=am hf
     have HR3:=am hrr
     clear hw hf hx hrr c3
     have f4:w1.cell? ⟨t.blk,4,none⟩=some (pv (firstB r)):=At_next (DT.At.keepN HW1.out HLT.out HT.out)
     go_wp2
     go_roundg g'
     case measure=>omega
     case rel=>
      refine ⟨some t.blk,dn++[t],r,v2,rfl,⟨by rw [HD.out,List.append_assoc];rfl⟩,HW1,⟨by have:=HG.out;simp only [List.length_cons] at this;omega⟩,HR2,HX2,⟨?_⟩,HF2⟩
      have:=HR3.out
      rw [DT.nrmL_append,DT.nrmL,DT.nrmL,List.append_nil]
      simp only [List.append_assoc] at this ⊢
      exact this
mutual
theorem DT.Lt.more {N M:Nat} (hNM:N≤M):∀ {t:DT},t.Lt N→t.Lt M
 |.node b i kids,⟨h1,h2⟩=>⟨Nat.lt_of_lt_of_le h1 hNM,DT.LtL.more hNM h2⟩
theorem DT.LtL.more {N M:Nat} (hNM:N≤M):∀ {l:List DT},DT.LtL N l→DT.LtL M l
 |[],_=>trivial
 |t::r,⟨h1,h2⟩=>⟨DT.Lt.more hNM h1,DT.LtL.more hNM h2⟩
end
theorem normalRows_calls {w:World} {S H:Nat} {i:NI} {kids:List DT} {par prev next:Option Nat} (h:Looked w anyN S i kids par prev next) (hc:Clear w H) (hnm:i.nm≠nTr):
  Calls Tryz.prog 414 #[.pointer (some ⟨S,0,none⟩),.pointer (some ⟨H,0,none⟩)] w fun e w'=>∃ v,e=.returned v∧Kd.R ptrK 67 w' w.heap.size (fun _=>True) v (DT.nrmL H kids)∧Below w.heap.size w w':=by
 have hmf:∀ (fn:Fn) (first cap:Array Value) (w:World),(Instr.makeFunc fn first cap).run Tryz.prog w=.ok (.func fn first cap) w:=fun _ _ _ _=>rfl
 have HA:=am h
 have HC:=am hc
 have hnrm:DT.nrm H (.node S i kids)=DT.nrmL H kids:=by rw [DT.nrm,if_neg (fun h=>hnm h.1)];rfl
 have HNM:=am hnrm
 clear h hc hnm hnrm
 go_enter Tryz.func414,Tryz.ntmps414
 go_wp2_with (go_at_call 428;fail)
 obtain ⟨u1,hu1⟩:∃ u1,w.alloc (.cells #[.pointer (some ⟨H,0,none⟩)] 67)=u1:=⟨_,rfl⟩
 obtain ⟨u2,hu2⟩:∃ u2,u1.alloc (.cells #[.slice none 0 0] 338)=u2:=⟨_,rfl⟩
 have s1:u1.heap.size=w.heap.size+1:=by rw [← hu1];exact alloc_size _ _
 have s2:u2.heap.size=w.heap.size+1+1:=by rw [← hu2,alloc_size,s1]
 have b1:Below w.heap.size w u1:=by rw [← hu1];exact (Below.refl _ w).alloc (Nat.le_refl _) _
 have b2:Below u1.heap.size u1 u2:=by rw [← hu2];exact (Below.refl _ u1).alloc (Nat.le_refl _) _
 obtain ⟨u3,hu3⟩:∃ u3,u2.alloc (.cells #[.func (.func 428) #[] #[.pointer (some ⟨w.heap.size,0,none⟩),.pointer (some ⟨w.heap.size+1,0,none⟩),.pointer (some ⟨w.heap.size+1+1,0,none⟩)]] 164)=u3:=⟨_,rfl⟩
 have b3:Below u2.heap.size u2 u3:=by rw [← hu3];exact (Below.refl _ u2).alloc (Nat.le_refl _) _
 have b03:Below w.heap.size w u3:=(b1.trans (b2.mono (by omega))).trans (b3.mono (by omega))
 have hbox1:u3.cell? ⟨w.heap.size,0,none⟩=some (.pointer (some ⟨H,0,none⟩)):=by
  refine cell_keep (b2.trans (b3.mono (by omega))) ?_
  rw [← hu1];exact box_cell w _ _
 have hbox2:u3.heap[w.heap.size+1]?=some (.cells #[.slice none 0 0] 338 (0,0)):=by
  rw [b3.block _ (by omega),← s1,← hu2];exact alloc_new _ _
 have hbox3:u3.heap[w.heap.size+1+1]?=some (.cells #[.func (.func 428) #[] #[.pointer (some ⟨w.heap.size,0,none⟩),.pointer (some ⟨w.heap.size+1,0,none⟩),.pointer (some ⟨w.heap.size+1+1,0,none⟩)]] 164 (0,0)):=by
  rw [← s2,← hu3,s2];rw [← s2];exact alloc_new _ _
 rw [hu1,hu2,hu3]
 have hlt:H < w.heap.size:=by
  obtain ⟨cc,tt,hh⟩:=HC.out
  exact heap_lt hh
 refine (rows1_calls (w.heap.size+1) H (.node S i kids) u3 par prev next w.heap.size (w.heap.size+1) (w.heap.size+1+1) (.slice none 0 0) [] (DT.At.keep b03 HA.out.at_) ?_ (by omega) (Nat.le_refl _) (HC.out.keep b03) (by omega) hbox1 hbox2 (Kd.R_nil _ _ _ _ _) hbox3 ?_ HA.out.shape).mono ?_
 ·have:=DT.At.lt HA.out.at_
  exact DT.Lt.more (by omega) this
 ·have:=HA.out.len
  rw [DT.all]
  simp only [List.length_cons,List.length_nil]
  omega
 ·rintro e w1 ⟨rfl,hw,hf,v2,hx,hrr⟩
  rw [List.nil_append,HNM.out] at hrr
  obtain ⟨A,c,rfl⟩:=Kd.R_slice hrr
  have HW:=am (b03.trans (hw.mono (by omega)))
  have HR:=am hrr
  have HX:=am hx
  have c1:=heap_cell hx
  have z1:=heap_frozen hx
  clear hw hf hx hrr b1 b2 b3 b03 hbox1 hbox2 hbox3 hu1 hu2 hu3 s1 s2
  go_wp2
  go_ret
  exact ⟨_,rfl,Kd.R_lower HR.out (by omega),HW.out⟩
theorem replaceT_same (bs:List UInt8) (a b:ByteArray) (h3:bs.length≤4000000000000) (ha:0 < a.size∧a.size≤10) (hno:∀ i,i < bs.length→(bs.take (i+a.size)).drop i≠a.data.toList):
  ∀ (k i:Nat),i≤bs.length→bs.length - i < k→PzzReplaceTable.table_zzReplaceBytes.l0 k (bytesI bs) a b (bytesI (bs.take i)) (i:Int)=some (bytesI bs):=by
 intro k
 induction k with
 |zero=>intro i _ h;omega
 |succ k ih=>
  intro i hi hk
  have hw1:wrap64 ((i:Int)+(a.size:Int))=((i+a.size:Nat):Int):=by unfold wrap64;omega
  have hw2:wrap64 ((i:Int)+1)=((i+1:Nat):Int):=by unfold wrap64;omega
  unfold PzzReplaceTable.table_zzReplaceBytes.l0
  by_cases hlt:i < bs.length
  ·have e1:=bytesI_snocL bs i hlt
   have e2:=ih (i+1) (by omega) (by omega)
   have hn:¬ ((strOfNums (((bytesI bs).take (((i+a.size:Nat):Int)).toNat).drop ((i:Int)).toNat)).toList=a.toList):=by
    simp only [Int.toNat_natCast]
    rw [bytesI_take,bytesI_drop,strOf_list,ByteArray.toList_eq]
    exact hno i hlt
   have hl:(bytesI (bs.take i)).length < 140737488355328:=by rw [bytesI_length,List.length_take];omega
   rw [hw1,hw2,← e1,e2,if_pos (by rw [bytesI_length];omega)]
   simp only [hn,hl,if_false,if_true]
   have p1:(0:Int)≤(i:Int):=by omega
   have p2:(i:Int)≤((i+a.size:Nat):Int):=by omega
   simp only [p1,p2,if_true,ite_self]
  ·have e:i=bs.length:=by omega
   rw [if_neg (by rw [bytesI_length];omega),e,List.take_length]
theorem replaceTable_calls (w:World) (A0:Option Addr) (c0:Nat) (bs:List UInt8) (x:UInt8) (t:List UInt8) (b:ByteArray) (hr0:Kd.C (Kd.int .u8) w A0 (bytesI bs).length (bytesI bs)) (hc0:(bytesI bs).length≤c0) (h300:bs.length≤4000000000000) (ht:t.length≤9)
  (hs:∀ i:Nat,bs[i]?≠some x):
  Calls Tryz.prog 417 #[.slice A0 (bytesI bs).length c0,.string ⟨(x::t).toArray⟩,.string b] w fun e w'=>(∃ v,e=.returned v∧w'.ownsRow w.heap.size 5 1 v bs.length (nums .u8 (bytesI bs)))∧Below w.heap.size w w':=by
 have h1:=replaceT_same bs (⟨(x::t).toArray⟩:ByteArray) b h300 (by constructor <;> simp [ByteArray.size] <;> omega) (fun i _=>no_byte bs x hs i _ _) (bs.length+1) 0 (Nat.zero_le _) (by omega)
 refine (PzzReplaceTable.table_zzReplaceBytes.calls (bs.length+1) A0 c0 (bytesI bs) _ b (bytesI bs) w hr0 hc0 h1).mono ?_
 rintro e w' ⟨v,rfl,ho,hb⟩
 refine ⟨⟨v,rfl,?_⟩,hb⟩
 have:=Kd.own_of_R ho
 rw [bytesI_length] at this
 exact this
theorem bufBytes_calls {N:Nat} {w:World} {b:Nat} {l:List UInt8} (h:Sink N w b l) (hl:l.length≤4000000000000):
  Calls Tryz.prog 54 #[.pointer (some ⟨b,0,none⟩)] w fun e w'=>(∃ A c,e=.returned (.slice A l.length c)∧(bytesI l).length≤c∧Kd.C (Kd.int .u8) w A (bytesI l).length (bytesI l))∧Below w.heap.size w w':=by
 have mixed:Tryz.prog.follows .mixedOrders=true:=by kernel_rfl
 have HD:=am (below_drew (Below.refl w.heap.size w))
 obtain ⟨v,h1,h2,h3⟩:=h.at_
 rcases h1.2 with ⟨rfl,rfl⟩|⟨hne,g,cap,cur,rfl,hgb,hg,hcs,hlc,hcm,htk⟩
 ·obtain ⟨c0,c1,c2,f0,f1,f2⟩:=cell_at h2
  have d0:w.drew.cell? ⟨b,0,none⟩=some (.slice none 0 0):=c0
  have d1:w.drew.cell? ⟨b,1,none⟩=some (.int .i64 0):=c1
  clear h h1 h2 h3
  go_enter Tryz.func54,Tryz.ntmps54
  go_wp2
  go_region_with_o (fail)
  all_goals
   go_wp2
   go_ret
   exact ⟨⟨_,_,rfl,Nat.zero_le _,rfl,by decide,fun h=>absurd h (by decide)⟩,HD.out⟩
 ·obtain ⟨c0,c1,c2,f0,f1,f2⟩:=cell_at h2
  have d0:w.drew.cell? ⟨b,0,none⟩=some (.slice (some ⟨g,0,none⟩) l.length cap):=c0
  have d1:w.drew.cell? ⟨b,1,none⟩=some (.int .i64 0):=c1
  have HG:=am hg
  have HTK:=am htk
  have HLC:=am hlc
  have HL4:=am hl
  clear h h1 h2 h3 hg htk hne
  go_enter Tryz.func54,Tryz.ntmps54
  go_wp2
  go_region_with_o (fail)
  all_goals
   go_wp2
   go_ret
   refine ⟨⟨_,_,rfl,by rw [bytesI_length];exact HLC.out,?_⟩,HD.out⟩
   refine C_mk (b:=g) (o:=0) (by have:=HL4.out;omega) ?_
   intro j hj
   have h3:(cur.toList.take l.length)[j]?=some (.int .u8 (l[j].toNat:Int)):=by
    rw [HTK.out]
    simp [bc,hj]
   rw [List.getElem?_take,if_pos hj] at h3
   have hg':w.heap[g]?=some (.cells cur 5 (0,0)):=HG.out
   show w.cell? ⟨g,0+j,none⟩=_
   simp [World.cell?,hg']
   simpa using h3
theorem calcMods_calls (w:World) (r c:Int) (v:Value):
  Calls Tryz.prog 441 #[.int .i64 r,.int .i64 c,.int .i64 1,.int .i64 1,v] w fun e w'=>e=.returned (.slice (some ⟨w.heap.size,0,none⟩) 0 0)∧Below w.heap.size w w':=by
 have hmk:(Instr.makeSlice 445 (.int .i64 0) (.int .i64 0)).run Tryz.prog w=_:=run_make (P:=Tryz.prog) (w:=w) 445 460 _ _ (by rfl) (by rfl) (by rfl) .i64 .i64 0 0 (by decide) (by decide) (by decide) (by decide)
 go_enter Tryz.func441,Tryz.ntmps441
 go_wp2
 go_ret
 exact ⟨rfl,(Below.refl _ _).alloc (Nat.le_refl _) _⟩
def emptyW (w:World):World:=(w.alloc (.cells #[] 5)).freeze ⟨w.heap.size,0,none⟩ 1
theorem emptyW_below (w:World):Below w.heap.size w (emptyW w):=by
 have h:=(Below.refl w.heap.size w).alloc (Nat.le_refl _) (.cells #[] 5)
 refine h.trans ?_
 refine ⟨rfl,rfl,rfl,?_,?_⟩
 ·simp [emptyW,World.freeze]
 ·intro k hk
  simp only [emptyW,World.freeze]
  rw [if_neg (by decide)]
  simp only []
  rw [Array.getElem?_modify,if_neg (by omega)]
theorem conv_empty (w:World):(convert 62 62 (.slice (some ⟨w.heap.size,0,none⟩) 0 0)).run Tryz.prog (w.alloc (.cells #[] 5))=.ok (.slice (some ⟨w.heap.size,0,none⟩) 0 0) (emptyW w):=by
 have hsh:(w.alloc (.cells #[] 5)).shape? w.heap.size=some (5,0):=by simp [World.shape?,World.alloc,-World.alloc_eq]
 simp [convert,run_underlying Tryz.underlying62,run_underlying Tryz.underlying5,markStringish,hsh,emptyW]
theorem merged_calls (w:World) (tp:Nat) (s:ByteArray) (h:w.cell? ⟨tp,1,none⟩=some (.string s)) (A:Option Addr) (l c:Nat):
  Calls Tryz.prog 442 #[.pointer (some ⟨tp,0,none⟩),.slice A l c] w fun e w'=>(∃ v,e=.returned v)∧Below w.heap.size w w':=by
 cases hm:(s.toList==[109,105,114,114,111,114]) with
 |true=>
  go_enter Tryz.func442,Tryz.ntmps442
  go_wp2
  go_ret
  exact ⟨⟨_,rfl⟩,Below.refl _ _⟩
 |false=>
  have hcv:=conv_empty w
  go_enter Tryz.func442,Tryz.ntmps442
  go_wp2
  go_ret
  exact ⟨⟨_,rfl⟩,emptyW_below w⟩
theorem renderOne_calls {N X C cm tp bs:Nat} {tab:Nat→Int} {po:PO} {w:World} {b:Nat} {l:List UInt8} (t:DT) (txt:List UInt8) (hR:Rend N X C cm tp bs tab po t txt) (hx:Cx N w X C cm tp bs tab po) (hs:Sink N w b l) (hlim:l.length+txt.length≤4000000000000) (hlt:t.Lt N) {par prev next:Option Nat} (hT:DT.At w par prev next t)
  (g:Nat) (hg:w.cell? ⟨g,0,none⟩=some (.pointer (some ⟨t.blk,0,none⟩))) (hgl:g < w.heap.size) (hne:g≠b) (hfree:∀ v x y T,w.heap[b]?=some (.cells #[v,x,y] T (0,0))→v.ownBlock≠some g):
  Calls Tryz.prog 465 #[.pointer (some ⟨X,0,none⟩),.iface 187 (.pointer (some ⟨X,0,none⟩)),.iface 148 (.pointer (some ⟨b,0,none⟩)),.slice (some ⟨g,0,none⟩) 1 1] w fun e w'=>e=.returned (.tuple #[])∧Pours w w' b l (l++txt):=by
 have c1:=hx.now.conv
 have CN:=renderNodes_calls [t] [txt] (.cons hR .nil) hx hs (by simpa using hlim) (by simp) (fun u hu=>by
  rw [List.mem_singleton] at hu
  subst hu
  exact ⟨hlt,par,prev,next,hT⟩) g 1 ⟨hgl,hne,hfree,fun j hj=>by
   have:j=0:=by simp at hj;omega
   subst this
   exact hg⟩ (by simp)
 simp only [List.flatten_cons,List.flatten_nil,List.append_nil,List.length_cons,List.length_nil,Nat.zero_add] at CN
 have CN:=am CN
 clear hR hx hs hlim hlt hT hg hgl hne hfree
 go_enter Tryz.func465,Tryz.ntmps465
 go_wp2_with (go_at_call 471;fail)
 refine CN.out.mono ?_
 rintro e w1 ⟨rfl,hp⟩
 have HP:=am hp
 clear hp
 go_wp2
 go_end0
 exact ⟨rfl,HP.out⟩
end Go.Proofs.YtbheflncgmhadaaGreat.Hand
namespace Go.Proofs.YtbheflncgmhadaaGreat.Hand
open Go.RowKit Go.Proofs.YtbheflncgmhadaaGreatW.PrintWords Go.Proofs.YtbheflncgmhadaaGreatW.PrintLast Go.Proofs.YtbheflncgmhadaaGreatW.PrintMore
theorem C_at {w:World} {ad:Addr} {bs:List UInt8} (h63:bs.length≤9223372036854775806) (h:∀ j (hj:j < bs.length),w.cell? (ad.add j)=some (.int .u8 (bs[j].toNat:Int))):
  Kd.C (Kd.int .u8) w (some ad) (bytesI bs).length (bytesI bs):=by
 refine ⟨rfl,by rw [bytesI_length];omega,fun _=>⟨_,rfl,fun j p hp=>?_⟩⟩
 have hj:j < bs.length:=by
  have:=(List.getElem?_eq_some_iff.1 hp).1
  rwa [bytesI_length] at this
 have hv:p=(bs[j].toNat:Int):=by
  simp [bytesI,hj] at hp
  exact hp.symm
 refine ⟨[.int .u8 p],rfl,rfl,fun i u hi=>?_⟩
 cases i with
 |zero=>
  simp at hi
  subst hi
  change w.cell? (ad.add (j * 1+0))=_
  rw [Nat.mul_one,Nat.add_zero,h j hj,hv]
 |succ i=>simp at hi
theorem trims_C {w:World} {tab:Nat→Int} {A0:Option Addr} {c0:Nat} {bs:List UInt8} {v:Value} (h:Trims tab A0 c0 bs v) (hr0:Kd.C (Kd.int .u8) w A0 (bytesI bs).length (bytesI bs)) (hc0:(bytesI bs).length≤c0) (h63:bs.length≤4000000000000):
  ∃ A c,v=.slice A (trimBy (marked tab) bs).length c∧(bytesI (trimBy (marked tab) bs)).length≤c∧Kd.C (Kd.int .u8) w A (bytesI (trimBy (marked tab) bs)).length (bytesI (trimBy (marked tab) bs)):=by
 rcases trims_reads h hr0 hc0 with ⟨rfl,h0⟩|⟨ad,i,c,rfl,rfl,h1,h2,h3,rfl,h4⟩
 ·rw [h0]
  exact ⟨none,0,rfl,Nat.zero_le _,rfl,by decide,fun h=>absurd h (by decide)⟩
 ·refine ⟨_,_,rfl,by rw [bytesI_length] at hc0 ⊢;omega,C_at (by omega) ?_⟩
  intro j hj
  rw [add_add]
  have hb:=at_byte hr0 (i+j) (by omega)
  rw [hb]
  have e:(trimBy (marked tab) bs)[j]=bs[i+j]'(by omega):=by
   have h5:=congrArg (fun l:List UInt8=>l[j]?) h4
   simp only [List.getElem?_drop,List.getElem?_take] at h5
   rw [List.getElem?_eq_getElem hj,if_pos (by omega),List.getElem?_eq_getElem (by omega)] at h5
   exact Option.some.inj h5
  rw [e]
theorem trimBy_sub {p:UInt8→Bool} (bs:List UInt8):∀ x∈trimBy p bs,x∈bs:=by
 intro x hx
 unfold trimBy at hx
 have h1:=(List.dropWhile_sublist p).mem (List.mem_reverse.1 hx)
 exact (List.dropWhile_sublist p).mem (List.mem_reverse.1 h1)
theorem trimBy_len {p:UInt8→Bool} (bs:List UInt8):(trimBy p bs).length≤bs.length:=by
 unfold trimBy
 rw [List.length_reverse]
 refine Nat.le_trans (List.dropWhile_sublist p).length_le ?_
 rw [List.length_reverse]
 exact (List.dropWhile_sublist p).length_le
theorem new_sink (w:World) (N:Nat) (hN:N≤w.heap.size):Sink N (w.alloc (.cells #[.slice none 0 0,.int .i64 0,.int .i8 0] 145)) w.heap.size []:=
 ⟨hN,.slice none 0 0,⟨⟨0,alloc_new _ _⟩,.inl ⟨rfl,rfl⟩⟩,alloc_new _ _,fun g hg=>by cases hg⟩
theorem info62:(Tryz.prog.info? 62).map (fun i=>(i.zero,i.size,i.bytes))=some (some (.slice none 0 0),1,24):=by kernel_rfl
abbrev bytesK:Kd (List Int):=Kd.slice 5 (Kd.int .u8)
theorem cell_M {w:World} {base B:Nat} {v:Value} {bs:List UInt8} (h:w.ownsRow B 5 1 v bs.length (nums .u8 (bytesI bs))) (hB:base≤B):bytesK.M w base (fun k=>B≤k∧k < w.heap.size) (bytesI bs) [v]:=by
 refine ⟨v,rfl,Kd.R_of_own (by rw [bytesI_length];exact own_weaken h hB) ?_⟩
 intro k hk
 exact ⟨own_base h k hk,own_lt h k hk⟩
end Go.Proofs.YtbheflncgmhadaaGreat.Hand
namespace Go.Proofs.YtbheflncgmhadaaGreat.Hand
open Go.RowKit Go.Proofs.YtbheflncgmhadaaGreatW.PrintWords Go.Proofs.YtbheflncgmhadaaGreatW.PrintLast Go.Proofs.YtbheflncgmhadaaGreatW.PrintMore
attribute [local go_sem] run_store_func'
theorem infoMod:∃ j,Tryz.prog.info? 460=some j:=by
 have h:(Tryz.prog.info? 460).isSome=true:=by kernel_rfl
 exact Option.isSome_iff_exists.1 h
theorem append_zero (A A2:Option Addr) (c c2:Nat) (w:World) (ty:TypeId):(Builtin.append_ #[445,445] ty #[.slice A 0 c,.slice A2 0 c2]).run Tryz.prog w=.ok (.slice A 0 c) w:=by
 obtain ⟨j,hj⟩:=infoMod
 cases A <;> cases A2 <;> simp [Builtin.append_,run_underlying Tryz.underlying445,sizeOf,typeInfo,hj,Builtin.lenOf,Builtin.firstCells,loadCells,loadCellsFrom,storeCells]
theorem own_slice {w:World} {B:Nat} {v:Value} {bs:List UInt8} (h:w.ownsRow B 5 1 v bs.length (nums .u8 (bytesI bs))):∃ A c,v=.slice A bs.length c∧(bytesI bs).length≤c∧Kd.C (Kd.int .u8) w A (bytesI bs).length (bytesI bs):=by
 have hR:=Kd.R_of_own (enc:=Value.int .u8) (h1:=fun _=>rfl) (xs:=bytesI bs) (ok:=fun _=>True) (by rw [bytesI_length];exact h) (fun _ _=>trivial)
 obtain ⟨A,c,h1,h2,h3⟩:=Kd.R_reads hR
 rw [bytesI_length] at h1
 exact ⟨A,c,h1,h2,h3⟩
structure CellOk (N X C cm tp bs:Nat) (tab:Nat→Int) (po:PO) (w:World) (p:DT×List UInt8):Prop where
 rend:Rend N X C cm tp bs tab po p.1 p.2
 lt:p.1.Lt N
 at_:∃ par prev next,DT.At w par prev next p.1
 attr:w.cell? ⟨p.1.blk,9,none⟩=some (.slice none 0 0)
 words:∀ x∈p.2,Wordy (x.toNat:Int)
 len:p.2.length≤2147483647
theorem CellOk.keep {N X C cm tp bs:Nat} {tab:Nat→Int} {po:PO} {w w1:World} {p:DT×List UInt8} (h:CellOk N X C cm tp bs tab po w p) (hb:Below w.heap.size w w1):CellOk N X C cm tp bs tab po w1 p:=
 ⟨h.rend,h.lt,by obtain ⟨a,b,c,hh⟩:=h.at_;exact ⟨a,b,c,DT.At.keep hb hh⟩,cell_keep hb h.attr,h.words,h.len⟩
theorem renderNew_calls {N X C cm tp bs:Nat} {tab:Nat→Int} {po:PO} {wr:World} (hx:Cx N wr X C cm tp bs tab po) {p:DT×List UInt8} (hp:CellOk N X C cm tp bs tab po wr p):
  Calls Tryz.prog 465 #[.pointer (some ⟨X,0,none⟩),.iface 187 (.pointer (some ⟨X,0,none⟩)),.iface 148 (.pointer (some ⟨wr.heap.size,0,none⟩)),.slice (some ⟨wr.heap.size+1,0,none⟩) 1 1]
   ((wr.alloc (.cells #[.slice none 0 0,.int .i64 0,.int .i8 0] 145)).alloc (.cells #[.pointer (some ⟨p.1.blk,0,none⟩)] 67)) fun e w'=>e=.returned (.tuple #[])∧Below wr.heap.size wr w'∧Sink wr.heap.size w' wr.heap.size p.2:=by
 have s1:=alloc_size wr (.cells #[.slice none 0 0,.int .i64 0,.int .i8 0] 145)
 have b1:Below wr.heap.size wr (wr.alloc (.cells #[.slice none 0 0,.int .i64 0,.int .i8 0] 145)):=(Below.refl _ wr).alloc (Nat.le_refl _) _
 have k1:=new_sink wr N hx.le
 have k2:=new_sink wr wr.heap.size (Nat.le_refl _)
 generalize wr.alloc (.cells #[.slice none 0 0,.int .i64 0,.int .i8 0] 145)=u1 at *
 have b2:Below u1.heap.size u1 (u1.alloc (.cells #[.pointer (some ⟨p.1.blk,0,none⟩)] 67)):=(Below.refl _ u1).alloc (Nat.le_refl _) _
 have s2:=alloc_size u1 (.cells #[.pointer (some ⟨p.1.blk,0,none⟩)] 67)
 have hbox:=box_cell u1 (.pointer (some ⟨p.1.blk,0,none⟩)) 67
 rw [s1] at hbox
 have hno:=k1.noOwn (g:=wr.heap.size+1) (by omega)
 generalize u1.alloc (.cells #[.pointer (some ⟨p.1.blk,0,none⟩)] 67)=u2 at *
 have b12:Below wr.heap.size wr u2:=b1.trans (b2.mono (by omega))
 obtain ⟨pa,pv',pn,hat⟩:=(hp.keep b12).at_
 refine (renderOne_calls p.1 p.2 hp.rend (hx.keep (b12.mono hx.le)) (k1.keep b2) (by have:=hp.len;simp;omega) hp.lt hat (wr.heap.size+1) hbox (by omega) (by omega) (fun v x y T h=>hno v x y T (by rw [← b2.block _ (by omega)];exact h))).mono ?_
 rintro e w' ⟨rfl,hpo⟩
 rw [List.nil_append] at hpo
 exact ⟨rfl,b12.trans (hpo.below (k2.keep b2)),hpo.sink (k2.keep b2)⟩
theorem method_rn (p:Option Addr) (w:World):(method 581 187 (.pointer p) "RenderNodes").run Tryz.prog w=.ok (465,.pointer p) w:=by kernel_rfl
theorem method_ue (p:Option Addr) (w:World):(method 581 187 (.pointer p) "UnEscapeContent").run Tryz.prog w=.ok (466,.pointer p) w:=by kernel_rfl
def cellsOut (tab:Nat→Int) (l:List (DT×List UInt8)):List (List Int):=l.map fun p=>bytesI (trimBy (marked tab) p.2)
theorem cellsInRow_calls {N X C cm tp bs:Nat} {tab:Nat→Int} {po:PO} {w:World} (hx:Cx N w X C cm tp bs tab po) {R:Nat} {i:NI} {kids:List DT} {par prev next:Option Nat} (h:Looked w anyN R i kids par prev next) (cells:List (DT×List UInt8)) (hsel:DT.selL qCell kids=cells.map fun p=>p.1.blk) (hc:∀ p∈cells,CellOk N X C cm tp bs tab po w p) (ri:Int):
  Calls Tryz.prog 429 #[.pointer (some ⟨tp,0,none⟩),.iface 187 (.pointer (some ⟨X,0,none⟩)),.int .i64 ri,.pointer (some ⟨R,0,none⟩)] w fun e w'=>∃ v A c,e=.returned (.tuple #[v,.slice A 0 c])∧Kd.R bytesK 62 w' w.heap.size (fun _=>True) v (cellsOut tab cells)∧Below w.heap.size w w':=by
 have hmf:∀ (fn:Fn) (first cap:Array Value) (w:World),(Instr.makeFunc fn first cap).run Tryz.prog w=.ok (.func fn first cap) w:=fun _ _ _ _=>rfl
 have C1:=am (findAll_sel h matchesCellR)
 have HL:=am (show cells.length≤1000 by
  have h1:(DT.selL qCell kids).length≤999:=by
   rw [← DT.selL_eq (w:=w) kids (fun t _=>DT.sel_eq t) R none h.at_.2]
   exact Nat.le_trans (List.length_filter_le _ _) h.len
  rw [hsel,List.length_map] at h1
  omega)
 rw [show DT.selL (fun i=>decide (i.nm=nTh∨i.nm=nTd)) kids=cells.map fun p=>p.1.blk from hsel] at C1
 have HX:=am hx
 have HC:=am hc
 clear h hc hx hsel
 go_enter Tryz.func429,Tryz.ntmps429
 go_wp2_with (go_at_call 435;fail)
 refine C1.out.mono ?_
 rintro e w1 ⟨v,rfl,hr,hb⟩
 have HB:=am hb
 clear hb C1
 have hcase:=own_ptrs hr
 have hlm:(cells.map fun p=>p.1.blk).length=cells.length:=List.length_map ..
 obtain ⟨A,c,hv,hlc,hcell⟩:∃ A c,v=.slice A cells.length c∧cells.length≤c∧(cells.length≠0→∃ g,A=some ⟨g,0,none⟩∧∀ (j:Nat) (hj:j < cells.length),w1.cell? ⟨g,j,none⟩=some (.pointer (some ⟨cells[j].1.blk,0,none⟩))):=by
  rcases hcase with ⟨h0,c,rfl⟩|⟨g,c,rfl,hlc,hbg,hgs,hcell⟩
  ·have h00:cells=[]:=by cases cells with|nil=>rfl|cons a b=>cases h0
   subst h00
   exact ⟨none,c,rfl,Nat.zero_le _,fun h=>absurd rfl h⟩
  ·exact ⟨some ⟨g,0,none⟩,c,by rw [hlm],by rw [← hlm];exact hlc,fun _=>⟨g,rfl,fun j hj=>by
    have:=hcell j (by simpa using hj)
    simpa using this⟩⟩
 subst hv
 have HCL:=am hcell
 clear hr hcase hcell hlm
 obtain ⟨i0,hi0,hz0,hsz0,hby0⟩:=info_parts info62
 obtain ⟨W1,hmk1,hown1,hg1⟩:=run_make_own (P:=Tryz.prog) w1 w1.heap.size 354 62 i0 _ 1 Tryz.underlying354 hi0 hz0 hsz0 .i64 .i64 cells.length (by rw [hby0];have:=HL.out;omega) (by have:=HL.out;unfold maxLen;omega) (Nat.le_refl _)
 have hmk2:(Instr.makeSlice 445 (.int .i64 0) (.int .i64 0)).run Tryz.prog W1=_:=run_make (P:=Tryz.prog) (w:=W1) 445 460 _ _ (by rfl) (by rfl) (by rfl) .i64 .i64 0 0 (by decide) (by decide) (by decide) (by decide)
 have HBW:=am ((Below.refl w1.heap.size w1).grown hg1 (Nat.le_refl _) (fun k hk=>by cases hk))
 have HOW:=am hown1
 clear hg1 hown1 hi0 hz0 hsz0 hby0
 go_wp2
 clear hmk1 hmk2
 have happ:=append_zero
 have hrn:=method_rn (some ⟨X,0,none⟩)
 have hue:=method_ue (some ⟨X,0,none⟩)
 have HM2:=am (show Below w1.heap.size w1 (W1.alloc (.cells (madeCells (Value.agg #[.int .i64 0,.int .i64 0,.slice none 0 0]).cells 0) 460)) from HBW.out.alloc HBW.out.size _)
 go_loopg [11,12,28] cells.length (fun gf v11 v12 v28 wx=>∃ (j:Nat),v28=.int .i64 (j:Int)∧v12=.slice (some ⟨W1.heap.size,0,none⟩) 0 0∧Aside0 (j≤cells.length∧cells.length - j=gf)∧Aside0 (Kd.R bytesK 62 wx w1.heap.size (fun _=>True) v11 (cellsOut tab (cells.take j)))∧Aside0 (Below w1.heap.size w1 wx))
 case atStart=>exact ⟨0,rfl,rfl,⟨by omega⟩,⟨Kd.R_below ⟨fun _ _=>trivial,[],HOW.out,Reps.none _ _⟩ ((Below.refl _ _).alloc (Nat.le_refl _) _)⟩,HM2⟩
 case round=>
  obtain ⟨j,rfl,rfl,HP,HR,HBr⟩:=hrel
  by_cases hj:j < cells.length
  ·obtain ⟨g,hA,hcell⟩:=HCL.out (by omega)
   subst hA
   have g0:wr.cell? ⟨g,j,none⟩=some (.pointer (some ⟨cells[j].1.blk,0,none⟩)):=cell_keep HBr.out (hcell j hj)
   have HJ:=am hj
   have hlt:decide ((j:Int) < (cells.length:Int))=true:=decide_eq_true (by omega)
   have hpp:=eq_true hj
   have hw1:wrap64 ((j:Int)+1)=((j+1:Nat):Int):=by have:=HL.out;unfold wrap64;omega
   have htk:cells.take (j+1)=cells.take j++[cells[j]]:=List.take_succ_eq_append_getElem hj
   have hat0:=(HC.out cells[j] (List.getElem_mem hj)).attr
   have hcj:=(HC.out cells[j] (List.getElem_mem hj)).keep (HB.out.trans (HBr.out.mono HB.out.size))
   obtain ⟨p,hpj⟩:∃ p,cells[j]=p:=⟨_,rfl⟩
   rw [hpj] at g0 htk hcj hat0
   have HA0:=am hat0
   have HCJ:=am hcj
   have HTK:=am htk
   have HXr:=am (HX.out.keep (((HB.out.trans (HBr.out.mono HB.out.size))).mono HX.out.le))
   clear hj hpj htk hcj hcell hat0
   go_wp2_with (go_at_call 465;fail)
   refine (renderNew_calls HXr.out HCJ.out).mono ?_
   rintro e w2 ⟨rfl,hb2,hs2⟩
   have HB2:=am hb2
   have HS2:=am hs2
   have HX2:=am (HXr.out.keep (hb2.mono HXr.out.le))
   clear hb2 hs2 g0
   go_wp2_with (go_at_call 54;fail)
   refine (bufBytes_calls HS2.out (by have:=HCJ.out.len;omega)).mono ?_
   rintro e w3 ⟨⟨A3,c3,rfl,hc3,hr3⟩,hb3⟩
   have hr3:=Kd.C_below hr3 hb3
   have HB3:=am (HB2.out.trans (hb3.mono HB2.out.size))
   have HX3:=am (HX2.out.keep (hb3.mono HX2.out.le))
   have CT:=trimSpaceB_calls w3 A3 c3 p.2 hr3 hc3 (by have:=HCJ.out.len;omega) (fun i h=>by have:=HCJ.out.words _ (List.getElem_mem h);unfold Wordy Alnum at this;omega) tab (fun c hc=>HX3.out.now.space c hc)
   rw [bytesI_length] at CT
   have CT:=am CT
   have HR3:=am hr3
   have HC3:=am hc3
   clear hb3 hr3 hc3
   go_wp2_with (go_at_call 151;fail)
   refine CT.out.mono ?_
   rintro e w4 ⟨⟨v4,rfl,htr⟩,hw⟩
   rw [hw]
   clear hw CT
   obtain ⟨A4,c4,rfl,hc4,hr4⟩:=trims_C htr HR3.out HC3.out (by have:=HCJ.out.len;omega)
   clear htr
   have HQT:=am (fun x hx=>HCJ.out.words x (trimBy_sub (p:=marked tab) p.2 x hx))
   have HQL:=am (Nat.le_trans (trimBy_len (p:=marked tab) p.2) HCJ.out.len)
   obtain ⟨t,ht⟩:∃ t,trimBy (marked tab) p.2=t:=⟨_,rfl⟩
   rw [ht] at hc4 hr4 HQT HQL
   rw [ht]
   have HTT:=am ht
   clear ht
   have CR:=replaceTable_calls w3 A4 c4 t 7 [124] ⟨#[92,124]⟩ hr4 hc4 (by have:=HQL.out;omega) (by decide) (fun i h=>by
    have:=HQT.out _ (List.mem_of_getElem? h)
    unfold Wordy Alnum at this
    revert this
    decide)
   rw [bytesI_length] at CR
   have CR:=am CR
   clear hr4 hc4
   go_wp2_with (go_at_call 417;fail)
   refine CR.out.mono ?_
   rintro e w4 ⟨⟨v4,rfl,ho4⟩,hb4⟩
   obtain ⟨A5,c5,rfl,hc5,hr5⟩:=own_slice ho4
   have HB4:=am (HB3.out.trans (hb4.mono HB3.out.size))
   have HX4:=am (HX3.out.keep (hb4.mono HX3.out.le))
   have CU:=am (ctxUnescape_calls HX4.out A5 c5 t hr5 hc5 (by have:=HQL.out;omega) (fun i h=>by
    have:=HQT.out _ (List.getElem_mem h)
    unfold Wordy Alnum at this
    omega))
   clear CR hb4 hr5 hc5 ho4
   go_wp2_with (go_at_call 466;fail)
   refine CU.out.mono ?_
   rintro e w5 ⟨⟨v5,rfl,ho5⟩,hb5⟩
   obtain ⟨A6,c6,rfl,hc6,hr6⟩:=own_slice ho5
   have HB5:=am (HB4.out.trans (hb5.mono HB4.out.size))
   have HM5:=am (cell_M ho5 (Nat.le_trans HBr.out.size HB4.out.size))
   have HR5:=am (Kd.R_below HR.out HB5.out)
   have HRL:=am (show ∀ k,(w4.heap.size≤k∧k < w5.heap.size)→True∧some k≠u11.ownBlock from fun k hk=>⟨trivial,fun e=>by
    have:=Kd.R_lt HR.out k e.symm
    have:=HB4.out.size
    omega⟩)
   have HBB:=am (HBr.out.trans (HB5.out.mono HBr.out.size))
   have HLJ:=am (show ((cellsOut tab (cells.take j)).length+1) * 24≤140737488355328 by
    unfold cellsOut
    rw [List.length_map,List.length_take]
    have:=HL.out
    omega)
   obtain ⟨xs,hxs⟩:∃ xs,cellsOut tab (cells.take j)=xs:=⟨_,rfl⟩
   rw [hxs] at HR5 HLJ
   have HXS:=am hxs
   clear CU hb5 hc6 hr6 ho5 hxs
   go_wp2_with (first|(at_builtin;refine Kd.R_append bytesK (w0:=w1) w1.heap.size rfl (.tmp _) (.tmp _) 354 62 (.slice none 0 0) 24 rfl Tryz.underlying354 info62 rfl (by decide) (by omega) u11 xs (bytesI t) [.slice A6 t.length c6] (fun _=>True) (fun k=>w4.heap.size≤k∧k < w5.heap.size) rfl rfl HM5.out HRL.out (fun _ _=>trivial) HR5.out HBB.out (below_size HBB.out) HLJ.out ?_;intro v1 w6 ho1 hb1 hg1 hat1;have HR6:=am ho1;have HB6:=am hb1;clear ho1 hb1 hg1 hat1)|(go_at_call 440;fail))
   have HW6:=am (HB.out.trans (HB6.out.mono HB.out.size))
   have HX6:=am (HX.out.keep (HW6.out.mono HX.out.le))
   have CA:=am (fun k f=>numAttr_calls w6 p.1.blk (cell_keep HW6.out HA0.out) k f)
   refine (CA.out _ _).mono ?_
   rintro e w7 ⟨rfl,hw⟩
   rw [hw]
   clear hw
   go_wp2_with (go_at_call 440;fail)
   refine (CA.out _ _).mono ?_
   rintro e w7 ⟨rfl,hw⟩
   rw [hw]
   clear hw CA
   go_wp2_with (go_at_call 442;fail)
   refine (merged_calls w6 tp po.span HX6.out.now.plug.span A6 t.length c6).mono ?_
   rintro e w7 ⟨⟨v7,rfl⟩,hb7⟩
   have HB7:=am (HB6.out.trans (hb7.mono HB6.out.size))
   have HR7:=am (Kd.R_below HR6.out hb7)
   clear hb7
   go_wp2_with (go_at_call 441;fail)
   refine (calcMods_calls w7 ri j v7).mono ?_
   rintro e w8 ⟨rfl,hb8⟩
   have HB8:=am (HB7.out.trans (hb8.mono HB7.out.size))
   have HR8:=am (Kd.R_below HR7.out hb8)
   clear hb8
   go_wp2
   go_roundg (cells.length - (j+1))
   case measure=>have:=HP.out;have:=HJ.out;omega
   case rel=>
    refine ⟨j+1,by rw [hw1],rfl,⟨by have:=HJ.out;omega⟩,⟨?_⟩,HB8⟩
    have:=HR8.out
    rw [← HXS.out,← HTT.out] at this
    rw [HTK.out]
    unfold cellsOut at this ⊢
    rw [List.map_append]
    exact this
  ·have hlt:decide ((j:Int) < (cells.length:Int))=false:=decide_eq_false (by omega)
   have hpp:=eq_false hj
   have HJ:=am hj
   clear hj
   go_wp2
   go_ret2
   have e1:j=cells.length:=by have:=HP.out;have:=HJ.out;omega
   have h1:=HR.out
   rw [e1,List.take_length] at h1
   exact ⟨_,_,_,rfl,Kd.R_lower h1 HB.out.size,HB.out.trans (HBr.out.mono HB.out.size)⟩
end Go.Proofs.YtbheflncgmhadaaGreat.Hand
