/- neat29. Conditions: those in each statement. -/
import Derived.Test.YtbheflncgmhadaaGreatXw
import Derived.BigQuiet
set_option linter.unusedVariables false
set_option linter.unusedSimpArgs false
set_option maxHeartbeats 40000000
set_option maxRecDepth 100000
namespace Go.Proofs.YtbheflncgmhadaaGreat.Hand
open Go.RowKit Go.Proofs.YtbheflncgmhadaaGreatW.PrintWords Go.Proofs.YtbheflncgmhadaaGreatW.PrintLast Go.Proofs.YtbheflncgmhadaaGreatW.PrintMore
open Go.Proofs.YtbheflncgmhadaaGreat.PzzFits10
attribute [local go_sem] run_store_func'
theorem cell_past {w:World} {a:Addr} {v:Value} (o:Obj) (h:w.cell? a=some v):(w.alloc o).cell? a=some v:=(World.cell?_alloc_lt _ _ _ (World.block_lt_of_cell? _ _ h)).trans h
theorem empty_true {s:ByteArray} (h:s.size=0):s.toList.isEmpty=true:=by
 rw [ByteArray.toList_eq,List.isEmpty_iff]
 exact List.eq_nil_of_length_eq_zero (Array.length_toList.trans h)
theorem empty_false {s:ByteArray} (h:¬ s.size=0):s.toList.isEmpty=false:=by
 rw [ByteArray.toList_eq,Bool.eq_false_iff,ne_eq,List.isEmpty_iff]
 intro e
 exact h (Array.length_toList.symm.trans (by rw [e];rfl))
theorem next_fine {r:List S27} {j:Nat} {x:S27} (h:∀ (q:Nat) (hq:q < r.length),q < j→CellFine r[q]) (hx:r[j]?=some x) (hf:CellFine x):∀ (q:Nat) (hq:q < r.length),q < j+1→CellFine r[q]:=fun q hq hl=>by
 by_cases e:q=j
 ·subst e
  rw [List.getElem?_eq_getElem hq] at hx
  rw [Option.some.inj hx]
  exact hf
 ·exact h q hq (by omega)
def RowFine (r:List S27):Prop:=r.length≠0∧r.length≤12∧∀ x∈r,CellFine x
def NeatPost (l:List (List S27)) (e:Ending):Prop:=∃ b,e=.returned (.bool b)∧(b=true→∀ r∈l,RowFine r)
theorem neat_calls (w:World) (A:Option Addr) (c:Nat) (l:List (List S27)) (hr:Kd.C (Kd.slice 27 k27) w A l.length l) (hc:l.length≤c) (hf:∀ r∈l,∀ x∈r,FitS x) (h0:l.length≠0) (h12:¬ 12 < l.length):
  Calls Tryz.prog 5 #[.slice A l.length c] w fun e w'=>NeatPost l e∧Below w.heap.size w w':=by
 have HR:=am hr
 have HF:=am hf
 have e0:(l.length=0)=False:=eq_false h0
 have e0b:((l.length:Int)==0)=false:=beq_eq_false_iff_ne.2 (by omega)
 have e12:decide ((12:Int) < (l.length:Int))=false:=decide_eq_false (by omega)
 have e12n:(12 < l.length)=False:=eq_false h12
 have HL12:=am (show l.length≤12 by omega)
 clear hr hf h0 h12
 go_enter Tryz.func5,Tryz.ntmps5
 go_wp2
 go_loopg [18] l.length (fun gf v18 wx=>∃ (i:Nat),v18=.int .i64 (i:Int)∧Aside0 (i≤l.length∧l.length - i=gf)∧Aside0 (∀ (q:Nat) (hq:q < l.length),q < i→RowFine l[q])∧Aside0 (Below w.heap.size w wx))
 case atStart=>exact ⟨0,rfl,⟨by omega,by omega⟩,⟨fun q hq h=>by omega⟩,⟨Below.refl _ _⟩⟩
 case round=>
  obtain ⟨i,rfl,HP,HI,HB⟩:=hrel
  by_cases hi:i < l.length
  ·have hpp:=eq_true hi
   have hlt:decide ((i:Int) < (l.length:Int))=true:=decide_eq_true (by omega)
   obtain ⟨ad,A0,c0,rfl,k1,k2,k3⟩:=at_L4 (Kd.C_below HR.out HB.out) (i:Int) (by omega) (by omega)
   rw [Int.toNat_natCast] at k1
   obtain ⟨r,hrr⟩:∃ r,rd_L4 l (i:Int)=r:=⟨_,rfl⟩
   rw [hrr] at k1 k2 k3
   have hlr:l[i]?=some r:=by
    rw [← hrr]
    unfold rd_L4
    rw [Int.toNat_natCast,List.getD_eq_getElem?_getD,List.getElem?_eq_getElem hi];rfl
   have K3:=am k3
   clear k3
   by_cases hz:r.length=0
   ·obtain rfl:r=[]:=List.eq_nil_of_length_eq_zero hz
    clear hi hrr hlr hz
    go_wp2
    go_ret
    exact ⟨⟨false,rfl,fun h=>by cases h⟩,HB.out⟩
   ·have z0:((r.length:Int)==0)=false:=beq_eq_false_iff_ne.2 (by omega)
    have z0p:=eq_false hz
    by_cases hz2:12 < r.length
    ·have z1:decide ((12:Int) < (r.length:Int))=true:=decide_eq_true (by omega)
     have z1p:=eq_true hz2
     clear hi hz hz2 hrr hlr
     go_wp2
     go_ret
     exact ⟨⟨false,rfl,fun h=>by cases h⟩,HB.out⟩
    ·have z1:decide ((12:Int) < (r.length:Int))=false:=decide_eq_false (by omega)
     have z1p:=eq_false hz2
     have HLR:=am hlr
     have HII:=am hi
     have HZ:=am (And.intro hz hz2)
     have HFR:=am (show ∀ x∈r,FitS x from fun x hx=>HF.out r (List.mem_of_getElem? hlr) x hx)
     clear hi hz hz2 hrr hlr
     go_wp2
     obtain ⟨wo,hwo⟩:∃ wo,wr=wo:=⟨_,rfl⟩
     have HBo:=am (show Below w.heap.size w wo from by rw [← hwo];exact HB.out)
     have KB:=am (show ∀ w',Below wo.heap.size wo w'→Kd.C k27 w' A0 r.length r from fun w' hb=>by rw [← hwo] at hb;exact Kd.C_below K3.out hb)
     have hwi:wrap64 ((i:Int)+1)=((i+1:Nat):Int):=by have:=HII.out;have:=HL12.out;unfold wrap64;omega
     go_loopg [5,33] r.length (fun gf v5 v33 wx=>∃ (j:Nat) (b:Bool),v33=.int .i64 (j:Int)∧v5=.bool b∧Aside0 (j≤r.length∧r.length - j=gf)∧Aside0 (∀ (q:Nat) (hq:q < r.length),q < j→CellFine r[q])∧Aside0 (Below wo.heap.size wo wx))
     case atStart=>exact ⟨0,false,rfl,rfl,⟨by omega,by omega⟩,⟨fun q hq h=>by omega⟩,⟨by rw [hwo];exact Below.refl _ _⟩⟩
     case round=>
      obtain ⟨j,b,rfl,rfl,HPj,HJ,HBj⟩:=hrel
      by_cases hj:j < r.length
      ·have hpp:=eq_true hj
       have hlt:decide ((j:Int) < (r.length:Int))=true:=decide_eq_true (by omega)
       have hzr:(0:Int) < (r.length:Int):=by omega
       obtain ⟨ad2,hA2,f0,f1,f2,f3,f4⟩:=at_T27 (KB.out _ HBj.out) (j:Int) (by omega) (by omega)
       obtain ⟨ad3,hA3,g0,g1,g2,g3,g4⟩:=at_T27 (KB.out _ HBj.out) (0:Int) (by omega) hzr
       subst hA2
       obtain rfl:ad2=ad3:=Option.some.inj hA3
       rw [Int.toNat_natCast] at f0 f1 f2 f3 f4
       obtain ⟨x,hx⟩:∃ x,rd_T27 r (j:Int)=x:=⟨_,rfl⟩
       obtain ⟨y,hy⟩:∃ y,rd_T27 r (0:Int)=y:=⟨_,rfl⟩
       rw [hx] at f0 f1 f2 f3 f4
       rw [hy] at g1
       have hxr:r[j]?=some x:=by
        rw [← hx]
        unfold rd_T27
        rw [Int.toNat_natCast,List.getD_eq_getElem?_getD,List.getElem?_eq_getElem hj];rfl
       have HXR:=am hxr
       have hfx:=HFR.out x (List.mem_of_getElem? hxr)
       have HJJ:=am hj
       have g1:wr.cell? ⟨ad2.block,ad2.off+1,none⟩=some (.bool y.f1):=g1
       have g1:=fun o=>cell_past o g1
       obtain ⟨rb,hrb⟩:∃ rb,wordsB x.f0=rb:=⟨_,rfl⟩
       have hwk:rb=true→∀ i,i < x.f0.size→WOk x.f0 i:=fun e=>wordsB_of (hrb.trans e)
       have HWQ:=am (show ∀ (w:World) (n:Nat),Calls Tryz.prog 12 #[.string x.f0] (w.drewN n) fun e w'=>e=.returned (.bool rb)∧∃ m,w'=(w.drewN n).drewN m from fun w n=>(words_walk _ x.f0 hfx).mono fun e w' h=>⟨hrb▸h.1,h.2.out⟩)
       have HWK:=am hwk
       have HBW:=am (show ∀ o n,Below wo.heap.size wo ((wr.alloc o).drewN n) from fun o n=>pw_below_drewN (HBj.out.alloc HBj.out.size o) n)
       have HBQ:=am (show ∀ o n,Below w.heap.size w ((wr.alloc o).drewN n) from fun o n=>pw_below_drewN ((HBo.out.trans (HBj.out.mono HBo.out.size)).alloc (Nat.le_trans HBo.out.size HBj.out.size) o) n)
       obtain ⟨x0,x1,x2,x3,x4⟩:=x
       obtain ⟨y0,y1,y2,y3,y4⟩:=y
       clear g0 g2 g3 g4 hA3 hx hy hxr hj hrb hwk hfx
       have hw1:wrap64 ((j:Int)+1)=((j+1:Nat):Int):=by have:=HZ.out;have:=HJJ.out;unfold wrap64;omega
       cases b
       all_goals
        go_wp2
        rcases rb with _|_
        ·go_quiet ((go_at_call 12;exact Calls.quiet_of (HWQ.out _ _)))
         go_wp2
         go_ret
         exact ⟨⟨false,rfl,fun h=>by cases h⟩,HBQ.out _ _⟩
        ·by_cases hc1:1 < x3
         ·have d1:decide ((1:Int) < x3)=true:=decide_eq_true hc1
          have p1:=eq_true hc1
          clear hc1
          go_quiet ((go_at_call 12;exact Calls.quiet_of (HWQ.out _ _)))
          go_wp2
          go_ret
          exact ⟨⟨false,rfl,fun h=>by cases h⟩,HBQ.out _ _⟩
         ·have d1:decide ((1:Int) < x3)=false:=decide_eq_false hc1
          have p1:=eq_false hc1
          by_cases hc2:1 < x4
          ·have d2:decide ((1:Int) < x4)=true:=decide_eq_true hc2
           have p2:=eq_true hc2
           clear hc1 hc2
           go_quiet ((go_at_call 12;exact Calls.quiet_of (HWQ.out _ _)))
           go_wp2
           go_ret
           exact ⟨⟨false,rfl,fun h=>by cases h⟩,HBQ.out _ _⟩
          ·have d2:decide ((1:Int) < x4)=false:=decide_eq_false hc2
           have p2:=eq_false hc2
           by_cases hi0:i=0
           ·have i1:((i:Int)==0)=true:=by simp [hi0]
            have i2:=eq_true hi0
            clear hi0
            cases x1 <;> cases y1
            ·by_cases hA:x2.size=0
             ·have hA1:=empty_true hA
              have HNX:=am (next_fine HJ.out HXR.out ⟨hA,Int.not_lt.1 hc1,Int.not_lt.1 hc2,HWK.out rfl⟩)
              clear hA
              go_quiet ((go_at_call 12;exact Calls.quiet_of (HWQ.out _ _)))
              go_wp2
              go_roundg (r.length - (j+1))
              case measure=>have:=HPj.out;have:=HJJ.out;omega
              case rel=>exact ⟨j+1,_,by first|rfl|rw [hw1],rfl,⟨by have:=HPj.out;have:=HJJ.out;omega⟩,HNX,⟨HBW.out _ _⟩⟩
             ·have hA1:=empty_false hA
              clear hA
              go_quiet ((go_at_call 12;exact Calls.quiet_of (HWQ.out _ _)))
              go_wp2
              go_ret
              exact ⟨⟨false,rfl,fun h=>by cases h⟩,HBQ.out _ _⟩
            ·go_quiet ((go_at_call 12;exact Calls.quiet_of (HWQ.out _ _)))
             go_wp2
             go_ret
             exact ⟨⟨false,rfl,fun h=>by cases h⟩,HBQ.out _ _⟩
            ·go_quiet ((go_at_call 12;exact Calls.quiet_of (HWQ.out _ _)))
             go_wp2
             go_ret
             exact ⟨⟨false,rfl,fun h=>by cases h⟩,HBQ.out _ _⟩
            ·by_cases hA:x2.size=0
             ·have hA1:=empty_true hA
              have HNX:=am (next_fine HJ.out HXR.out ⟨hA,Int.not_lt.1 hc1,Int.not_lt.1 hc2,HWK.out rfl⟩)
              clear hA
              go_quiet ((go_at_call 12;exact Calls.quiet_of (HWQ.out _ _)))
              go_wp2
              go_roundg (r.length - (j+1))
              case measure=>have:=HPj.out;have:=HJJ.out;omega
              case rel=>exact ⟨j+1,_,by first|rfl|rw [hw1],rfl,⟨by have:=HPj.out;have:=HJJ.out;omega⟩,HNX,⟨HBW.out _ _⟩⟩
             ·have hA1:=empty_false hA
              clear hA
              go_quiet ((go_at_call 12;exact Calls.quiet_of (HWQ.out _ _)))
              go_wp2
              go_ret
              exact ⟨⟨false,rfl,fun h=>by cases h⟩,HBQ.out _ _⟩
           ·have i1:((i:Int)==0)=false:=beq_eq_false_iff_ne.2 (by omega)
            have i2:=eq_false hi0
            clear hi0
            cases x1
            ·by_cases hA:x2.size=0
             ·have hA1:=empty_true hA
              have HNX:=am (next_fine HJ.out HXR.out ⟨hA,Int.not_lt.1 hc1,Int.not_lt.1 hc2,HWK.out rfl⟩)
              clear hA
              go_quiet ((go_at_call 12;exact Calls.quiet_of (HWQ.out _ _)))
              go_wp2
              go_roundg (r.length - (j+1))
              case measure=>have:=HPj.out;have:=HJJ.out;omega
              case rel=>exact ⟨j+1,_,by first|rfl|rw [hw1],rfl,⟨by have:=HPj.out;have:=HJJ.out;omega⟩,HNX,⟨HBW.out _ _⟩⟩
             ·have hA1:=empty_false hA
              clear hA
              go_quiet ((go_at_call 12;exact Calls.quiet_of (HWQ.out _ _)))
              go_wp2
              go_ret
              exact ⟨⟨false,rfl,fun h=>by cases h⟩,HBQ.out _ _⟩
            ·go_quiet ((go_at_call 12;exact Calls.quiet_of (HWQ.out _ _)))
             go_wp2
             go_ret
             exact ⟨⟨false,rfl,fun h=>by cases h⟩,HBQ.out _ _⟩
      ·have hlt:decide ((j:Int) < (r.length:Int))=false:=decide_eq_false (by omega)
       have hpp:=eq_false hj
       have HJE:=am (show j=r.length by have:=HPj.out;omega)
       have HBQ:=am (show Below w.heap.size w wr from HBo.out.trans (HBj.out.mono HBo.out.size))
       clear hj
       cases b
       ·go_wp2
        go_ret
        exact ⟨⟨false,rfl,fun h=>by cases h⟩,HBQ.out⟩
       ·go_wp2
        go_roundg (l.length - (i+1))
        case measure=>have:=HP.out;have:=HII.out;omega
        case rel=>
         refine ⟨i+1,by first|rfl|rw [hwi],⟨by have:=HP.out;have:=HII.out;omega⟩,⟨fun q hq h=>?_⟩,HBQ⟩
         by_cases e:q=i
         ·subst e
          have hq2:l[q]=r:=by have:=HLR.out;rw [List.getElem?_eq_getElem hq] at this;exact Option.some.inj this
          rw [hq2]
          refine ⟨HZ.out.1,by have:=HZ.out.2;omega,fun x hx=>?_⟩
          obtain ⟨z,hz,rfl⟩:=List.getElem_of_mem hx
          exact HJ.out z hz (by have:=HJE.out;omega)
         ·exact HI.out q hq (by omega)
  ·have hlt:decide ((i:Int) < (l.length:Int))=false:=decide_eq_false (by omega)
   have hpp:=eq_false hi
   have HIE:=am (show i=l.length by have:=HP.out;omega)
   clear hi
   go_wp2
   go_ret
   refine ⟨⟨true,rfl,fun _ r hr=>?_⟩,HB.out⟩
   obtain ⟨q,hq,rfl⟩:=List.getElem_of_mem hr
   exact HI.out q hq (by have:=HIE.out;omega)
end Go.Proofs.YtbheflncgmhadaaGreat.Hand
