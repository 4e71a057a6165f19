/- What the law's tests say. Conditions: those in each statement. -/
import Derived.Test.YtbheflncgmhadaaGreatXr
import Derived.Test.YtbheflncgmhadaaGreatXv
import Derived.Test.YtbheflncgmhadaaGreatXu
set_option linter.unusedVariables false
set_option linter.unusedSimpArgs false
set_option maxHeartbeats 40000000
set_option maxRecDepth 100000
namespace Go.Proofs.YtbheflncgmhadaaGreat.Hand
open Go.RowKit Go.Proofs.YtbheflncgmhadaaGreatW.PrintWords Go.Proofs.YtbheflncgmhadaaGreatW.PrintLast Go.Proofs.YtbheflncgmhadaaGreatW.PrintMore
open Go.Proofs.YtbheflncgmhadaaGreat.PzzFits10
attribute [local go_sem] run_store_func'
def WOk (s:ByteArray) (i:Nat):Prop:=Alnum (bt s i)∨(bt s i=32∧i≠0∧i+1≠s.size∧bt s ((i - 1:Nat):Int)≠32)
open Classical in
noncomputable def wordsB (s:ByteArray):Bool:=decide (∀ i,i < s.size→WOk s i)
open Classical in
theorem wordsB_false {s:ByteArray} {j:Nat} (hj:j < s.size) (h:¬ WOk s j):wordsB s=false:=by
 unfold wordsB
 exact decide_eq_false fun e=>h (e j hj)
open Classical in
theorem wordsB_true {s:ByteArray} (h:∀ i,i < s.size→WOk s i):wordsB s=true:=by
 unfold wordsB
 exact decide_eq_true h
open Classical in
theorem wordsB_of {s:ByteArray} (h:wordsB s=true):∀ i,i < s.size→WOk s i:=by
 unfold wordsB at h
 exact of_decide_eq_true h
theorem words_walk (w:World) (s:ByteArray) (hs:s.size≤2147483647):Calls Tryz.prog 12 #[.string s] w fun e w'=>e=.returned (.bool (wordsB s))∧Drawn0 w w':=by
 have HS:=am hs
 clear hs
 go_enter Tryz.func12,Tryz.ntmps12
 go_wp2
 go_loopg [8] s.size (fun gf v8 wx=>∃ x:Int,v8=.int .i64 x∧Aside0 (∃ j:Nat,x=(j:Int)∧j≤s.size∧s.size - j=gf∧∀ i,i < j→WOk s i)∧Drawn0 w wx)
 case atStart=>exact ⟨0,rfl,⟨0,rfl,by omega,rfl,fun i h=>by omega⟩,Drawn0.refl _⟩
 case round=>
  obtain ⟨x,rfl,HX,⟨m1,rfl⟩⟩:=hrel
  obtain ⟨j,hxj,hjs,hgk,hW⟩:=HX.out
  have HP:=am hgk
  clear HX hgk
  by_cases hj:j < s.size
  ·have c2:decide (x < (s.size:Int))=true:=decide_eq_true (by omega)
   have c3:decide ((0:Int)≤x)=true:=decide_eq_true (by omega)
   have p5:=eq_true (show (0:Int)≤x by omega)
   have q5:=eq_true (show x < (s.size:Int) by omega)
   have hx5:=bt_at s x
   have hw1:wrap64 (x+1)=((j+1:Nat):Int):=by have:=HS.out;unfold wrap64;omega
   have HJ:=am hj
   have hal:WOk s j↔(Alnum (bt s j)∨(bt s j=32∧j≠0∧j+1≠s.size∧bt s ((j - 1:Nat):Int)≠32)):=Iff.rfl
   unfold Alnum at hal
   rw [← hxj] at hal
   have HNX:=am (show WOk s j→∀ i,i < j+1→WOk s i from fun h i hi=>by
    by_cases e:i=j
    ·rw [e];exact h
    ·exact hW i (by omega))
   clear hW
   have HW1:=am hw1
   have HXJ:=am hxj
   have hcl:bt s x < 48∨(48≤bt s x∧bt s x≤57)∨(58≤bt s x∧bt s x≤64)∨(65≤bt s x∧bt s x≤90)∨(91≤bt s x∧bt s x≤96)∨(97≤bt s x∧bt s x≤122)∨122 < bt s x:=by omega
   rcases hcl with h|h|h|h|h|h|h
   ·have d97:decide (97≤bt s x)=false:=decide_eq_false (by omega)
    have d65:decide (65≤bt s x)=false:=decide_eq_false (by omega)
    have d48:decide (48≤bt s x)=false:=decide_eq_false (by omega)
    by_cases h32:bt s x=32
    ·have e32:(bt s x==32)=true:=beq_iff_eq.2 (h32)
     have e32n:(bt s x != 32)=false:=bne_eq_false_iff_eq.2 (h32)
     by_cases h0:x=0
     ·have e0:(x==0)=true:=beq_iff_eq.2 (h0)
      have e0n:(x != 0)=false:=bne_eq_false_iff_eq.2 (h0)
      have HK:=am (wordsB_false hj (fun h=>by rw [hal] at h;omega))
      clear hj h32 h hal h0 hw1 hxj hjs
      go_wp2
      go_ret
      rw [HK.out]
      exact ⟨rfl,by repeat (first|exact Drawn0.refl _|apply Drawn0.step)⟩
     ·have e0:(x==0)=false:=beq_eq_false_iff_ne.2 (h0)
      have e0n:(x != 0)=true:=bne_iff_ne.2 (h0)
      by_cases h1:wrap64 (x+1)=(s.size:Int)
      ·have e1:(wrap64 (x+1)==(s.size:Int))=true:=beq_iff_eq.2 (h1)
       have e1n:(wrap64 (x+1) != (s.size:Int))=false:=bne_eq_false_iff_eq.2 (h1)
       have HK:=am (wordsB_false hj (fun h=>by rw [hal] at h;omega))
       clear hj h32 h hal h0 h1 hw1 hxj hjs
       go_wp2
       go_ret
       rw [HK.out]
       exact ⟨rfl,by repeat (first|exact Drawn0.refl _|apply Drawn0.step)⟩
      ·have e1:(wrap64 (x+1)==(s.size:Int))=false:=beq_eq_false_iff_ne.2 (h1)
       have e1n:(wrap64 (x+1) != (s.size:Int))=true:=bne_iff_ne.2 (h1)
       have hm:wrap64 (x - 1)=((j - 1:Nat):Int):=by have:=HS.out;unfold wrap64;omega
       rw [← hm] at hal
       have c6:decide ((0:Int)≤wrap64 (x - 1))=true:=decide_eq_true (by omega)
       have c7:decide (wrap64 (x - 1) < (s.size:Int))=true:=decide_eq_true (by omega)
       have p8:=eq_true (show (0:Int)≤wrap64 (x - 1) by omega)
       have q8:=eq_true (show wrap64 (x - 1) < (s.size:Int) by omega)
       have hx8:=bt_at s (wrap64 (x - 1))
       by_cases h2:bt s (wrap64 (x - 1))=32
       ·have e2:(bt s (wrap64 (x - 1))==32)=true:=beq_iff_eq.2 (h2)
        have e2n:(bt s (wrap64 (x - 1)) != 32)=false:=bne_eq_false_iff_eq.2 (h2)
        have HK:=am (wordsB_false hj (fun h=>by rw [hal] at h;omega))
        clear hj h32 h hal h0 h1 h2 hw1 hxj hjs hm
        go_wp2
        go_ret
        rw [HK.out]
        exact ⟨rfl,by repeat (first|exact Drawn0.refl _|apply Drawn0.step)⟩
       ·have e2:(bt s (wrap64 (x - 1))==32)=false:=beq_eq_false_iff_ne.2 (h2)
        have e2n:(bt s (wrap64 (x - 1)) != 32)=true:=bne_iff_ne.2 (h2)
        have HK:=am (show WOk s j from hal.2 (by omega))
        clear hj h32 h hal h0 h1 h2 hw1 hxj hjs hm
        go_wp2
        go_roundg (s.size - (j+1))
        case measure=>have:=HP.out;have:=HJ.out;omega
        case rel=>exact ⟨_,rfl,⟨j+1,HW1.out,by have:=HJ.out;omega,rfl,HNX.out HK.out⟩,by repeat (first|exact Drawn0.refl _|apply Drawn0.step)⟩
    ·have e32:(bt s x==32)=false:=beq_eq_false_iff_ne.2 (h32)
     have e32n:(bt s x != 32)=true:=bne_iff_ne.2 (h32)
     have HK:=am (wordsB_false hj (fun h=>by rw [hal] at h;omega))
     clear hj h hal h32 hw1 hxj hjs
     go_wp2
     go_ret
     rw [HK.out]
     exact ⟨rfl,by repeat (first|exact Drawn0.refl _|apply Drawn0.step)⟩
   ·have d97:decide (97≤bt s x)=false:=decide_eq_false (by omega)
    have d65:decide (65≤bt s x)=false:=decide_eq_false (by omega)
    have d48:decide (48≤bt s x)=true:=decide_eq_true (by omega)
    have d57:decide (bt s x≤57)=true:=decide_eq_true (by omega)
    have HK:=am (show WOk s j from hal.2 (by omega))
    clear hj h hal hw1 hxj hjs
    go_wp2
    go_roundg (s.size - (j+1))
    case measure=>have:=HP.out;have:=HJ.out;omega
    case rel=>exact ⟨_,rfl,⟨j+1,HW1.out,by have:=HJ.out;omega,rfl,HNX.out HK.out⟩,by repeat (first|exact Drawn0.refl _|apply Drawn0.step)⟩
   ·have d97:decide (97≤bt s x)=false:=decide_eq_false (by omega)
    have d65:decide (65≤bt s x)=false:=decide_eq_false (by omega)
    have d48:decide (48≤bt s x)=true:=decide_eq_true (by omega)
    have d57:decide (bt s x≤57)=false:=decide_eq_false (by omega)
    have e32:(bt s x==32)=false:=beq_eq_false_iff_ne.2 (by omega)
    have e32n:(bt s x != 32)=true:=bne_iff_ne.2 (by omega)
    have HK:=am (wordsB_false hj (fun h=>by rw [hal] at h;omega))
    clear hj h hal hw1 hxj hjs
    go_wp2
    go_ret
    rw [HK.out]
    exact ⟨rfl,by repeat (first|exact Drawn0.refl _|apply Drawn0.step)⟩
   ·have d97:decide (97≤bt s x)=false:=decide_eq_false (by omega)
    have d65:decide (65≤bt s x)=true:=decide_eq_true (by omega)
    have d48:decide (48≤bt s x)=true:=decide_eq_true (by omega)
    have d90:decide (bt s x≤90)=true:=decide_eq_true (by omega)
    have d57:decide (bt s x≤57)=false:=decide_eq_false (by omega)
    have HK:=am (show WOk s j from hal.2 (by omega))
    clear hj h hal hw1 hxj hjs
    go_wp2
    go_roundg (s.size - (j+1))
    case measure=>have:=HP.out;have:=HJ.out;omega
    case rel=>exact ⟨_,rfl,⟨j+1,HW1.out,by have:=HJ.out;omega,rfl,HNX.out HK.out⟩,by repeat (first|exact Drawn0.refl _|apply Drawn0.step)⟩
   ·have d97:decide (97≤bt s x)=false:=decide_eq_false (by omega)
    have d65:decide (65≤bt s x)=true:=decide_eq_true (by omega)
    have d48:decide (48≤bt s x)=true:=decide_eq_true (by omega)
    have d90:decide (bt s x≤90)=false:=decide_eq_false (by omega)
    have d57:decide (bt s x≤57)=false:=decide_eq_false (by omega)
    have e32:(bt s x==32)=false:=beq_eq_false_iff_ne.2 (by omega)
    have e32n:(bt s x != 32)=true:=bne_iff_ne.2 (by omega)
    have HK:=am (wordsB_false hj (fun h=>by rw [hal] at h;omega))
    clear hj h hal hw1 hxj hjs
    go_wp2
    go_ret
    rw [HK.out]
    exact ⟨rfl,by repeat (first|exact Drawn0.refl _|apply Drawn0.step)⟩
   ·have d97:decide (97≤bt s x)=true:=decide_eq_true (by omega)
    have d65:decide (65≤bt s x)=true:=decide_eq_true (by omega)
    have d48:decide (48≤bt s x)=true:=decide_eq_true (by omega)
    have d122:decide (bt s x≤122)=true:=decide_eq_true (by omega)
    have d90:decide (bt s x≤90)=false:=decide_eq_false (by omega)
    have d57:decide (bt s x≤57)=false:=decide_eq_false (by omega)
    have HK:=am (show WOk s j from hal.2 (by omega))
    clear hj h hal hw1 hxj hjs
    go_wp2
    go_roundg (s.size - (j+1))
    case measure=>have:=HP.out;have:=HJ.out;omega
    case rel=>exact ⟨_,rfl,⟨j+1,HW1.out,by have:=HJ.out;omega,rfl,HNX.out HK.out⟩,by repeat (first|exact Drawn0.refl _|apply Drawn0.step)⟩
   ·have d97:decide (97≤bt s x)=true:=decide_eq_true (by omega)
    have d65:decide (65≤bt s x)=true:=decide_eq_true (by omega)
    have d48:decide (48≤bt s x)=true:=decide_eq_true (by omega)
    have d122:decide (bt s x≤122)=false:=decide_eq_false (by omega)
    have d90:decide (bt s x≤90)=false:=decide_eq_false (by omega)
    have d57:decide (bt s x≤57)=false:=decide_eq_false (by omega)
    have e32:(bt s x==32)=false:=beq_eq_false_iff_ne.2 (by omega)
    have e32n:(bt s x != 32)=true:=bne_iff_ne.2 (by omega)
    have HK:=am (wordsB_false hj (fun h=>by rw [hal] at h;omega))
    clear hj h hal hw1 hxj hjs
    go_wp2
    go_ret
    rw [HK.out]
    exact ⟨rfl,by repeat (first|exact Drawn0.refl _|apply Drawn0.step)⟩
  ·have c2:decide (x < (s.size:Int))=false:=decide_eq_false (by omega)
   have HK:=am (wordsB_true (s:=s) (fun i hi=>hW i (by omega)))
   clear hj hxj hjs hW
   go_wp2
   go_ret
   rw [HK.out]
   exact ⟨rfl,by repeat (first|exact Drawn0.refl _|apply Drawn0.step)⟩
theorem textOk_of {s:ByteArray} (h0:s.size≠0) (hs:s.size≤2147483647) (h:∀ i,i < s.size→WOk s i):TextOk s:=by
 have hb:∀ (i:Nat) (hi:i < s.size),((s[i]'hi).toNat:Int)=bt s i:=fun i hi=>bt_at s i hi
 refine ⟨h0,hs,fun i hi=>?_,fun i hi e1 e2=>?_,fun hi e=>?_,fun hi e=>?_⟩
 ·rw [hb i hi]
  rcases h i hi with q|q
  ·exact Or.inl q
  ·exact Or.inr q.1
 ·have h1:=hb i (by omega)
  have h2:=hb (i+1) hi
  rcases h (i+1) hi with q|q
  ·unfold Alnum at q;omega
  ·have:=q.2.2.2
   rw [Nat.add_sub_cancel] at this
   omega
 ·have h1:=hb 0 hi
  rcases h 0 hi with q|q
  ·unfold Alnum at q;omega
  ·exact q.2.1 rfl
 ·have h1:=hb (s.size - 1) hi
  rcases h (s.size - 1) hi with q|q
  ·unfold Alnum at q;omega
  ·exact q.2.2.1 (by omega)
end Go.Proofs.YtbheflncgmhadaaGreat.Hand
namespace Go.Proofs.YtbheflncgmhadaaGreat.Hand
open Go.RowKit Go.Proofs.YtbheflncgmhadaaGreatW.PrintWords Go.Proofs.YtbheflncgmhadaaGreatW.PrintLast Go.Proofs.YtbheflncgmhadaaGreatW.PrintMore
open Go.Proofs.YtbheflncgmhadaaGreat.PzzFits10
def FitS (x:S27):Prop:=x.f0.size≤2147483647
def FineP (p:Prop) (x:Option Bool):Prop:=∃ r,x=some r∧(r=true→p)
theorem fits12_f (x:S27):FineP (FitS x) (laws_zzFits12.f x.f0 x.f1 x.f2 x.f3 x.f4):=by
 unfold laws_zzFits12.f
 by_cases h:(x.f0.size:Int) > 2147483647
 ·rw [if_pos h];exact ⟨false,rfl,fun h=>by cases h⟩
 ·rw [if_neg h]
  by_cases h2:(x.f2.size:Int) > 2147483647
  ·rw [if_pos h2];exact ⟨false,rfl,fun h=>by cases h⟩
  ·rw [if_neg h2];exact ⟨true,rfl,fun _=>by unfold FitS;omega⟩
theorem fits11_l (l:List S27) (hl:l.length≤2147483647):∀ n j,l.length - j=n→j≤l.length→(∀ i (h:i < l.length),i < j→FitS l[i])→FineP (∀ x∈l,FitS x) (laws_zzFits11.l0 (n+1) l (l.length:Int) (j:Int))
 |n,j,hn,hj,hw=>by
  rw [laws_zzFits11.l0]
  by_cases hlt:j < l.length
  ·obtain ⟨m,rfl⟩:∃ m,n=m+1:=⟨n - 1,by omega⟩
   have hwj:wrap64 ((j:Int)+1)=((j+1:Nat):Int):=by unfold wrap64;omega
   have hrd:rd_T27 l (j:Int)=l[j]:=by unfold rd_T27;rw [List.getD_eq_getElem?_getD,Int.toNat_natCast,List.getElem?_eq_getElem hlt];rfl
   rw [if_pos (by omega),if_pos (by omega),if_pos (by omega),hwj,hrd]
   obtain ⟨r,h1,h2⟩:=fits12_f l[j]
   rw [h1]
   cases r with
   |false=>exact ⟨false,rfl,fun h=>by cases h⟩
   |true=>
    refine fits11_l l hl m (j+1) (by omega) (by omega) fun i hi hij=>?_
    by_cases e:i=j
    ·subst e;exact h2 rfl
    ·exact hw i hi (by omega)
  ·rw [if_neg (by omega)]
   exact ⟨true,rfl,fun _ x hx=>by
    obtain ⟨i,hi,rfl⟩:=List.getElem_of_mem hx
    exact hw i hi (by omega)⟩
theorem fits11_f (l:List S27):∃ k,∀ k',k≤k'→FineP (∀ x∈l,FitS x) (laws_zzFits11.f k' l):=by
 by_cases h:(l.length:Int) > 2147483647
 ·exact ⟨0,fun k' _=>by unfold laws_zzFits11.f;rw [if_pos h];exact ⟨false,rfl,fun h=>by cases h⟩⟩
 ·refine ⟨l.length+1,fun k' hk=>?_⟩
  obtain ⟨r,h1,h2⟩:=fits11_l l (by omega) l.length 0 (by omega) (by omega) (fun i _ h=>by omega)
  have hf:laws_zzFits11.f (l.length+1) l=some r:=by unfold laws_zzFits11.f;rw [if_neg h];exact h1
  refine ⟨r,?_,h2⟩
  obtain ⟨d,rfl⟩:∃ d,k'=l.length+1+d:=⟨k' - (l.length+1),by omega⟩
  clear hk
  induction d with
  |zero=>exact hf
  |succ d ih=>exact laws_zzFits11.mono l (l.length+1+d) r ih
theorem fits11_all:∀ (l:List (List S27)),∃ M,∀ r∈l,∀ k',M≤k'→FineP (∀ x∈r,FitS x) (laws_zzFits11.f k' r)
 |[]=>⟨0,fun r hr=>by cases hr⟩
 |a::l=>by
  obtain ⟨M1,h1⟩:=fits11_f a
  obtain ⟨M2,h2⟩:=fits11_all l
  refine ⟨max M1 M2,fun r hr k' hk=>?_⟩
  rcases List.mem_cons.1 hr with e|hr
  ·subst e;exact h1 k' (by omega)
  ·exact h2 r hr k' (by omega)
theorem fits10_l (l:List (List S27)) (hl:l.length≤2147483647) (M:Nat) (hM:∀ r∈l,∀ k',M≤k'→FineP (∀ x∈r,FitS x) (laws_zzFits11.f k' r)):∀ n j,l.length - j=n→j≤l.length→(∀ i (h:i < l.length),i < j→∀ x∈l[i],FitS x)→FineP (∀ r∈l,∀ x∈r,FitS x) (laws_zzFits10.l0 (M+n+1) l (l.length:Int) (j:Int))
 |n,j,hn,hj,hw=>by
  rw [laws_zzFits10.l0]
  by_cases hlt:j < l.length
  ·obtain ⟨m,rfl⟩:∃ m,n=m+1:=⟨n - 1,by omega⟩
   have hwj:wrap64 ((j:Int)+1)=((j+1:Nat):Int):=by unfold wrap64;omega
   have hrd:rd_L4 l (j:Int)=l[j]:=by unfold rd_L4;rw [List.getD_eq_getElem?_getD,Int.toNat_natCast,List.getElem?_eq_getElem hlt];rfl
   rw [if_pos (by omega),if_pos (by omega),if_pos (by omega),hwj,hrd]
   obtain ⟨r,h1,h2⟩:=hM l[j] (List.getElem_mem hlt) (M+(m+1)) (by omega)
   rw [h1]
   cases r with
   |false=>exact ⟨false,rfl,fun h=>by cases h⟩
   |true=>
    refine fits10_l l hl M hM m (j+1) (by omega) (by omega) fun i hi hij=>?_
    by_cases e:i=j
    ·subst e;exact h2 rfl
    ·exact hw i hi (by omega)
  ·rw [if_neg (by omega)]
   exact ⟨true,rfl,fun _ x hx=>by
    obtain ⟨i,hi,rfl⟩:=List.getElem_of_mem hx
    exact hw i hi (by omega)⟩
theorem fits10_f (l:List (List S27)):∃ k,FineP (l.length≤2147483647∧∀ r∈l,∀ x∈r,FitS x) (laws_zzFits10.f k l):=by
 by_cases h:(l.length:Int) > 2147483647
 ·exact ⟨0,by unfold laws_zzFits10.f;rw [if_pos h];exact ⟨false,rfl,fun h=>by cases h⟩⟩
 ·obtain ⟨M,hM⟩:=fits11_all l
  obtain ⟨r,h1,h2⟩:=fits10_l l (by omega) M hM l.length 0 (by omega) (by omega) (fun i _ h=>by omega)
  exact ⟨M+l.length+1,r,by unfold laws_zzFits10.f;rw [if_neg h];exact h1,fun h=>⟨by omega,h2 h⟩⟩
theorem fits_calls (w:World) (A:Option Addr) (c:Nat) (l:List (List S27)) (hr:Kd.C (Kd.slice 27 k27) w A l.length l) (hc:l.length≤c):
  Calls Tryz.prog 4 #[.slice A l.length c] w fun e w'=>(∃ b,e=.returned (.bool b)∧(b=true→l.length≤2147483647∧∀ r∈l,∀ x∈r,FitS x))∧Below w.heap.size w w':=by
 obtain ⟨k,r,h1,h2⟩:=fits10_f l
 refine (laws_zzFits10.calls k A c l r w hr hc h1).mono ?_
 rintro e w' ⟨rfl,hb⟩
 exact ⟨⟨r,rfl,h2⟩,hb⟩
end Go.Proofs.YtbheflncgmhadaaGreat.Hand
namespace Go.Proofs.YtbheflncgmhadaaGreat.Hand
open Go.RowKit Go.Proofs.YtbheflncgmhadaaGreatW.PrintWords Go.Proofs.YtbheflncgmhadaaGreatW.PrintLast Go.Proofs.YtbheflncgmhadaaGreatW.PrintMore
def textP (s:ByteArray):PN Empty:=⟨1,⟨#[]⟩,s,[]⟩
def cellP (x:CA):PN (PN Empty):=⟨0,x.nm,⟨#[]⟩,if x.text.size=0 then [] else [textP x.text]⟩
def rowP (r:List CA):PN (PN (PN Empty)):=⟨0,nTr,⟨#[]⟩,r.map cellP⟩
def groupP (g:ByteArray×List (List CA)):PN (PN (PN (PN Empty))):=⟨0,g.1,⟨#[]⟩,g.2.map rowP⟩
def tableP (gs:List (ByteArray×List (List CA))):PN (PN (PN (PN (PN Empty)))):=⟨0,nTable,⟨#[]⟩,gs.map groupP⟩
def docP (gs:List (ByteArray×List (List CA))):PN (PN (PN (PN (PN (PN Empty))))):=⟨3,⟨#[]⟩,⟨#[]⟩,[tableP gs]⟩
abbrev kd1:Kd (PN Empty):=pnK emptyK
abbrev kd2:Kd (PN (PN Empty)):=pnK kd1
abbrev kd3:Kd (PN (PN (PN Empty))):=pnK kd2
abbrev kd4:Kd (PN (PN (PN (PN Empty)))):=pnK kd3
abbrev kd5:Kd (PN (PN (PN (PN (PN Empty))))):=pnK kd4
abbrev kd6:Kd (PN (PN (PN (PN (PN (PN Empty)))))):=pnK kd5
abbrev of0:Empty→DT→Prop:=fun x _=>x.elim
abbrev ok0:Empty→Prop:=fun _=>True
theorem OfAll.of_map {α β:Type} {of:α→DT→Prop} {of':β→DT→Prop} {f:β→α}:∀ {l:List β} {d:List DT},OfAll of (l.map f) d→(∀ x∈l,∀ t,of (f x) t→of' x t)→OfAll of' l d
 |[],d,h,_=>h
 |x::r,d,h,hi=>by
  obtain ⟨u,l',rfl,h1,h2⟩:=h
  exact ⟨u,l',rfl,hi x (List.mem_cons_self ..) u h1,OfAll.of_map h2 fun y hy=>hi y (List.mem_cons_of_mem _ hy)⟩
theorem of_text {s:ByteArray} {t:DT} (h:pnOf of0 (textP s) t):∃ b,t=.node b (textNI s) []:=by
 obtain ⟨b,i,k⟩:=t
 obtain ⟨rfl,h2⟩:=h
 have h2:k=[]:=h2
 subst h2
 exact ⟨b,rfl⟩
theorem of_cell {x:CA} {t:DT} (h:pnOf (pnOf of0) (cellP x) t):IsCell x t:=by
 obtain ⟨b,i,k⟩:=t
 obtain ⟨rfl,h2⟩:=h
 refine ⟨b,k,rfl,?_⟩
 unfold cellP at h2
 by_cases h0:x.text.size=0
 ·rw [if_pos h0] at h2
  exact .inl ⟨h0,h2⟩
 ·rw [if_neg h0] at h2
  obtain ⟨u,l',rfl,h3,h4⟩:=h2
  have h4:l'=[]:=h4
  subst h4
  obtain ⟨b',rfl⟩:=of_text h3
  exact .inr ⟨h0,b',rfl⟩
theorem of_row {r:List CA} {t:DT} (h:pnOf (pnOf (pnOf of0)) (rowP r) t):IsRow r t:=by
 obtain ⟨b,i,k⟩:=t
 obtain ⟨rfl,h2⟩:=h
 exact ⟨b,k,rfl,h2.of_map fun x _ t h=>of_cell h⟩
theorem of_group {g:ByteArray×List (List CA)} {t:DT} (h:pnOf (pnOf (pnOf (pnOf of0))) (groupP g) t):IsGroup g t:=by
 obtain ⟨b,i,k⟩:=t
 obtain ⟨rfl,h2⟩:=h
 exact ⟨b,k,rfl,h2.of_map fun x _ t h=>of_row h⟩
theorem of_table {gs:List (ByteArray×List (List CA))} {t:DT} (h:pnOf (pnOf (pnOf (pnOf (pnOf of0)))) (tableP gs) t):IsTable gs t:=by
 obtain ⟨b,i,k⟩:=t
 obtain ⟨rfl,h2⟩:=h
 exact ⟨b,k,rfl,h2.of_map fun x _ t h=>of_group h⟩
theorem of_doc {gs:List (ByteArray×List (List CA))} {t:DT} (h:pnOf (pnOf (pnOf (pnOf (pnOf (pnOf of0))))) (docP gs) t):IsDoc gs t:=by
 obtain ⟨b,i,k⟩:=t
 obtain ⟨rfl,h2⟩:=h
 obtain ⟨u,l',rfl,h3,h4⟩:=h2
 have h4:l'=[]:=h4
 subst h4
 exact ⟨b,u,rfl,of_table h3⟩
theorem na1:NoAtom nTd:=⟨by kernel_rfl,by kernel_rfl⟩
theorem na2:NoAtom nTh:=⟨by kernel_rfl,by kernel_rfl⟩
theorem na3:NoAtom nTr:=⟨by kernel_rfl,by kernel_rfl⟩
theorem na4:NoAtom nTable:=⟨by kernel_rfl,by kernel_rfl⟩
theorem na5:NoAtom nThead:=⟨by kernel_rfl,by kernel_rfl⟩
theorem na6:NoAtom nTbody:=⟨by kernel_rfl,by kernel_rfl⟩
theorem na7:NoAtom nTfoot:=⟨by kernel_rfl,by kernel_rfl⟩
theorem noAtom_nm (x:CA):NoAtom x.nm:=by
 unfold CA.nm
 cases x.head
 ·exact na1
 ·exact na2
theorem noAtom_group {nm:ByteArray} (h:GroupNm nm):NoAtom nm:=by
 rcases h with rfl|rfl|rfl
 ·exact na5
 ·exact na6
 ·exact na7
theorem ok_cell (x:CA):PnOk (PnOk ok0) (cellP x):=.inl ⟨rfl,noAtom_nm x,fun y hy=>by
 unfold cellP at hy
 dsimp only at hy
 split at hy
 ·cases hy
 ·rw [List.mem_singleton] at hy
  subst hy
  exact .inr (.inl ⟨rfl,rfl⟩)⟩
theorem ok_row (r:List CA):PnOk (PnOk (PnOk ok0)) (rowP r):=.inl ⟨rfl,na3,fun y hy=>by
 obtain ⟨x,_,rfl⟩:=List.mem_map.1 hy
 exact ok_cell x⟩
theorem ok_group {g:ByteArray×List (List CA)} (h:GroupNm g.1):PnOk (PnOk (PnOk (PnOk ok0))) (groupP g):=.inl ⟨rfl,noAtom_group h,fun y hy=>by
 obtain ⟨x,_,rfl⟩:=List.mem_map.1 hy
 exact ok_row x⟩
theorem ok_table {gs:List (ByteArray×List (List CA))} (h:∀ g∈gs,GroupNm g.1):PnOk (PnOk (PnOk (PnOk (PnOk ok0)))) (tableP gs):=.inl ⟨rfl,na4,fun y hy=>by
 obtain ⟨x,hx,rfl⟩:=List.mem_map.1 hy
 exact ok_group (h x hx)⟩
theorem ok_doc {gs:List (ByteArray×List (List CA))} (h:∀ g∈gs,GroupNm g.1):PnOk (PnOk (PnOk (PnOk (PnOk (PnOk ok0))))) (docP gs):=.inr (.inr ⟨rfl,fun y hy=>by
 rw [show (docP gs).kids=[tableP gs] from rfl,List.mem_singleton] at hy
 subst hy
 exact ok_table h⟩)
theorem made_doc_calls (w:World) (gs:List (ByteArray×List (List CA))) (hg:∀ g∈gs,GroupNm g.1) (cs:List Value) (h:kd6.K w (docP gs) cs):
  Calls Tryz.prog 28 #[.agg cs.toArray] w fun e w'=>∃ t,e=.returned (.pointer (some ⟨t.blk,0,none⟩))∧IsDoc gs t∧DocAt w' t∧t.all.Nodup∧t.Lt w'.heap.size∧Below w.heap.size w w':=by
 have m1:=made_ok made_none rfl emptyForm
 have m2:=made_ok m1 rfl (pnForm _)
 have m3:=made_ok m2 rfl (pnForm _)
 have m4:=made_ok m3 rfl (pnForm _)
 have m5:=made_ok m4 rfl (pnForm _)
 have m6:=made_ok m5 rfl (pnForm _)
 refine (m6 w (docP gs) cs (ok_doc hg) h).mono ?_
 rintro e w' ⟨t,rfl,h1,h2⟩
 have hd:=of_doc h1
 refine ⟨t,rfl,hd,⟨h2.at_,hd.shape hg,fun b i k e=>?_⟩,h2.nodup,DT.At.lt h2.at_,h2.below⟩
 obtain ⟨b',T,rfl,_⟩:=hd
 cases e
 rfl
end Go.Proofs.YtbheflncgmhadaaGreat.Hand
namespace Go.Proofs.YtbheflncgmhadaaGreat.Hand
open Go.RowKit Go.Proofs.YtbheflncgmhadaaGreatW.PrintWords Go.Proofs.YtbheflncgmhadaaGreatW.PrintLast Go.Proofs.YtbheflncgmhadaaGreatW.PrintMore
open Go.Proofs.YtbheflncgmhadaaGreat.PzzFits10
def ca (x:S27):CA:=⟨x.f0,x.f1,x.f2,x.f3,x.f4⟩
abbrev car (r:List S27):List CA:=r.map ca
abbrev cas (l:List (List S27)):List (List CA):=l.map car
def CellFine (x:S27):Prop:=x.f2.size=0∧x.f3≤1∧x.f4≤1∧∀ i,i < x.f0.size→WOk x.f0 i
structure NeatS (l:List (List S27)):Prop where
 few:l.length≤12
 row:∀ r∈l,r.length≠0∧r.length≤12
 cell:∀ r∈l,∀ x∈r,CellFine x
theorem NeatS.neat {l:List (List S27)} (h:NeatS l) (hne:l.length≠0) (hf:∀ r∈l,∀ x∈r,FitS x):Neat (cas l):=by
 refine ⟨fun e=>hne (by have:=congrArg List.length e;simpa using this),by simpa using h.few,fun r hr=>?_,fun r hr x hx=>?_⟩
 ·obtain ⟨r0,h0,rfl⟩:=List.mem_map.1 hr
  have:=h.row r0 h0
  refine ⟨fun e=>this.1 (by have:=congrArg List.length e;simpa using this),by simpa using this.2⟩
 ·obtain ⟨r0,h0,rfl⟩:=List.mem_map.1 hr
  obtain ⟨x0,h1,rfl⟩:=List.mem_map.1 hx
  obtain ⟨a1,a2,a3,a4⟩:=h.cell r0 h0 x0 h1
  exact ⟨a1,a2,a3,fun hz=>textOk_of hz (hf r0 h0 x0 h1) a4⟩
def oneG (rows:List (List CA)):List (ByteArray×List (List CA)):=[(nTbody,rows)]
def threeG (rows:List (List CA)) (k:Nat):List (ByteArray×List (List CA)):=[(nThead,rows.take 1),(nTbody,(rows.take k).drop 1),(nTfoot,rows.drop k)]
theorem oneG_flat (rows:List (List CA)):(oneG rows).flatMap (·.2)=rows:=by simp [oneG]
theorem threeG_flat (rows:List (List CA)) (k:Nat) (hk:1≤k):(threeG rows k).flatMap (·.2)=rows:=by
 have e1:rows.take 1=(rows.take k).take 1:=by rw [List.take_take,Nat.min_eq_left hk]
 simp only [threeG,List.flatMap_cons,List.flatMap_nil,List.append_nil]
 rw [e1,← List.append_assoc,List.take_append_drop,List.take_append_drop]
theorem oneG_nm (rows:List (List CA)):∀ g∈oneG rows,GroupNm g.1:=by
 intro g hg
 rw [oneG,List.mem_singleton] at hg
 subst hg
 exact .inr (.inl rfl)
theorem threeG_nm (rows:List (List CA)) (k:Nat):∀ g∈threeG rows k,GroupNm g.1:=by
 intro g hg
 simp only [threeG,List.mem_cons,List.not_mem_nil,or_false] at hg
 rcases hg with rfl|rfl|rfl
 ·exact .inl rfl
 ·exact .inr (.inl rfl)
 ·exact .inr (.inr rfl)
theorem oneG_head {rows:List (List CA)} {x0:CA} {r0:List CA} {rest:List (List CA)} (h:rows=(x0::r0)::rest) (hx:x0.head=true):HeadOk (oneG rows):=.inl ⟨x0,r0,rest,by rw [oneG,h],hx⟩
theorem threeG_head {rows:List (List CA)} {k:Nat} {r0:List CA} {rest:List (List CA)} (h:rows=r0::rest):HeadOk (threeG rows k):=.inr ⟨r0,_,by rw [threeG,h];rfl⟩
end Go.Proofs.YtbheflncgmhadaaGreat.Hand
