/- A table, written. Conditions: those in each statement. -/
import Derived.Test.YtbheflncgmhadaaGreatXp
set_option linter.unusedVariables false
set_option linter.unusedSimpArgs false
set_option maxHeartbeats 40000000
set_option maxRecDepth 100000
namespace Go.Proofs.YtbheflncgmhadaaGreat.Hand
open Go.RowKit Go.Proofs.YtbheflncgmhadaaGreatW.PrintWords Go.Proofs.YtbheflncgmhadaaGreatW.PrintLast Go.Proofs.YtbheflncgmhadaaGreatW.PrintMore
attribute [local go_sem] run_store_func'
theorem at_str {w:World} {A:Option Addr} {xs:List ByteArray} (h:Kd.C Kd.string w A xs.length xs) (j:Nat) (hj:j < xs.length):∃ ad,A=some ad∧w.cell? (ad.add j)=some (.string xs[j]):=by
 obtain ⟨ad,cs,e,_,hK,hc0⟩:=Kd.C_get h (⟨#[]⟩:ByteArray) (j:Int) (by omega) (by omega)
 have hg:xs.getD (j:Int).toNat (⟨#[]⟩:ByteArray)=xs[j]:=by simp [hj]
 rw [hg] at hK
 have hK':cs=[.string xs[j]]:=hK
 subst hK'
 refine ⟨ad,e,?_⟩
 have hq:=hc0 0 _ rfl
 rw [show Kd.string.sz=1 from rfl,Nat.mul_one,Nat.add_zero,Int.toNat_natCast] at hq
 exact hq
theorem getAlign_calls (w:World) (A:Option Addr) (n c i:Nat) (hn:n≤1000) (h:Kd.C Kd.string w A n (List.replicate n ⟨#[]⟩)):
  Calls Tryz.prog 421 #[.slice A n c,.int .i64 (i:Int)] w fun e w'=>e=.returned (.string ⟨#[]⟩)∧w'=w:=by
 have hw1:wrap64 ((n:Int) - 1)=(n:Int) - 1:=by unfold wrap64;omega
 by_cases hi:i < n
 ·obtain ⟨ad,rfl,k1⟩:=at_str (xs:=List.replicate n ⟨#[]⟩) (by rw [List.length_replicate];exact h) i (by rw [List.length_replicate];exact hi)
  rw [List.getElem_replicate] at k1
  have d1:decide ((i:Int) > (n:Int) - 1)=false:=decide_eq_false (by omega)
  have d2:((n:Int) - 1 < (i:Int))=False:=eq_false (by omega)
  have hpp:=eq_true hi
  clear h
  go_enter Tryz.func421,Tryz.ntmps421
  go_wp2
  go_ret
  exact ⟨rfl,rfl⟩
 ·have d1:decide ((i:Int) > (n:Int) - 1)=true:=decide_eq_true (by omega)
  have d2:((n:Int) - 1 < (i:Int))=True:=eq_true (by omega)
  clear h
  go_enter Tryz.func421,Tryz.ntmps421
  go_wp2
  go_ret
  exact ⟨rfl,rfl⟩
def ulPc (al:Bool) (i:Nat) (cnt:Int):List UInt8:=(if i=0 then [124] else [])++[45]++(if al then List.replicate cnt.toNat 45 else [45])++[45]++[124]
def ulPcs (al:Bool) (counts:List Int):List (List UInt8):=(List.range counts.length).map fun i=>ulPc al i (counts.getD i 0)
theorem ulPcs_len (al:Bool) (counts:List Int):(ulPcs al counts).length=counts.length:=by unfold ulPcs;simp
theorem ulPcs_at (al:Bool) (counts:List Int) (j:Nat) (h:j < counts.length):(ulPcs al counts)[j]?=some (ulPc al j counts[j]):=by
 unfold ulPcs
 rw [List.getElem?_map,List.getElem?_range h,Option.map_some,getD_at counts j h]
theorem underline_aligned {N X C cm tp bs:Nat} {tab:Nat→Int} {po:PO} {w:World} {b:Nat} {l:List UInt8} (hx:Cx N w X C cm tp bs tab po) (hs:Sink N w b l) (hpad:po.pad=⟨#[97,108,105,103,110,101,100]⟩) (counts:List Int) (gc cc:Nat) (hcnt:∀ wx l1,Pours w wx b l l1→∀ j (hj:j < counts.length),wx.cell? ⟨gc,j,none⟩=some (.int .i64 counts[j])) (hcl:counts.length≤1000∧∀ y∈counts,1≤y∧y≤2147483647)
  (A:Option Addr) (n c:Nat) (hn:n≤1000) (hal:∀ wx l1,Pours w wx b l l1→Kd.C Kd.string wx A n (List.replicate n ⟨#[]⟩)) (hlim:l.length+(ulPcs true counts).flatten.length≤4000000000000):
  Calls Tryz.prog 410 #[.pointer (some ⟨tp,0,none⟩),.iface 148 (.pointer (some ⟨b,0,none⟩)),.slice A n c,.slice (some ⟨gc,0,none⟩) counts.length cc] w fun e w'=>e=.returned (.tuple #[])∧Pours w w' b l (l++(ulPcs true counts).flatten):=by
 have HX:=am hx
 have HS:=am hs
 have HPAD:=am hpad
 have HCNT:=am hcnt
 have HCL:=am hcl
 have HAL:=am hal
 have HN:=am hn
 have HLIM:=am hlim
 have hws:=method_ws (some ⟨b,0,none⟩)
 have hnl:=nil_ws ⟨b,0,none⟩
 obtain ⟨pcs,hpcs⟩:∃ pcs,ulPcs true counts=pcs:=⟨_,rfl⟩
 have HPCS:=am hpcs
 rw [hpcs] at HLIM
 clear hx hs hpad hcnt hcl hal hn hlim hpcs
 go_enter Tryz.func410,Tryz.ntmps410
 go_wp2
 go_loopg [14] counts.length (fun gf v14 wx=>∃ (j:Nat),v14=.int .i64 (j:Int)∧Aside0 (j≤counts.length∧counts.length - j=gf)∧Aside0 (Pours w wx b l (l++(pcs.take j).flatten)))
 case atStart=>exact ⟨0,rfl,⟨by omega,by omega⟩,⟨by simpa using Pours.refl HS.out⟩⟩
 case round=>
  obtain ⟨j,rfl,HP,HP0⟩:=hrel
  by_cases hj:j < counts.length
  ·have hpp:=eq_true hj
   have hlt:decide ((j:Int) < (counts.length:Int))=true:=decide_eq_true (by omega)
   have hwj:wrap64 ((j:Int)+1)=((j+1:Nat):Int):=by have:=HCL.out.1;unfold wrap64;omega
   have hjp:j < pcs.length:=by rw [← HPCS.out,ulPcs_len];exact hj
   have hpj:pcs[j]=ulPc true j counts[j]:=by
    have h1:=ulPcs_at true counts j hj
    rw [HPCS.out,List.getElem?_eq_getElem hjp] at h1
    exact Option.some.inj h1
   have hfl:=flat_take pcs j hjp
   have hfle:=flat_take_le pcs (j+1)
   rw [hfl,List.length_append,hpj] at hfle
   rw [hpj] at hfl
   have hcj:=HCL.out.2 _ (List.getElem_mem hj)
   have ck:=HCNT.out _ _ HP0.out j hj
   obtain ⟨cnt,hcnt⟩:∃ cnt,counts[j]=cnt:=⟨_,rfl⟩
   rw [hcnt] at hcj ck hfl hfle
   obtain ⟨m,hm⟩:∃ m,cnt.toNat=m:=⟨_,rfl⟩
   have hcm:cnt=(m:Int):=by omega
   subst hcm
   have hm1:1≤m∧m≤2147483647:=by omega
   have hmt:((m:Nat):Int).toNat=m:=by omega
   obtain ⟨cur,hcur⟩:∃ cur,l++(pcs.take j).flatten=cur:=⟨_,rfl⟩
   have HFL:=am (show l++(pcs.take (j+1)).flatten=cur++ulPc true j m by rw [hfl,← List.append_assoc,hcur])
   have HM1:=am hm1
   have HMT:=am hmt
   have HLIM2:=am (show cur.length+(ulPc true j m).length≤4000000000000∧(ulPc true j m).length=(if j=0 then 1 else 0)+(m+3) from ⟨by rw [← hcur,List.length_append];have:=HLIM.out;omega,by unfold ulPc;by_cases h:j=0 <;> simp [h] <;> omega⟩)
   have HJ:=am hj
   rw [hcur] at HP0
   have CA:=am (getAlign_calls _ A n c j HN.out (HAL.out _ _ HP0.out))
   clear hj hjp hpj hfl hfle hcj hcnt hm hm1 hmt hcur
   go_wp2_with (go_at_call 421;fail)
   refine CA.out.mono ?_
   rintro e wz ⟨rfl,hw⟩
   rw [hw]
   clear hw CA
   by_cases h0:j=0
   case' pos=>
    have d0:((j:Int)==0)=true:=beq_iff_eq.mpr (by omega)
    have e0:=eq_true h0
    have HFS0:=am (show ([124]:List UInt8)=(if j=0 then [124] else []) by rw [if_pos h0])
    have HLB2:=am (show cur.length+(([124]:List UInt8).length+(m+3))≤4000000000000 by have:=HLIM2.out;rw [if_pos h0] at this;simp only [List.length_cons,List.length_nil];omega)
    clear h0
    go_wp2_with (go_at_call 335;fail)
    refine (sink_byte (HP0.out.sink HS.out) 124 (by have:=HLB2.out;(try simp only [List.length_append,List.length_cons,List.length_nil,List.length_replicate]);omega)).mono ?_
    rintro e w1 ⟨rfl,hp⟩
    have HP1:=am (HP0.out.trans hp)
    clear hp
    obtain ⟨fs,hfs⟩:∃ fs:List UInt8,fs=[124]:=⟨_,rfl⟩
    have HFS:=am (hfs.trans HFS0.out)
    rw [← hfs] at HP1 HLB2
    clear hfs
   case' neg=>
    have d0:((j:Int)==0)=false:=beq_eq_false_iff_ne.mpr (by omega)
    have e0:=eq_false h0
    have HFS0:=am (show ([]:List UInt8)=(if j=0 then [124] else []) by rw [if_neg h0])
    have HLB2:=am (show cur.length+(([]:List UInt8).length+(m+3))≤4000000000000 by have:=HLIM2.out;rw [if_neg h0] at this;simp only [List.length_nil];omega)
    clear h0
    have HP1:Aside0 (Pours w wr b l (cur++[])):=⟨by rw [List.append_nil];exact HP0.out⟩
    obtain ⟨fs,hfs⟩:∃ fs:List UInt8,fs=[]:=⟨_,rfl⟩
    have HFS:=am (hfs.trans HFS0.out)
    rw [← hfs] at HP1 HLB2
    clear hfs
   all_goals
    go_wp2_with (go_at_call 335;fail)
    refine (sink_byte (HP1.out.sink HS.out) 45 (by have:=HLB2.out;(try simp only [List.length_append,List.length_cons,List.length_nil,List.length_replicate]);omega)).mono ?_
    rintro e w2 ⟨rfl,hp⟩
    have HP2:=am (HP1.out.trans hp)
    clear hp
    have pk2:=((HX.out.keep (HP2.out.below HS.out)).now.plug.pad)
    rw [HPAD.out] at pk2
    have CRP:=am (fun w=>Tryz.strings_Repeat ⟨#[45]⟩ m w (by have:=HM1.out;omega) (by show 1 * m≤_;have:=HM1.out;omega))
    have mixed:Tryz.prog.follows .mixedOrders=true:=by kernel_rfl
    have HP3d:=am (HP2.out.trans (Pours.still (HP2.out.sink HS.out) (below_drew (Below.refl _ _))))
    go_wp2
    go_region_with_o (first|(go_at_call 293;refine (CRP.out _).mono ?_;rintro e w3 ⟨rfl,hb⟩;have HP3:=am (HP3d.out.trans (Pours.still (HP3d.out.sink HS.out) hb));clear hb;rw [repeat_one])|(go_at_call 335;refine (sink_string (HP3.out.sink HS.out) ⟨(List.replicate m (45:UInt8)).toArray⟩ (by simp [ByteArray.size];exact HM1.out.1) (by have:=HLB2.out;simp only [List.length_append,List.length_cons,List.length_nil,ByteArray.size,List.size_toArray,List.length_replicate];omega)).mono ?_;rintro e w4 ⟨rfl,hp⟩;have HP4:=am (HP3.out.trans hp);clear hp)|fail)
    all_goals
     go_wp2_with (go_at_call 335;fail)
     refine (sink_byte (HP4.out.sink HS.out) 45 (by have:=HLB2.out;(try simp only [List.length_append,List.length_cons,List.length_nil,List.length_replicate]);omega)).mono ?_
     rintro e w5 ⟨rfl,hp⟩
     have HP5:=am (HP4.out.trans hp)
     clear hp
     go_wp2_with (go_at_call 335;fail)
     refine (sink_byte (HP5.out.sink HS.out) 124 (by have:=HLB2.out;(try simp only [List.length_append,List.length_cons,List.length_nil,List.length_replicate]);omega)).mono ?_
     rintro e w6 ⟨rfl,hp⟩
     have HP6:=am (HP5.out.trans hp)
     clear hp
     go_wp2
     go_roundg (counts.length - (j+1))
     case measure=>have:=HP.out;have:=HJ.out;omega
     case rel=>
      refine ⟨j+1,by rw [hwj],⟨by have:=HJ.out;omega,rfl⟩,⟨?_⟩⟩
      rw [HFL.out]
      have h:=HP6.out
      unfold ulPc
      rw [← HFS.out,HMT.out]
      simpa [List.append_assoc] using h
  ·have hpp:=eq_false hj
   have hlt:decide ((j:Int) < (counts.length:Int))=false:=decide_eq_false (by omega)
   have HJ:=am hj
   clear hj
   go_wp2
   go_end0
   have e:pcs.take j=pcs:=by
    have h1:=ulPcs_len true counts
    rw [HPCS.out] at h1
    exact List.take_of_length_le (by have:=HP.out;have:=HJ.out;omega)
   have h:=HP0.out
   rw [e] at h
   rw [HPCS.out]
   exact ⟨rfl,h⟩
theorem underline_other {N X C cm tp bs:Nat} {tab:Nat→Int} {po:PO} {w:World} {b:Nat} {l:List UInt8} (hx:Cx N w X C cm tp bs tab po) (hs:Sink N w b l) (hpad:(po.pad.toList==[97,108,105,103,110,101,100])=false) (counts:List Int) (gc cc:Nat) (hcnt:∀ wx l1,Pours w wx b l l1→∀ j (hj:j < counts.length),wx.cell? ⟨gc,j,none⟩=some (.int .i64 counts[j])) (hcl:counts.length≤1000∧∀ y∈counts,1≤y∧y≤2147483647)
  (A:Option Addr) (n c:Nat) (hn:n≤1000) (hal:∀ wx l1,Pours w wx b l l1→Kd.C Kd.string wx A n (List.replicate n ⟨#[]⟩)) (hlim:l.length+(ulPcs false counts).flatten.length≤4000000000000):
  Calls Tryz.prog 410 #[.pointer (some ⟨tp,0,none⟩),.iface 148 (.pointer (some ⟨b,0,none⟩)),.slice A n c,.slice (some ⟨gc,0,none⟩) counts.length cc] w fun e w'=>e=.returned (.tuple #[])∧Pours w w' b l (l++(ulPcs false counts).flatten):=by
 have HX:=am hx
 have HS:=am hs
 have HPAD:=am hpad
 have HCNT:=am hcnt
 have HCL:=am hcl
 have HAL:=am hal
 have HN:=am hn
 have HLIM:=am hlim
 have hws:=method_ws (some ⟨b,0,none⟩)
 have hnl:=nil_ws ⟨b,0,none⟩
 obtain ⟨pcs,hpcs⟩:∃ pcs,ulPcs false counts=pcs:=⟨_,rfl⟩
 have HPCS:=am hpcs
 rw [hpcs] at HLIM
 clear hx hs hpad hcnt hcl hal hn hlim hpcs
 go_enter Tryz.func410,Tryz.ntmps410
 go_wp2
 go_loopg [14] counts.length (fun gf v14 wx=>∃ (j:Nat),v14=.int .i64 (j:Int)∧Aside0 (j≤counts.length∧counts.length - j=gf)∧Aside0 (Pours w wx b l (l++(pcs.take j).flatten)))
 case atStart=>exact ⟨0,rfl,⟨by omega,by omega⟩,⟨by simpa using Pours.refl HS.out⟩⟩
 case round=>
  obtain ⟨j,rfl,HP,HP0⟩:=hrel
  by_cases hj:j < counts.length
  ·have hpp:=eq_true hj
   have hlt:decide ((j:Int) < (counts.length:Int))=true:=decide_eq_true (by omega)
   have hwj:wrap64 ((j:Int)+1)=((j+1:Nat):Int):=by have:=HCL.out.1;unfold wrap64;omega
   have hjp:j < pcs.length:=by rw [← HPCS.out,ulPcs_len];exact hj
   have hpj:pcs[j]=ulPc false j counts[j]:=by
    have h1:=ulPcs_at false counts j hj
    rw [HPCS.out,List.getElem?_eq_getElem hjp] at h1
    exact Option.some.inj h1
   have hfl:=flat_take pcs j hjp
   have hfle:=flat_take_le pcs (j+1)
   rw [hfl,List.length_append,hpj] at hfle
   rw [hpj] at hfl
   have hcj:=HCL.out.2 _ (List.getElem_mem hj)
   have ck:=HCNT.out _ _ HP0.out j hj
   obtain ⟨cnt,hcnt⟩:∃ cnt,counts[j]=cnt:=⟨_,rfl⟩
   rw [hcnt] at hcj ck hfl hfle
   obtain ⟨m,hm⟩:∃ m,cnt.toNat=m:=⟨_,rfl⟩
   have hcm:cnt=(m:Int):=by omega
   subst hcm
   have hm1:1≤m∧m≤2147483647:=by omega
   have hmt:((m:Nat):Int).toNat=m:=by omega
   obtain ⟨cur,hcur⟩:∃ cur,l++(pcs.take j).flatten=cur:=⟨_,rfl⟩
   have HFL:=am (show l++(pcs.take (j+1)).flatten=cur++ulPc false j m by rw [hfl,← List.append_assoc,hcur])
   have HM1:=am hm1
   have HMT:=am hmt
   have HLIM2:=am (show cur.length+(ulPc false j m).length≤4000000000000∧(ulPc false j m).length=(if j=0 then 1 else 0)+(1+3) from ⟨by rw [← hcur,List.length_append];have:=HLIM.out;omega,by unfold ulPc;by_cases h:j=0 <;> simp [h] <;> omega⟩)
   have HJ:=am hj
   rw [hcur] at HP0
   have CA:=am (getAlign_calls _ A n c j HN.out (HAL.out _ _ HP0.out))
   clear hj hjp hpj hfl hfle hcj hcnt hm hm1 hmt hcur
   go_wp2_with (go_at_call 421;fail)
   refine CA.out.mono ?_
   rintro e wz ⟨rfl,hw⟩
   rw [hw]
   clear hw CA
   by_cases h0:j=0
   case' pos=>
    have d0:((j:Int)==0)=true:=beq_iff_eq.mpr (by omega)
    have e0:=eq_true h0
    have HFS0:=am (show ([124]:List UInt8)=(if j=0 then [124] else []) by rw [if_pos h0])
    have HLB2:=am (show cur.length+(([124]:List UInt8).length+(1+3))≤4000000000000 by have:=HLIM2.out;rw [if_pos h0] at this;simp only [List.length_cons,List.length_nil];omega)
    clear h0
    go_wp2_with (go_at_call 335;fail)
    refine (sink_byte (HP0.out.sink HS.out) 124 (by have:=HLB2.out;(try simp only [List.length_append,List.length_cons,List.length_nil,List.length_replicate]);omega)).mono ?_
    rintro e w1 ⟨rfl,hp⟩
    have HP1:=am (HP0.out.trans hp)
    clear hp
    obtain ⟨fs,hfs⟩:∃ fs:List UInt8,fs=[124]:=⟨_,rfl⟩
    have HFS:=am (hfs.trans HFS0.out)
    rw [← hfs] at HP1 HLB2
    clear hfs
   case' neg=>
    have d0:((j:Int)==0)=false:=beq_eq_false_iff_ne.mpr (by omega)
    have e0:=eq_false h0
    have HFS0:=am (show ([]:List UInt8)=(if j=0 then [124] else []) by rw [if_neg h0])
    have HLB2:=am (show cur.length+(([]:List UInt8).length+(1+3))≤4000000000000 by have:=HLIM2.out;rw [if_neg h0] at this;simp only [List.length_nil];omega)
    clear h0
    have HP1:Aside0 (Pours w wr b l (cur++[])):=⟨by rw [List.append_nil];exact HP0.out⟩
    obtain ⟨fs,hfs⟩:∃ fs:List UInt8,fs=[]:=⟨_,rfl⟩
    have HFS:=am (hfs.trans HFS0.out)
    rw [← hfs] at HP1 HLB2
    clear hfs
   all_goals
    go_wp2_with (go_at_call 335;fail)
    refine (sink_byte (HP1.out.sink HS.out) 45 (by have:=HLB2.out;(try simp only [List.length_append,List.length_cons,List.length_nil,List.length_replicate]);omega)).mono ?_
    rintro e w2 ⟨rfl,hp⟩
    have HP2:=am (HP1.out.trans hp)
    clear hp
    have pk2:=((HX.out.keep (HP2.out.below HS.out)).now.plug.pad)
    have hne:=HPAD.out
    go_wp2_with (go_at_call 335;fail)
    refine (sink_byte (HP2.out.sink HS.out) 45 (by have:=HLB2.out;(try simp only [List.length_append,List.length_cons,List.length_nil,List.length_replicate]);omega)).mono ?_
    rintro e w4 ⟨rfl,hp⟩
    have HP4:=am (HP2.out.trans hp)
    clear hp
    go_wp2_with (go_at_call 335;fail)
    refine (sink_byte (HP4.out.sink HS.out) 45 (by have:=HLB2.out;(try simp only [List.length_append,List.length_cons,List.length_nil,List.length_replicate]);omega)).mono ?_
    rintro e w5 ⟨rfl,hp⟩
    have HP5:=am (HP4.out.trans hp)
    clear hp
    go_wp2_with (go_at_call 335;fail)
    refine (sink_byte (HP5.out.sink HS.out) 124 (by have:=HLB2.out;(try simp only [List.length_append,List.length_cons,List.length_nil,List.length_replicate]);omega)).mono ?_
    rintro e w6 ⟨rfl,hp⟩
    have HP6:=am (HP5.out.trans hp)
    clear hp
    go_wp2
    go_roundg (counts.length - (j+1))
    case measure=>have:=HP.out;have:=HJ.out;omega
    case rel=>
     refine ⟨j+1,by rw [hwj],⟨by have:=HJ.out;omega,rfl⟩,⟨?_⟩⟩
     rw [HFL.out]
     have h:=HP6.out
     unfold ulPc
     rw [← HFS.out]
     simpa [List.append_assoc] using h
  ·have hpp:=eq_false hj
   have hlt:decide ((j:Int) < (counts.length:Int))=false:=decide_eq_false (by omega)
   have HJ:=am hj
   clear hj
   go_wp2
   go_end0
   have e:pcs.take j=pcs:=by
    have h1:=ulPcs_len false counts
    rw [HPCS.out] at h1
    exact List.take_of_length_le (by have:=HP.out;have:=HJ.out;omega)
   have h:=HP0.out
   rw [e] at h
   rw [HPCS.out]
   exact ⟨rfl,h⟩
def PadIs (pad:ByteArray) (al bl:Bool):Prop:=(pad=bAligned∧al=true∧bl=true)∨(pad=bMinimal∧al=false∧bl=true)∨(pad=bNone∧al=false∧bl=false)
def lineT (al bl:Bool) (counts:List Int) (cells:List (List Int)):List UInt8:=(linePcs al bl counts cells).flatten
def bodyT (al bl:Bool) (counts:List Int) (rows:List (List (List Int))):List (List UInt8):=rows.map fun r=>lineT al bl counts r++[10]
def countsOf (L:List TRow):List Int:=maxCounts (L.map (·.1))
def fullOf (L:List TRow):List TRow:=fillRows (countsOf L).length L L.length
def tableText (al bl:Bool) (L:List TRow):List UInt8:=[10,10]++lineT al bl (countsOf L) ((fullOf L).getD 0 ([],0)).1++[10]++(ulPcs al (countsOf L)).flatten++[10]++(bodyT al bl (countsOf L) (((fullOf L).drop 1).map (·.1))).flatten++[10,10]
theorem Pours.far {N:Nat} {w0 w3 wx:World} {b:Nat} {l l1:List UInt8} (hs:Sink N w0 b l) (hb:Below w0.heap.size w0 w3) (hp:Pours w3 wx b l l1):∀ k,w0.heap.size≤k→k < w3.heap.size→wx.heap[k]?=w3.heap[k]?:=by
 intro k h1 h2
 obtain ⟨v,q1,q2,q3⟩:=hs.at_
 have hlt:=hs.lt
 refine hp.block h2 (by omega) ?_
 intro v' x y T hv' e
 rw [hb.block b hlt,q2] at hv'
 injection hv' with hv'
 injection hv' with hv' _ _
 have hv'':v=v':=by
  have:=congrArg (fun a:Array Value=>a[0]?) hv'
  simpa using this
 subst hv''
 rcases q1.2 with ⟨_,e0⟩|⟨_,g,cap,cur,e0,_,p3,_⟩
 ·rw [e0] at e
  simp [Value.ownBlock] at e
 ·have:=heap_lt p3
  rw [e0] at e
  have e':g=k:=by simpa [Value.ownBlock] using e
  omega
theorem nodup_keep {xss:List TRow}:(keepL xss xss.length).Sublist xss:=by
 unfold keepL
 have h:∀ l:List Nat,l.Sublist (List.range xss.length)→(l.map fun k=>xss.getD k ([],0)).Sublist ((List.range xss.length).map fun k=>xss.getD k ([],0)):=fun l hl=>hl.map _
 have e:(List.range xss.length).map (fun k=>xss.getD k ([],0))=xss:=by
  apply List.ext_getElem
  ·simp
  ·intro i h1 h2
   rw [List.getElem_map,List.getElem_range,List.getD_eq_getElem?_getD,List.getElem?_eq_getElem h2];rfl
 have:=h _ (List.filter_sublist (l:=List.range xss.length) (p:=fun k=>!drops xss k))
 rw [e] at this
 exact this
theorem removed_sublist (xss:List TRow):(removed xss).Sublist xss:=by
 unfold removed
 split
 ·exact List.nil_sublist _
 ·exact nodup_keep
theorem promoted_sublist (xss:List TRow):(promoted xss).Sublist xss:=by
 unfold promoted
 split
 ·exact List.drop_sublist _ _
 ·exact List.Sublist.refl _
theorem rowsOut_sublist (po:PO) (xss:List TRow):(rowsOut po xss).Sublist xss:=by
 unfold rowsOut
 cases po.promote <;> cases po.skip
 ·exact List.Sublist.refl _
 ·exact removed_sublist _
 ·exact promoted_sublist _
 ·exact (promoted_sublist _).trans (removed_sublist _)
theorem tags_nodup (po:PO) (tab:Nat→Int) (l:List (DT×List (DT×List UInt8))):((rowsOut po (rowsIn tab l)).map (·.2)).Nodup:=by
 refine ((rowsOut_sublist po (rowsIn tab l)).map (·.2)).nodup ?_
 unfold rowsIn
 rw [show (rowsIn0 tab l).zipIdx.map (fun x=>x.2)=(rowsIn0 tab l).zipIdx.map Prod.snd from rfl,List.zipIdx_map_snd]
 exact List.nodup_range'
theorem gridC_cells {f:Nat→Nat} {w:World} {N0 g n:Nat} {xss:List TRow} (h:GridC f w N0 g n xss) (hg:N0≤g) (i:Nat) (hi:i < xss.length):∃ A c,w.cell? ⟨g,i,none⟩=some (.slice A xss[i].1.length c)∧xss[i].1.length≤c∧∀ j (hj:j < xss[i].1.length),∃ ad A0 c0,A=some ad∧∀ wx,(∀ k,N0≤k→k < w.heap.size→wx.heap[k]?=w.heap[k]?)→wx.cell? (ad.add j)=some (.slice A0 xss[i].1[j].length c0)∧Kd.C (Kd.int .u8) wx A0 xss[i].1[j].length xss[i].1[j]:=by
 obtain ⟨v,k1,k2,k3⟩:=h.cell i hi
 obtain ⟨A,c,hv,hlc,hC⟩:=Kd.R_reads k3
 subst hv
 refine ⟨A,c,k1,hlc,fun j hj=>?_⟩
 obtain ⟨ad,A0,c0,hA,q1,q2,q3⟩:=at_cells (show Kd.C bytesK w A xss[i].1.length xss[i].1 from hC) j hj
 refine ⟨ad,A0,c0,hA,fun wx hf=>?_⟩
 subst hA
 have k4:Kd.R cellC 62 wx N0 (fun k=>k≠g∧f k=xss[i].2) (.slice (some ad) xss[i].1.length c) xss[i].1:=
  Kd.R_mono (Kd.R_move (Kd.R_bound k3) (fun k hk=>hf k hk.2.1 hk.2.2.1)) (fun k hk=>hk.1)
 obtain ⟨A2,c2,hv2,_,hC2⟩:=Kd.R_reads k4
 injection hv2 with e1 e2 e3
 subst e1 e3
 obtain ⟨ad',A0',c0',hA',r1,r2,r3⟩:=at_cells (show Kd.C bytesK wx (some ad) xss[i].1.length xss[i].1 from hC2) j hj
 injection hA' with hA'
 subst hA'
 have hb:wx.heap[ad.block]?=w.heap[ad.block]?:=by
  obtain ⟨inner,ho⟩:=Kd.R_own k3
  exact hf _ (own_base ho ad.block rfl) (own_lt ho ad.block rfl)
 have hb2:(ad.add j).block=ad.block:=by unfold Addr.add;split <;> rfl
 have e:wx.cell? (ad.add j)=w.cell? (ad.add j):=by
  unfold World.cell?
  rw [hb2,hb]
 rw [e,q1] at r1
 injection r1 with r1
 injection r1 with r1 _ r3'
 subst r1 r3'
 exact ⟨by rw [e];exact q1,r3⟩
theorem writeRow_calls {N X C cm tp bs:Nat} {tab:Nat→Int} {po:PO} {al bl:Bool} (hpi:PadIs po.pad al bl) {w:World} {b:Nat} {l:List UInt8} (hx:Cx N w X C cm tp bs tab po) (hs:Sink N w b l) (counts:List Int) (gc cc:Nat) (hcnt:∀ wx l1,Pours w wx b l l1→∀ j (hj:j < counts.length),wx.cell? ⟨gc,j,none⟩=some (.int .i64 counts[j])) (hcl:counts.length≤1000∧∀ y∈counts,1≤y∧y≤2147483647)
  (cells:List (List Int)) (A:Option Addr) (c:Nat) (hcell:∀ j (hj:j < cells.length),∃ ad A0 c0,A=some ad∧∀ wx l1,Pours w wx b l l1→wx.cell? (ad.add j)=some (.slice A0 cells[j].length c0)∧Kd.C (Kd.int .u8) wx A0 cells[j].length cells[j]) (hle:cells.length≤counts.length) (hco:∀ x∈cells,x.length≤2147483647∧∀ y∈x,0≤y∧y < 128) (hlim:l.length+(lineT al bl counts cells).length≤4000000000000):
  Calls Tryz.prog 409 #[.pointer (some ⟨tp,0,none⟩),.iface 148 (.pointer (some ⟨b,0,none⟩)),.slice (some ⟨gc,0,none⟩) counts.length cc,.slice A cells.length c] w fun e w'=>e=.returned (.tuple #[])∧Pours w w' b l (l++lineT al bl counts cells):=by
 rcases hpi with ⟨h,rfl,rfl⟩|⟨h,rfl,rfl⟩|⟨h,rfl,rfl⟩
 ·exact writeRow_aligned hx hs h counts gc cc hcnt hcl cells A c hcell hle hco hlim
 ·exact writeRow_minimal hx hs h counts gc cc hcnt hcl cells A c hcell hle hco hlim
 ·exact writeRow_none hx hs h counts gc cc hcnt hcl cells A c hcell hle hco hlim
theorem underline_calls {N X C cm tp bs:Nat} {tab:Nat→Int} {po:PO} {al bl:Bool} (hpi:PadIs po.pad al bl) {w:World} {b:Nat} {l:List UInt8} (hx:Cx N w X C cm tp bs tab po) (hs:Sink N w b l) (counts:List Int) (gc cc:Nat) (hcnt:∀ wx l1,Pours w wx b l l1→∀ j (hj:j < counts.length),wx.cell? ⟨gc,j,none⟩=some (.int .i64 counts[j])) (hcl:counts.length≤1000∧∀ y∈counts,1≤y∧y≤2147483647)
  (A:Option Addr) (n c:Nat) (hn:n≤1000) (hal:∀ wx l1,Pours w wx b l l1→Kd.C Kd.string wx A n (List.replicate n ⟨#[]⟩)) (hlim:l.length+(ulPcs al counts).flatten.length≤4000000000000):
  Calls Tryz.prog 410 #[.pointer (some ⟨tp,0,none⟩),.iface 148 (.pointer (some ⟨b,0,none⟩)),.slice A n c,.slice (some ⟨gc,0,none⟩) counts.length cc] w fun e w'=>e=.returned (.tuple #[])∧Pours w w' b l (l++(ulPcs al counts).flatten):=by
 rcases hpi with ⟨h,rfl,rfl⟩|⟨h,rfl,rfl⟩|⟨h,rfl,rfl⟩
 ·exact underline_aligned hx hs h counts gc cc hcnt hcl A n c hn hal hlim
 ·exact underline_other hx hs (by rw [h,ByteArray.toList_eq];rfl) counts gc cc hcnt hcl A n c hn hal hlim
 ·exact underline_other hx hs (by rw [h,ByteArray.toList_eq];rfl) counts gc cc hcnt hcl A n c hn hal hlim
theorem renderTable_calls {N X C cm tp bs:Nat} {tab:Nat→Int} {po:PO} {al bl:Bool} (hpi:PadIs po.pad al bl) {w:World} {b:Nat} {l:List UInt8} (hx:Cx N w X C cm tp bs tab po) (hs:Sink N w b l) {S:Nat} {i:NI} {kids:List DT} {hd:DT×List (DT×List UInt8)} {rows:List (DT×List (DT×List UInt8))} (ht:TabAt N X C cm tp bs tab po w S i kids hd rows) {L:List TRow} (hL:rowsOut po (rowsIn tab (hd::rows))=L) (hhd:hd.2.length≤1000) (txt:List UInt8) (htx:txt=if L=[] then [] else tableText al bl L) (r:Int) (hr:r=if L=[] then 0 else 1) (hlim:l.length+txt.length≤4000000000000):
  Calls Tryz.prog 404 #[.pointer (some ⟨tp,0,none⟩),.iface 187 (.pointer (some ⟨X,0,none⟩)),.iface 148 (.pointer (some ⟨b,0,none⟩)),.pointer (some ⟨S,0,none⟩)] w fun e w'=>e=.returned (.int .i64 r)∧Pours w w' b l (l++txt):=by
 have CC:=am (collectTable_calls hx ht hL)
 have HX:=am hx
 have HS:=am hs
 have HPI:=am hpi
 have HHD:=am hhd
 have HLIM:=am hlim
 have HTX:=am htx
 have HRE:=am hr
 have HNT:=am (show (L.map (·.2)).Nodup by rw [← hL];exact tags_nodup po tab _)
 have HRO:=am (show L.length≤1000∧∀ row∈L,row.1.length≤1000∧∀ x∈row.1,x.length≤2147483647∧∀ y∈x,0≤y∧y < 128 from by
  subst hL
  refine ⟨?_,fun xs hx=>?_⟩
  ·have h1:=rowsOut_len po (rowsIn tab (hd::rows))
   have h2:=ht.few.1
   have h3:(rowsIn tab (hd::rows)).length=rows.length+1:=by simp [rowsIn,rowsIn0]
   omega
  ·rcases rowsOut_sub po _ xs hx with h|h
   ·rw [h];exact ⟨Nat.zero_le _,fun x hx=>(by cases hx)⟩
   ·have hm:=List.fst_mem_of_mem_zipIdx h
    exact ⟨ht.few.2.1 xs.1 hm,fun x hx=>⟨(ht.few.2.2 xs.1 hm x hx).1,fun y hy=>((ht.few.2.2 xs.1 hm x hx).2 y hy).1⟩⟩)
 have hws:=method_ws (some ⟨b,0,none⟩)
 clear hx hs ht hL hpi hhd hlim htx hr
 go_enter Tryz.func404,Tryz.ntmps404
 go_wp2_with (go_at_call 406;fail)
 refine CC.out.mono ?_
 rintro e w1 ⟨hb,hor⟩
 have HB1:=am hb
 clear hb CC
 rcases hor with ⟨hL0,rfl⟩|⟨hL0,t,rfl,hct⟩
 ·have HL0:=am hL0
  clear hL0
  go_wp2
  go_ret
  have htn:txt=[]:=by rw [HTX.out,if_pos HL0.out]
  rw [htn,List.append_nil,HRE.out,if_pos HL0.out]
  exact ⟨rfl,Pours.still HS.out HB1.out⟩
 ·obtain ⟨⟨f,v,g,c,h1,h2,h3,h4,h5⟩,hge⟩:=hct
  have HL0:=am hL0
  have HT1:=am h1
  have HGN:=am h3
  have HG1:=am h4
  have HTG:=am hge
  have HLC:=am h2
  have HAL:=am h5
  have CM:=am (maxCounts_calls w1 w.heap.size g L.length c L HRO.out.1 HRO.out.2 h4)
  have k1:w1.cell? ⟨t,1,none⟩=some (.slice (some ⟨g,0,none⟩) L.length c):=by simp [World.cell?,h1]
  clear hL0 h1 h2 h3 h4 h5 hge
  go_wp2_with (go_at_call 407;fail)
  refine CM.out.mono ?_
  rintro e w2 ⟨⟨gc,cc,rfl,hrc⟩,hb⟩
  have HB2:=am (HB1.out.trans (hb.mono HB1.out.size))
  have HRC2:=am hrc
  have HGC2:=am ((HG1.out.keep hb).toC)
  have HAL2:=am (Kd.R_below HAL.out hb)
  have hT2:w2.heap[t]?=_:=(hb.block t (heap_lt HT1.out)).trans HT1.out
  have HT2:=am hT2
  have k2:w2.cell? ⟨t,1,none⟩=some (.slice (some ⟨g,0,none⟩) L.length c):=by simp [World.cell?,hT2]
  have huc:=updRows_counts (xss:=L.map (·.1)) (fun row hrow=>by
   obtain ⟨p,hp,rfl⟩:=List.mem_map.1 hrow
   exact ⟨(HRO.out.2 p hp).1,fun x hx=>((HRO.out.2 p hp).2 x hx).1⟩) (L.map (·.1)).length (Nat.le_refl _)
  have HUC:=am (show (maxCounts (L.map (·.1))).length≤1000∧∀ y∈maxCounts (L.map (·.1)),1≤y∧y≤2147483647 from huc.1)
  have HUR:=am (show ∀ row∈L,row.1.length≤(maxCounts (L.map (·.1))).length from fun row hrow=>by
   obtain ⟨k,hk,rfl⟩:=List.getElem_of_mem hrow
   exact huc.2 k (by rw [List.length_map];exact hk) _ (by rw [List.getElem?_map,List.getElem?_eq_getElem hk];rfl))
  have HFT:=am (show tableText al bl L=[10,10]++lineT al bl (maxCounts (L.map (·.1))) ((fillRows (maxCounts (L.map (·.1))).length L L.length).getD 0 ([],0)).1++[10]++(ulPcs al (maxCounts (L.map (·.1)))).flatten++[10]++(bodyT al bl (maxCounts (L.map (·.1))) (((fillRows (maxCounts (L.map (·.1))).length L L.length).drop 1).map (·.1))).flatten++[10,10] from rfl)
  obtain ⟨counts,hcs⟩:∃ counts,maxCounts (L.map (·.1))=counts:=⟨_,rfl⟩
  rw [hcs] at HUC HUR HFT HRC2
  rw [hcs]
  have HML:=am HUC.out.1
  have CF:=am (fillUp_calls w2 w.heap.size g L.length c counts.length L HRO.out.1 HUC.out.1 HUR.out HNT.out HB2.out.size HGN.out HGC2.out)
  have HFL:=am (fillRows_len counts.length L L.length)
  have hgs2:g < w2.heap.size:=by obtain ⟨cur,q,_⟩:=HGC2.out.at_;exact heap_lt q
  have HGS2:=am hgs2
  clear hb hrc k1 CM hT2 huc hcs hgs2
  go_wp2_with (go_at_call 408;fail)
  refine CF.out.mono ?_
  rintro e w3 ⟨rfl,⟨f',hg3⟩,hb3,hkp⟩
  have HB3:=am (HB2.out.trans (hb3.mono (Nat.le_refl _)))
  have hT3:=hkp t _ _ HT2.out (by decide) (by decide)
  rw [HT2.out] at hT3
  have HT3:=am hT3
  have HG3:=am hg3
  have k3:w3.cell? ⟨t,1,none⟩=some (.slice (some ⟨g,0,none⟩) L.length c):=by simp [World.cell?,hT3]
  have z3:w3.frozen? ⟨t,1,none⟩=false:=by simp [World.frozen?,hT3]
  have hself:w3.setCell ⟨t,1,none⟩ (.slice (some ⟨g,0,none⟩) L.length c)=w3:=setCell_self hT3 rfl
  have HS3:=am (HS.out.keep HB3.out)
  have FAR:=am (fun wx l1 (h:Pours w3 wx b l l1)=>Pours.far HS.out HB3.out h)
  have hgc3:Kd.R (Kd.int .i64) 3 w3 w1.heap.size (fun _=>True) (.slice (some ⟨gc,0,none⟩) counts.length cc) counts:=by
   obtain ⟨h0,inner,ho,hr⟩:=HRC2.out
   obtain ⟨cells,hc⟩:=own_typed ho gc rfl
   have hk:=hkp gc _ _ hc (by decide) (by decide)
   refine ⟨h0,inner,own_move ho (fun k hk'=>?_),hr⟩
   have e:gc=k:=by simpa [Value.ownBlock] using hk'
   rw [← e]
   exact hk
  have hgcb:w.heap.size≤gc∧gc < w3.heap.size:=by
   obtain ⟨inner,ho⟩:=Kd.R_own hgc3
   exact ⟨Nat.le_trans HB1.out.size (own_base ho gc rfl),own_lt ho gc rfl⟩
  have CNT:=am (show ∀ wx l1,Pours w3 wx b l l1→∀ j (hj:j < counts.length),wx.cell? ⟨gc,j,none⟩=some (.int .i64 counts[j]) from fun wx l1 h j hj=>by
   rw [World.cell?_of_block (FAR.out wx l1 h gc hgcb.1 hgcb.2)]
   exact (R_num hgc3 j hj).1)
  have TBL:=am (show ∀ wx l1,Pours w3 wx b l l1→wx.heap[t]?=w3.heap[t]? from fun wx l1 h=>FAR.out wx l1 h t HTG.out (heap_lt hT3))
  have hal3:Kd.R Kd.string 9 w3 w.heap.size (fun _=>True) v (List.replicate hd.2.length ⟨#[]⟩):=by
   obtain ⟨h0,inner,ho,hr⟩:=HAL2.out
   refine ⟨h0,inner,own_move ho (fun k hk'=>?_),hr⟩
   obtain ⟨cells,hc⟩:=own_typed ho k hk'
   exact hkp k _ _ hc (by decide) (by decide)
  obtain ⟨Aa,ca,hva,_,_⟩:=Kd.R_reads hal3
  rw [List.length_replicate] at hva
  have ALN:=am (show ∀ wx l1,Pours w3 wx b l l1→Kd.C Kd.string wx Aa hd.2.length (List.replicate hd.2.length ⟨#[]⟩) from fun wx l1 h=>by
   have h2:=Kd.R_move (Kd.R_bound hal3) (fun k hk=>FAR.out wx l1 h k hk.2.1 hk.2.2.1)
   obtain ⟨A3,c3,hv3,_,hC3⟩:=Kd.R_reads h2
   rw [List.length_replicate] at hv3 hC3
   rw [hva] at hv3
   injection hv3 with e1 _ _
   rw [e1]
   exact hC3)
  have hva2:=hva
  subst hva2
  have HROW:=am (fun i hi=>gridC_cells hg3 HGN.out i hi)
  have HSZ3:=am (heap_lt hT3)
  obtain ⟨full,hfull⟩:∃ full,fillRows counts.length L L.length=full:=⟨_,rfl⟩
  rw [hfull] at HROW HFL HFT
  have HFC:=am (show ∀ p∈full,p.1.length≤counts.length∧∀ x∈p.1,x.length≤2147483647∧∀ y∈x,0≤y∧y < 128 from by
   intro p hp
   rw [← hfull] at hp
   unfold fillRows at hp
   rw [List.take_length,List.drop_length,List.append_nil] at hp
   obtain ⟨q,hq,rfl⟩:=List.mem_map.1 hp
   have hr:=HUR.out q hq
   refine ⟨by show (fillRow _ _).length≤_;unfold fillRow;rw [List.length_append,List.length_replicate];omega,fun x hx=>?_⟩
   rcases List.mem_append.1 hx with hx|hx
   ·exact (HRO.out.2 q hq).2 x hx
   ·rw [(List.mem_replicate.1 hx).2];exact ⟨Nat.zero_le _,fun y hy=>by cases hy⟩)
  have WR:=am (show ∀ (i:Nat) (hi:i < full.length),∃ A c,w3.cell? ⟨g,i,none⟩=some (.slice A full[i].1.length c)∧∀ (wk:World) (lk:List UInt8),Pours w3 wk b l lk→lk.length+(lineT al bl counts full[i].1).length≤4000000000000 →
   Calls Tryz.prog 409 #[.pointer (some ⟨tp,0,none⟩),.iface 148 (.pointer (some ⟨b,0,none⟩)),.slice (some ⟨gc,0,none⟩) counts.length cc,.slice A full[i].1.length c] wk fun e w'=>e=.returned (.tuple #[])∧Pours w3 w' b l (lk++lineT al bl counts full[i].1) from fun i hi=>by
   obtain ⟨A,c,q1,q2,q3⟩:=HROW.out i hi
   refine ⟨A,c,q1,fun wk lk hk hlim=>?_⟩
   have hbk:=hk.below HS3.out
   refine (writeRow_calls HPI.out (HX.out.keep ((HB3.out.mono HX.out.le).trans hbk)) (hk.sink HS3.out) counts gc cc (fun wx l1 h=>CNT.out wx l1 (hk.trans h)) HUC.out full[i].1 A c (fun j hj=>?_) (HFC.out _ (List.getElem_mem hi)).1 (fun x hx=>(HFC.out _ (List.getElem_mem hi)).2 x hx) hlim).mono ?_
   ·obtain ⟨ad,A0,c0,hA,hall⟩:=q3 j hj
    exact ⟨ad,A0,c0,hA,fun wx l1 h=>hall wx (FAR.out wx l1 (hk.trans h))⟩
   ·rintro e w' ⟨rfl,hp⟩
    exact ⟨rfl,hk.trans hp⟩)
  have UL:=am (show ∀ (wk:World) (lk:List UInt8),Pours w3 wk b l lk→lk.length+(ulPcs al counts).flatten.length≤4000000000000 →
   Calls Tryz.prog 410 #[.pointer (some ⟨tp,0,none⟩),.iface 148 (.pointer (some ⟨b,0,none⟩)),.slice Aa hd.2.length ca,.slice (some ⟨gc,0,none⟩) counts.length cc] wk fun e w'=>e=.returned (.tuple #[])∧Pours w3 w' b l (lk++(ulPcs al counts).flatten) from fun wk lk hk hlim=>by
   have hbk:=hk.below HS3.out
   refine (underline_calls HPI.out (HX.out.keep ((HB3.out.mono HX.out.le).trans hbk)) (hk.sink HS3.out) counts gc cc (fun wx l1 h=>CNT.out wx l1 (hk.trans h)) HUC.out Aa hd.2.length ca HHD.out (fun wx l1 h=>ALN.out wx l1 (hk.trans h)) hlim).mono ?_
   rintro e w' ⟨rfl,hp⟩
   exact ⟨rfl,hk.trans hp⟩)
  have ROWAT:=am (show ∀ (i:Nat) (hi:i < full.length) (A:Option Addr) (c:Nat),w3.cell? ⟨g,i,none⟩=some (.slice A full[i].1.length c)→∀ wx l1,Pours w3 wx b l l1→wx.cell? ⟨g,i,none⟩=some (.slice A full[i].1.length c) from fun i hi A c h wx l1 hp=>by
   rw [World.cell?_of_block (FAR.out wx l1 hp g HGN.out (by obtain ⟨cur,q,_⟩:=hg3.at_;exact heap_lt q))]
   exact h)
  have TB1:=am (show ∀ wx l1,Pours w3 wx b l l1→wx.cell? ⟨t,0,none⟩=some (.slice Aa hd.2.length ca)∧wx.cell? ⟨t,1,none⟩=some (.slice (some ⟨g,0,none⟩) L.length c)∧wx.cell? ⟨t,2,none⟩=some (.slice none 0 0) from fun wx l1 h=>by
   have e:=(TBL.out wx l1 h).trans hT3
   refine ⟨?_,?_,?_⟩ <;> simp [World.cell?,e])
  have HP0:=am (Pours.refl HS3.out)
  clear CF hg3 hb3 hkp hT3 hgc3 hgcb hal3 hva hfull
  have hf0:0 < full.length:=by
   rw [HFL.out]
   exact Nat.pos_of_ne_zero (fun h=>HL0.out (List.eq_nil_of_length_eq_zero h))
  have HF0:=am hf0
  have hln0:(0 < L.length)=True:=eq_true (by have:=HFL.out;omega)
  have hln1:(1≤L.length)=True:=eq_true (by have:=HFL.out;omega)
  have hln2:(L.length=0)=False:=eq_false (by have:=HFL.out;omega)
  obtain ⟨A0,c0,hr0,cr0⟩:=WR.out 0 hf0
  have CR0:=am cr0
  have R0:=am (fun wx l1 h=>ROWAT.out 0 hf0 A0 c0 hr0 wx l1 h)
  obtain ⟨x0,hx0⟩:∃ x0,full[0].1=x0:=⟨_,rfl⟩
  have HD0:=am (show (full.getD 0 ([],0)).1=x0 by rw [List.getD_eq_getElem?_getD,List.getElem?_eq_getElem hf0];exact hx0)
  rw [hx0] at CR0 R0
  obtain ⟨pcs,hpcs⟩:∃ pcs,bodyT al bl counts ((full.drop 1).map (·.1))=pcs:=⟨_,rfl⟩
  have HPC:=am hpcs
  have HTXT:=am (show txt=[10,10]++lineT al bl counts x0++[10]++(ulPcs al counts).flatten++[10]++pcs.flatten++[10,10] by rw [HTX.out,if_neg HL0.out,HFT.out,HD0.out,hpcs])
  have HLT:=am (show l.length+(2+(lineT al bl counts x0).length+1+(ulPcs al counts).flatten.length+1+pcs.flatten.length+2)≤4000000000000 by
   have:=HLIM.out
   rw [HTXT.out] at this
   simp only [List.length_append,List.length_cons,List.length_nil] at this
   omega)
  obtain ⟨T0,hT0⟩:∃ T0,lineT al bl counts x0=T0:=⟨_,rfl⟩
  obtain ⟨U,hU⟩:∃ U,(ulPcs al counts).flatten=U:=⟨_,rfl⟩
  rw [hT0,hU] at HTXT HLT
  rw [hT0] at CR0
  rw [hU] at UL
  clear hf0 hr0 cr0 hx0 hpcs hT0 hU
  go_wp2_with (go_at_call 335;fail)
  refine (sink_string HS3.out ⟨#[10,10]⟩ (by decide) (by have:=HLT.out;show _+2≤_;omega)).mono ?_
  rintro e w4 ⟨rfl,hp⟩
  have HP1:=am hp
  clear hp k3 z3
  obtain ⟨t0,t1,t2⟩:=TB1.out _ _ HP1.out
  have r0:=R0.out _ _ HP1.out
  go_wp2_with (go_at_call 409;fail)
  refine (CR0.out _ _ HP1.out (by have:=HLT.out;simp only [List.length_append,List.length_cons,List.length_nil];omega)).mono ?_
  rintro e w5 ⟨rfl,hp⟩
  have HP2:=am hp
  clear hp t0 t1 t2 r0
  go_wp2_with (go_at_call 335;fail)
  refine (sink_byte (HP2.out.sink HS3.out) 10 (by have:=HLT.out;simp only [List.length_append,List.length_cons,List.length_nil];omega)).mono ?_
  rintro e w6 ⟨rfl,hp⟩
  have HP3:=am (HP2.out.trans hp)
  clear hp
  obtain ⟨t0,t1,t2⟩:=TB1.out _ _ HP3.out
  go_wp2_with (go_at_call 410;fail)
  have hlu:=UL.out _ _ HP3.out (by have:=HLT.out;simp only [List.length_append,List.length_cons,List.length_nil];omega)
  refine hlu.mono ?_
  rintro e w7 ⟨rfl,hp⟩
  clear hlu
  have HP4:=am hp
  clear hp t0 t1 t2
  go_wp2_with (go_at_call 335;fail)
  refine (sink_byte (HP4.out.sink HS3.out) 10 (by have:=HLT.out;simp only [List.length_append,List.length_cons,List.length_nil];omega)).mono ?_
  rintro e w8 ⟨rfl,hp⟩
  have HP5:=am (HP4.out.trans hp)
  clear hp
  obtain ⟨t0,t1,t2⟩:=TB1.out _ _ HP5.out
  have HT5:=am t2
  have hlc1:c=1→L.length=1:=fun h=>by have:=HLC.out;have:=HF0.out;have:=HFL.out;omega
  have hl1:(1≤(L.length:Int))=True:=eq_true (by have:=HF0.out;have:=HFL.out;omega)
  have HLC1:=am hlc1
  clear hlc1
  by_cases hc1:c=1
  ·have hle1:=HLC1.out hc1
   have HPN:=am (show pcs=[] by rw [← HPC.out,List.drop_eq_nil_of_le (by rw [HFL.out,hle1];exact Nat.le_refl _)];rfl)
   have hcc:=eq_true hc1
   clear hc1
   go_wp2
   go_loopg [64] 1 (fun gf v64 wx=>v64=.int .i64 0∧Aside0 (Pours w3 wx b l (l++[10,10]++T0++[10]++U++[10])))
   case atStart=>exact ⟨rfl,⟨HP5.out⟩⟩
   case round=>
    obtain ⟨rfl,HPJ⟩:=hrel
    have HPZ:=am (show Pours w3 _ b l (l++[10,10]++T0++[10]++U++[10]++pcs.flatten) by rw [HPN.out];simpa using HPJ.out)
    have t2:=(TB1.out _ _ HPZ.out).2.2
    go_wp2_with (go_at_call 335;fail)
    refine (sink_string (HPZ.out.sink HS3.out) ⟨#[10,10]⟩ (by decide) (by have:=HLT.out;show _+2≤_;simp only [List.length_append,List.length_cons,List.length_nil];omega)).mono ?_
    rintro e wz ⟨rfl,hp⟩
    have HPF:=am (HPZ.out.trans hp)
    clear hp t2
    go_wp2
    go_ret
    refine ⟨?_,?_⟩
    ·rw [HRE.out,if_neg HL0.out];rfl
    ·have h:=(Pours.still HS.out HB3.out).trans HPF.out
     rw [HTXT.out]
     simpa only [List.append_assoc] using h
  ·have hcc:=eq_false hc1
   clear hc1
   go_wp2
   go_loopg [64] (L.length - 1) (fun gf v64 wx=>∃ (j:Nat),v64=.int .i64 (j:Int)∧Aside0 (j+1≤L.length∧L.length - 1 - j=gf)∧Aside0 (Pours w3 wx b l (l++[10,10]++T0++[10]++U++[10]++(pcs.take j).flatten)))
   case atStart=>exact ⟨0,rfl,⟨by have:=HF0.out;have:=HFL.out;omega,by omega⟩,⟨by simpa using HP5.out⟩⟩
   case round=>
    obtain ⟨j,rfl,HP,HPJ⟩:=hrel
    by_cases hj:j+1 < L.length
    ·have hpp:=eq_true hj
     have hlt:decide ((j:Int) < ((L.length - 1:Nat):Int))=true:=decide_eq_true (by omega)
     have hlt2:((j:Int) < ((L.length - 1:Nat):Int))=True:=eq_true (by omega)
     have hltn:(j < L.length - 1)=True:=eq_true (by omega)
     have hwj:wrap64 ((j:Int)+1)=((j+1:Nat):Int):=by have:=HRO.out.1;unfold wrap64;omega
     have hjf:j+1 < full.length:=by rw [HFL.out];exact hj
     obtain ⟨A1,c1,hr1,cr1⟩:=WR.out (j+1) hjf
     have r1:=ROWAT.out (j+1) hjf A1 c1 hr1 _ _ HPJ.out
     have hjp:j < pcs.length:=by rw [← HPC.out];unfold bodyT;rw [List.length_map,List.length_map,List.length_drop];omega
     have hpj:pcs[j]=lineT al bl counts full[j+1].1++[10]:=by
      have h1:pcs[j]?=some (lineT al bl counts full[j+1].1++[10]):=by
       rw [← HPC.out]
       unfold bodyT
       rw [List.getElem?_map,List.getElem?_map,List.getElem?_drop,Nat.add_comm 1 j,List.getElem?_eq_getElem hjf]
       rfl
      rw [List.getElem?_eq_getElem hjp] at h1
      exact Option.some.inj h1
     have hfl:=flat_take pcs j hjp
     have hfle:=flat_take_le pcs (j+1)
     rw [hfl,List.length_append,hpj] at hfle
     rw [hpj] at hfl
     obtain ⟨x1,hx1⟩:∃ x1,full[j+1].1=x1:=⟨_,rfl⟩
     rw [hx1] at r1 cr1 hfl hfle
     obtain ⟨T1,hT1⟩:∃ T1,lineT al bl counts x1=T1:=⟨_,rfl⟩
     rw [hT1] at cr1 hfl hfle
     obtain ⟨P,hP⟩:∃ P,(pcs.take j).flatten=P:=⟨_,rfl⟩
     rw [hP] at HPJ hfl hfle
     have HFL2:=am hfl
     have HFLE:=am (show P.length+(T1.length+1)≤pcs.flatten.length from by rw [List.length_append] at hfle;exact hfle)
     have CR1:=am cr1
     have r1b:_:=r1
     rw [Nat.add_comm j 1] at r1b
     have HJ:=am hj
     clear hj hjf hr1 cr1 hjp hpj hfl hfle hx1 hT1 hP
     go_wp2_with (go_at_call 409;fail)
     refine (CR1.out _ _ HPJ.out (by have:=HLT.out;have:=HFLE.out;simp only [List.length_append,List.length_cons,List.length_nil];omega)).mono ?_
     rintro e wa ⟨rfl,hp⟩
     have HPA:=am hp
     clear hp r1 r1b
     go_wp2_with (go_at_call 335;fail)
     refine (sink_byte (HPA.out.sink HS3.out) 10 (by have:=HLT.out;have:=HFLE.out;simp only [List.length_append,List.length_cons,List.length_nil];omega)).mono ?_
     rintro e wb ⟨rfl,hp⟩
     have HPB:=am (HPA.out.trans hp)
     clear hp
     go_wp2
     go_roundg (L.length - 1 - (j+1))
     case measure=>have:=HP.out;have:=HJ.out;omega
     case rel=>
      refine ⟨j+1,by rw [hwj],⟨by have:=HJ.out;omega,rfl⟩,⟨?_⟩⟩
      rw [HFL2.out]
      simpa only [List.append_assoc] using HPB.out
    ·have hpp:=eq_false hj
     have hlt:decide ((j:Int) < ((L.length - 1:Nat):Int))=false:=decide_eq_false (by omega)
     have hlt2:((j:Int) < ((L.length - 1:Nat):Int))=False:=eq_false (by omega)
     have hltn:(j < L.length - 1)=False:=eq_false (by omega)
     have hpl:pcs.length≤j:=by rw [← HPC.out];unfold bodyT;rw [List.length_map,List.length_map,List.length_drop,HFL.out];omega
     have HPZ:=am (show Pours w3 _ b l (l++[10,10]++T0++[10]++U++[10]++pcs.flatten) by have h:=HPJ.out;rw [List.take_of_length_le hpl] at h;exact h)
     clear hj hpl
     have t2:=(TB1.out _ _ HPZ.out).2.2
     go_wp2_with (go_at_call 335;fail)
     refine (sink_string (HPZ.out.sink HS3.out) ⟨#[10,10]⟩ (by decide) (by have:=HLT.out;show _+2≤_;simp only [List.length_append,List.length_cons,List.length_nil];omega)).mono ?_
     rintro e wz ⟨rfl,hp⟩
     have HPF:=am (HPZ.out.trans hp)
     clear hp t2
     go_wp2
     go_ret
     refine ⟨?_,?_⟩
     ·rw [HRE.out,if_neg HL0.out];rfl
     ·have h:=(Pours.still HS.out HB3.out).trans HPF.out
      rw [HTXT.out]
      simpa only [List.append_assoc] using h
end Go.Proofs.YtbheflncgmhadaaGreat.Hand
