/- A row of a table, written. Conditions: those in each statement. -/
import Derived.Test.YtbheflncgmhadaaGreatXo
import Derived.Test.YtbheflncgmhadaaGreatXt
import Derived.Test.YtbheflncgmhadaaGreatXd
set_option linter.unusedVariables false
set_option linter.unusedSimpArgs false
set_option maxHeartbeats 40000000
set_option maxRecDepth 100000
namespace Go.Proofs.YtbheflncgmhadaaGreat.Hand
open Go.RowKit Go.Proofs.YtbheflncgmhadaaGreatW.PrintWords Go.Proofs.YtbheflncgmhadaaGreatW.PrintLast Go.Proofs.YtbheflncgmhadaaGreatW.PrintMore
attribute [local go_sem] run_store_func'
def toB (c:List Int):List UInt8:=c.map fun y=>UInt8.ofNat y.toNat
theorem bytesI_toB:∀ (c:List Int),(∀ y∈c,0≤y∧y < 128)→bytesI (toB c)=c
 |[],_=>rfl
 |y::c,h=>by
  have h1:=h y (List.mem_cons_self ..)
  have ih:=bytesI_toB c (fun z hz=>h z (List.mem_cons_of_mem _ hz))
  have e:(UInt8.ofNat y.toNat).toNat=y.toNat:=by
   have:y.toNat < 256:=by omega
   simp [UInt8.toNat_ofNat',Nat.mod_eq_of_lt this]
  show (((UInt8.ofNat y.toNat).toNat:Nat):Int)::bytesI (toB c)=_
  rw [ih,e]
  congr 1
  omega
def cellPc (al bl:Bool) (i:Nat) (cnt:Int) (c:List Int):List UInt8:=(if i=0 then [124] else [])++(if bl then [32] else [])++toB c++(if al then List.replicate (cnt - c.length).toNat 32 else [])++(if bl then [32] else [])++[124]
def linePcs (al bl:Bool) (counts:List Int) (cells:List (List Int)):List (List UInt8):=(List.range cells.length).map fun i=>cellPc al bl i (counts.getD i 0) (cells.getD i [])
theorem linePcs_len (al bl:Bool) (counts:List Int) (cells:List (List Int)):(linePcs al bl counts cells).length=cells.length:=by unfold linePcs;simp
theorem linePcs_at (al bl:Bool) (counts:List Int) (cells:List (List Int)) (j:Nat) (h:j < cells.length):(linePcs al bl counts cells)[j]?=some (cellPc al bl j (counts.getD j 0) cells[j]):=by
 unfold linePcs
 rw [List.getElem?_map,List.getElem?_range h,Option.map_some,List.getD_eq_getElem?_getD (l:=cells),List.getElem?_eq_getElem h]
 rfl
theorem getD_at (l:List Int) (j:Nat) (h:j < l.length):l.getD j 0=l[j]:=by
 rw [List.getD_eq_getElem?_getD,List.getElem?_eq_getElem h];rfl
theorem repeat_one (x:UInt8) (n:Nat):Lib.repeatL [x] n=List.replicate n x:=by
 induction n with
 |zero=>rfl
 |succ n ih=>rw [List.replicate_succ,← ih];rfl
theorem sink_byte {N:Nat} {w:World} {b:Nat} {bs:List UInt8} (h:Sink N w b bs) (x:UInt8) (hlim:bs.length+1≤4000000000000):
  Calls Tryz.prog 335 #[.pointer (some ⟨b,0,none⟩),.string ⟨#[x]⟩] w fun e w'=>e=.returned (.tuple #[.int .i64 1,.nilIface])∧Pours w w' b bs (bs++[x]):=
 sink_string h ⟨#[x]⟩ (by show 1≤1;omega) hlim
theorem sink_cell {N:Nat} {w:World} {b:Nat} {bs:List UInt8} (h:Sink N w b bs) (A:Option Addr) (sc:Nat) (new:List UInt8) (hr:Kd.C (Kd.int .u8) w A (bytesI new).length (bytesI new)) (hlim:bs.length+new.length≤4000000000000):
  Calls Tryz.prog 325 #[.pointer (some ⟨b,0,none⟩),.slice A new.length sc] w fun e w'=>e=.returned (.tuple #[.int .i64 new.length,.nilIface])∧Pours w w' b bs (bs++new):=by
 cases hn:new with
 |nil=>
  obtain ⟨v,h1,h2,h3⟩:=h.at_
  rw [List.append_nil]
  refine (write_zero w b _ A sc bs v h1 h2 (by omega)).mono ?_
  rintro e w1 ⟨rfl,rfl⟩
  exact ⟨rfl,Pours.refl h⟩
 |cons x r=>
  rw [← hn]
  refine sink_write h A sc new hr (fun ad hA=>?_) hlim
  subst hA
  intro e
  obtain ⟨ad',e1,k1⟩:=at_num hr 0 (by rw [bytesI_length,hn];simp)
  cases e1
  obtain ⟨v,h1,h2,h3⟩:=h.at_
  have hz:ad.add 0=ad:=by unfold Addr.add;simp
  rw [hz] at k1
  obtain ⟨bl,off,path⟩:=ad
  have e':bl=b:=e
  subst e'
  unfold World.cell? at k1
  rw [h2] at k1
  cases path with
  |some q=>simp at k1
  |none=>
   match off,k1 with
   |0,k1=>
    obtain ⟨z,k2⟩:∃ z,v=Value.int .u8 z:=⟨_,by simpa using k1⟩
    rcases h1.2 with ⟨_,e3⟩|⟨_,_,_,_,e3,_⟩ <;> (rw [k2] at e3;cases e3)
   |1,k1=>simp at k1
   |2,k1=>simp at k1
   |n+3,k1=>simp at k1
theorem toB_len (c:List Int):(toB c).length=c.length:=by unfold toB;rw [List.length_map]
theorem runeCountB_calls (w:World) (A:Option Addr) (c:Nat) (t:List UInt8) (h:Kd.C (Kd.int .u8) w A (bytesI t).length (bytesI t)) (hl:t.length≤4000000000000) (hno:∀ y∈bytesI t,0≤y∧y < 128):
  Calls Tryz.prog 420 #[.slice A t.length c] w fun e w'=>e=.returned (.int .i64 (t.length:Int))∧w'=w:=by
 have:=runeCount_calls w A c (bytesI t) h (by rw [bytesI_length];exact hl) hno
 rw [bytesI_length] at this
 exact this
theorem nil_ws (p:Addr) (w:World):(nilAhead 581 148 (.pointer (some p)) "WriteString").run Tryz.prog w=.ok (some false) w:=by kernel_rfl
theorem method_wt (p:Option Addr) (w:World):(method 581 148 (.pointer p) "Write").run Tryz.prog w=.ok (325,.pointer p) w:=by kernel_rfl
theorem writeRow_aligned {N X C cm tp bs:Nat} {tab:Nat→Int} {po:PO} {w:World} {b:Nat} {l:List UInt8} (hx:Cx N w X C cm tp bs tab po) (hs:Sink N w b l) (hpad:po.pad=bAligned) (counts:List Int) (gc cc:Nat) (hcnt:∀ wx l1,Pours w wx b l l1→∀ j (hj:j < counts.length),wx.cell? ⟨gc,j,none⟩=some (.int .i64 counts[j])) (hcl:counts.length≤1000∧∀ y∈counts,1≤y∧y≤2147483647)
  (cells:List (List Int)) (A:Option Addr) (c:Nat) (hcell:∀ j (hj:j < cells.length),∃ ad A0 c0,A=some ad∧∀ wx l1,Pours w wx b l l1→wx.cell? (ad.add j)=some (.slice A0 cells[j].length c0)∧Kd.C (Kd.int .u8) wx A0 cells[j].length cells[j]) (hle:cells.length≤counts.length) (hco:∀ x∈cells,x.length≤2147483647∧∀ y∈x,0≤y∧y < 128) (hlim:l.length+(linePcs true true counts cells).flatten.length≤4000000000000):
  Calls Tryz.prog 409 #[.pointer (some ⟨tp,0,none⟩),.iface 148 (.pointer (some ⟨b,0,none⟩)),.slice (some ⟨gc,0,none⟩) counts.length cc,.slice A cells.length c] w fun e w'=>e=.returned (.tuple #[])∧Pours w w' b l (l++(linePcs true true counts cells).flatten):=by
 have HX:=am hx
 have HS:=am hs
 have HPAD:=am (show po.pad=⟨#[97,108,105,103,110,101,100]⟩ from hpad)
 have HCNT:=am hcnt
 have HCL:=am hcl
 have HCELL:=am hcell
 have HLE:=am hle
 have HCO:=am hco
 have HLIM:=am hlim
 have hws:=method_ws (some ⟨b,0,none⟩)
 have hwt:=method_wt (some ⟨b,0,none⟩)
 have hnl:=nil_ws ⟨b,0,none⟩
 obtain ⟨pcs,hpcs⟩:∃ pcs,linePcs true true counts cells=pcs:=⟨_,rfl⟩
 have HPCS:=am hpcs
 rw [hpcs] at HLIM
 clear hx hs hpad hcnt hcl hcell hle hco hlim hpcs
 go_enter Tryz.func409,Tryz.ntmps409
 go_wp2
 go_loopg [15] cells.length (fun gf v15 wx=>∃ (j:Nat),v15=.int .i64 (j:Int)∧Aside0 (j≤cells.length∧cells.length - j=gf)∧Aside0 (Pours w wx b l (l++(pcs.take j).flatten)))
 case atStart=>exact ⟨0,rfl,⟨by omega,by omega⟩,⟨by simpa using Pours.refl HS.out⟩⟩
 case round=>
  obtain ⟨j,rfl,HP,HP0⟩:=hrel
  by_cases hj:j < cells.length
  ·have hpp:=eq_true hj
   have hlt:decide ((j:Int) < (cells.length:Int))=true:=decide_eq_true (by omega)
   have hjc:j < counts.length:=Nat.lt_of_lt_of_le hj HLE.out
   have hpc:=eq_true hjc
   have hwj:wrap64 ((j:Int)+1)=((j+1:Nat):Int):=by have:=HCL.out.1;unfold wrap64;omega
   have hjp:j < pcs.length:=by rw [← HPCS.out,linePcs_len];exact hj
   have hpj:pcs[j]=cellPc true true j counts[j] cells[j]:=by
    have h1:=linePcs_at true true counts cells j hj
    rw [HPCS.out,getD_at counts j hjc,List.getElem?_eq_getElem hjp] at h1
    exact Option.some.inj h1
   have hfl:=flat_take pcs j hjp
   have hfle:=flat_take_le pcs (j+1)
   rw [hfl,List.length_append,hpj] at hfle
   rw [hpj] at hfl
   have hcj:=HCL.out.2 _ (List.getElem_mem hjc)
   have hxj:=HCO.out _ (List.getElem_mem hj)
   have CK:=am (fun wx l1 h=>HCNT.out wx l1 h j hjc)
   obtain ⟨ad,A0,c0,hA,hall⟩:=HCELL.out j hj
   have hbt0:=bytesI_toB cells[j] hxj.2
   have hall2:∀ wx l1,Pours w wx b l l1→wx.cell? (ad.add j)=some (.slice A0 (toB cells[j]).length c0)∧Kd.C (Kd.int .u8) wx A0 (bytesI (toB cells[j])).length (bytesI (toB cells[j])):=fun wx l1 h=>by
    obtain ⟨h1,h2⟩:=hall wx l1 h
    rw [hbt0]
    exact ⟨by rw [toB_len];exact h1,h2⟩
   clear hall hbt0
   obtain ⟨cnt,hcnt⟩:∃ cnt,counts[j]=cnt:=⟨_,rfl⟩
   obtain ⟨x,hx⟩:∃ x,cells[j]=x:=⟨_,rfl⟩
   rw [hcnt] at hcj CK hfl hfle
   rw [hx] at hxj hall2 hfl hfle
   obtain ⟨t,ht⟩:∃ t,toB x=t:=⟨_,rfl⟩
   have hbt:bytesI t=x:=by rw [← ht];exact bytesI_toB x hxj.2
   have hlen:x.length=t.length:=by rw [← hbt,bytesI_length]
   rw [ht] at hall2
   have DC:=am hall2
   have HBR:=am (show ∀ y∈bytesI t,0≤y∧y < 128 by rw [hbt];exact hxj.2)
   obtain ⟨fl,hfn⟩:∃ fl,(cnt - (x.length:Int)).toNat=fl:=⟨_,rfl⟩
   obtain ⟨cur,hcur⟩:∃ cur,l++(pcs.take j).flatten=cur:=⟨_,rfl⟩
   have HLB:=am (show cur.length+(cellPc true true j cnt x).length≤4000000000000 by rw [← hcur,List.length_append];have:=HLIM.out;omega)
   have HFL:=am (show l++(pcs.take (j+1)).flatten=cur++cellPc true true j cnt x by rw [hfl,← List.append_assoc,hcur])
   have HCU:=am hcur
   have HT:=am ht
   have HBT:=am hbt
   have HLEN:=am hlen
   have HFN:=am hfn
   have HCJ:=am hcj
   have HXJ:=am hxj
   have HJ:=am hj
   rw [hcur] at HP0
   subst hA
   have q1:=(DC.out _ _ HP0.out).1
   have hw2:wrap64 (cnt - (t.length:Int))=cnt - (t.length:Int):=by have:=HCJ.out;have:=HXJ.out.1;have:=HLEN.out;unfold wrap64;omega
   have ck:=CK.out _ _ HP0.out
   have HLIM2:=am (show cur.length+(cellPc true true j cnt x).length≤4000000000000∧(cellPc true true j cnt x).length=(if j=0 then 1 else 0)+((fl+2+1)+t.length) from ⟨HLB.out,by unfold cellPc;rw [ht,hfn];by_cases h:j=0 <;> simp [h] <;> omega⟩)
   clear hj hjp hpj hfl hfle hcj hxj hcnt hx ht hbt hlen hfn hcur hall2
   clear hjc
   by_cases h0:j=0
   case' pos=>
    have d0:((j:Int)==0)=true:=beq_iff_eq.mpr (by omega)
    have e0:=eq_true h0
    have HFS0:=am (show ([124]:List UInt8)=(if j=0 then [124] else []) by rw [if_pos h0])
    have HLB2:=am (show cur.length+(t.length+([124]:List UInt8).length+(fl+2+1))≤4000000000000 by have:=HLIM2.out;rw [if_pos h0] at this;simp only [List.length_cons,List.length_nil];omega)
    clear h0
    go_wp2_with (go_at_call 335;fail)
    refine (sink_byte (HP0.out.sink HS.out) 124 (by have:=HLB2.out;(try simp only [List.length_append,List.length_cons,List.length_nil,List.length_replicate]);omega)).mono ?_
    rintro e w1 ⟨rfl,hp⟩
    have HP1:=am (HP0.out.trans hp)
    clear hp
    obtain ⟨fs,hfs⟩:∃ fs:List UInt8,fs=[124]:=⟨_,rfl⟩
    have HF1:=am (show fs.length≤1 by rw [hfs];decide)
    have HFS:=am (hfs.trans HFS0.out)
    rw [← hfs] at HP1 HLB2
    clear hfs
   case' neg=>
    have d0:((j:Int)==0)=false:=beq_eq_false_iff_ne.mpr (by omega)
    have e0:=eq_false h0
    have HFS0:=am (show ([]:List UInt8)=(if j=0 then [124] else []) by rw [if_neg h0])
    have HLB2:=am (show cur.length+(t.length+([]:List UInt8).length+(fl+2+1))≤4000000000000 by have:=HLIM2.out;rw [if_neg h0] at this;simp only [List.length_nil];omega)
    clear h0
    have HP1:Aside0 (Pours w wr b l (cur++[])):=⟨by rw [List.append_nil];exact HP0.out⟩
    obtain ⟨fs,hfs⟩:∃ fs:List UInt8,fs=[]:=⟨_,rfl⟩
    have HF1:=am (show fs.length≤1 by rw [hfs];decide)
    have HFS:=am (hfs.trans HFS0.out)
    rw [← hfs] at HP1 HLB2
    clear hfs
   all_goals
    go_wp2_with (go_at_call 420;fail)
    refine (runeCountB_calls _ A0 c0 t (DC.out _ _ HP1.out).2 (by have:=HLB2.out;omega) HBR.out).mono ?_
    rintro e wz ⟨rfl,hw⟩
    rw [hw]
    clear hw
    have ck1:=CK.out _ _ HP1.out
    have pk1:=((HX.out.keep (HP1.out.below HS.out)).now.plug.pad)
    rw [HPAD.out] at pk1
    go_wp2_with (go_at_call 335;fail)
    refine (sink_byte (HP1.out.sink HS.out) 32 (by have:=HLB2.out;(try simp only [List.length_append,List.length_cons,List.length_nil,List.length_replicate]);omega)).mono ?_
    rintro e w2 ⟨rfl,hp⟩
    have HP2:=am (HP1.out.trans hp)
    clear hp
    go_wp2_with (go_at_call 325;fail)
    refine (sink_cell (HP2.out.sink HS.out) A0 c0 t (DC.out _ _ HP2.out).2 (by have:=HLB2.out;have:=HF1.out;(try simp only [List.length_append,List.length_cons,List.length_nil,List.length_replicate]);omega)).mono ?_
    rintro e w3 ⟨rfl,hp⟩
    have HP3:=am (HP2.out.trans hp)
    clear hp
    have pk3:=((HX.out.keep (HP3.out.below HS.out)).now.plug.pad)
    rw [HPAD.out] at pk3
    by_cases hf:0 < fl
    ·have f0:decide ((0:Int) < cnt - (t.length:Int))=true:=decide_eq_true (by have:=HFN.out;have:=HLEN.out;omega)
     have f1:((0:Int) < cnt - (t.length:Int))=True:=eq_true (by have:=HFN.out;have:=HLEN.out;omega)
     have f3:decide ((t.length:Int) < cnt)=true:=decide_eq_true (by have:=HFN.out;have:=HLEN.out;omega)
     have f4:((t.length:Int) < cnt)=True:=eq_true (by have:=HFN.out;have:=HLEN.out;omega)
     have f2:cnt - (t.length:Int)=(fl:Int):=by have:=HFN.out;have:=HLEN.out;omega
     have HF2:=am f2
     have CRP:=am (fun w=>Tryz.strings_Repeat ⟨#[32]⟩ fl w (by have:=HLB2.out;omega) (by show 1 * fl≤_;have:=HLB2.out;omega))
     have HFP:=am hf
     clear hf f2
     have mixed:Tryz.prog.follows .mixedOrders=true:=by kernel_rfl
     have HP3d:=am (HP3.out.trans (Pours.still (HP3.out.sink HS.out) (below_drew (Below.refl _ _))))
     go_wp2
     go_region_with_o (first|(go_at_call 293;(try rw [HF2.out]);refine (CRP.out _).mono ?_;rintro e w4 ⟨rfl,hb⟩;have HP4:=am (HP3d.out.trans (Pours.still (HP3d.out.sink HS.out) hb));clear hb;rw [repeat_one])|(go_at_call 335;refine (sink_string (HP4.out.sink HS.out) ⟨(List.replicate fl (32:UInt8)).toArray⟩ (by simp [ByteArray.size];exact HFP.out) (by have:=HLB2.out;have:=HF1.out;simp only [List.length_append,List.length_cons,List.length_nil,ByteArray.size,List.size_toArray,List.length_replicate];omega)).mono ?_;rintro e w5 ⟨rfl,hp⟩;have HP5:=am (HP4.out.trans hp);clear hp)|fail)
     all_goals
      have pk5:=((HX.out.keep (HP5.out.below HS.out)).now.plug.pad)
      rw [HPAD.out] at pk5
      go_wp2_with (go_at_call 335;fail)
      refine (sink_byte (HP5.out.sink HS.out) 32 (by have:=HLB2.out;(try simp only [List.length_append,List.length_cons,List.length_nil,List.length_replicate]);omega)).mono ?_
      rintro e w6 ⟨rfl,hp⟩
      have HP6:=am (HP5.out.trans hp)
      clear hp
      go_wp2_with (go_at_call 335;fail)
      refine (sink_byte (HP6.out.sink HS.out) 124 (by have:=HLB2.out;(try simp only [List.length_append,List.length_cons,List.length_nil,List.length_replicate]);omega)).mono ?_
      rintro e w7 ⟨rfl,hp⟩
      have HP7:=am (HP6.out.trans hp)
      clear hp
      go_wp2
      go_roundg (cells.length - (j+1))
      case measure=>have:=HP.out;have:=HJ.out;omega
      case rel=>
       refine ⟨j+1,by rw [hwj],⟨by have:=HJ.out;omega,rfl⟩,⟨?_⟩⟩
       rw [HFL.out]
       have h:=HP7.out
       unfold cellPc
       rw [← HFS.out,HT.out,HFN.out]
       simpa [List.append_assoc] using h
    ·have f0:decide ((0:Int) < cnt - (t.length:Int))=false:=decide_eq_false (by have:=HFN.out;have:=HLEN.out;omega)
     have f1:((0:Int) < cnt - (t.length:Int))=False:=eq_false (by have:=HFN.out;have:=HLEN.out;omega)
     have f3:decide ((t.length:Int) < cnt)=false:=decide_eq_false (by have:=HFN.out;have:=HLEN.out;omega)
     have f4:((t.length:Int) < cnt)=False:=eq_false (by have:=HFN.out;have:=HLEN.out;omega)
     have e5:fl=0:=by omega
     have HP5:Aside0 (Pours w w3 b l (cur++fs++[32]++t++List.replicate fl 32)):=⟨by rw [e5,List.replicate_zero,List.append_nil];exact HP3.out⟩
     clear hf e5
     go_wp2_with (go_at_call 335;fail)
     refine (sink_byte (HP5.out.sink HS.out) 32 (by have:=HLB2.out;(try simp only [List.length_append,List.length_cons,List.length_nil,List.length_replicate]);omega)).mono ?_
     rintro e w6 ⟨rfl,hp⟩
     have HP6:=am (HP5.out.trans hp)
     clear hp
     go_wp2_with (go_at_call 335;fail)
     refine (sink_byte (HP6.out.sink HS.out) 124 (by have:=HLB2.out;(try simp only [List.length_append,List.length_cons,List.length_nil,List.length_replicate]);omega)).mono ?_
     rintro e w7 ⟨rfl,hp⟩
     have HP7:=am (HP6.out.trans hp)
     clear hp
     go_wp2
     go_roundg (cells.length - (j+1))
     case measure=>have:=HP.out;have:=HJ.out;omega
     case rel=>
      refine ⟨j+1,by rw [hwj],⟨by have:=HJ.out;omega,rfl⟩,⟨?_⟩⟩
      rw [HFL.out]
      have h:=HP7.out
      unfold cellPc
      rw [← HFS.out,HT.out,HFN.out]
      simpa [List.append_assoc] using h
  ·have hpp:=eq_false hj
   have hlt:decide ((j:Int) < (cells.length:Int))=false:=decide_eq_false (by omega)
   have HJ:=am hj
   clear hj
   go_wp2
   go_end0
   have e:pcs.take j=pcs:=by
    have h1:=linePcs_len true true counts cells
    rw [HPCS.out] at h1
    exact List.take_of_length_le (by have:=HP.out;have:=HJ.out;omega)
   have h:=HP0.out
   rw [e] at h
   rw [HPCS.out]
   exact ⟨rfl,h⟩
theorem writeRow_minimal {N X C cm tp bs:Nat} {tab:Nat→Int} {po:PO} {w:World} {b:Nat} {l:List UInt8} (hx:Cx N w X C cm tp bs tab po) (hs:Sink N w b l) (hpad:po.pad=bMinimal) (counts:List Int) (gc cc:Nat) (hcnt:∀ wx l1,Pours w wx b l l1→∀ j (hj:j < counts.length),wx.cell? ⟨gc,j,none⟩=some (.int .i64 counts[j])) (hcl:counts.length≤1000∧∀ y∈counts,1≤y∧y≤2147483647)
  (cells:List (List Int)) (A:Option Addr) (c:Nat) (hcell:∀ j (hj:j < cells.length),∃ ad A0 c0,A=some ad∧∀ wx l1,Pours w wx b l l1→wx.cell? (ad.add j)=some (.slice A0 cells[j].length c0)∧Kd.C (Kd.int .u8) wx A0 cells[j].length cells[j]) (hle:cells.length≤counts.length) (hco:∀ x∈cells,x.length≤2147483647∧∀ y∈x,0≤y∧y < 128) (hlim:l.length+(linePcs false true counts cells).flatten.length≤4000000000000):
  Calls Tryz.prog 409 #[.pointer (some ⟨tp,0,none⟩),.iface 148 (.pointer (some ⟨b,0,none⟩)),.slice (some ⟨gc,0,none⟩) counts.length cc,.slice A cells.length c] w fun e w'=>e=.returned (.tuple #[])∧Pours w w' b l (l++(linePcs false true counts cells).flatten):=by
 have HX:=am hx
 have HS:=am hs
 have HPAD:=am (show po.pad=⟨#[109,105,110,105,109,97,108]⟩ from hpad)
 have HCNT:=am hcnt
 have HCL:=am hcl
 have HCELL:=am hcell
 have HLE:=am hle
 have HCO:=am hco
 have HLIM:=am hlim
 have hws:=method_ws (some ⟨b,0,none⟩)
 have hwt:=method_wt (some ⟨b,0,none⟩)
 have hnl:=nil_ws ⟨b,0,none⟩
 obtain ⟨pcs,hpcs⟩:∃ pcs,linePcs false true counts cells=pcs:=⟨_,rfl⟩
 have HPCS:=am hpcs
 rw [hpcs] at HLIM
 clear hx hs hpad hcnt hcl hcell hle hco hlim hpcs
 go_enter Tryz.func409,Tryz.ntmps409
 go_wp2
 go_loopg [15] cells.length (fun gf v15 wx=>∃ (j:Nat),v15=.int .i64 (j:Int)∧Aside0 (j≤cells.length∧cells.length - j=gf)∧Aside0 (Pours w wx b l (l++(pcs.take j).flatten)))
 case atStart=>exact ⟨0,rfl,⟨by omega,by omega⟩,⟨by simpa using Pours.refl HS.out⟩⟩
 case round=>
  obtain ⟨j,rfl,HP,HP0⟩:=hrel
  by_cases hj:j < cells.length
  ·have hpp:=eq_true hj
   have hlt:decide ((j:Int) < (cells.length:Int))=true:=decide_eq_true (by omega)
   have hjc:j < counts.length:=Nat.lt_of_lt_of_le hj HLE.out
   have hpc:=eq_true hjc
   have hwj:wrap64 ((j:Int)+1)=((j+1:Nat):Int):=by have:=HCL.out.1;unfold wrap64;omega
   have hjp:j < pcs.length:=by rw [← HPCS.out,linePcs_len];exact hj
   have hpj:pcs[j]=cellPc false true j counts[j] cells[j]:=by
    have h1:=linePcs_at false true counts cells j hj
    rw [HPCS.out,getD_at counts j hjc,List.getElem?_eq_getElem hjp] at h1
    exact Option.some.inj h1
   have hfl:=flat_take pcs j hjp
   have hfle:=flat_take_le pcs (j+1)
   rw [hfl,List.length_append,hpj] at hfle
   rw [hpj] at hfl
   have hcj:=HCL.out.2 _ (List.getElem_mem hjc)
   have hxj:=HCO.out _ (List.getElem_mem hj)
   have CK:=am (fun wx l1 h=>HCNT.out wx l1 h j hjc)
   obtain ⟨ad,A0,c0,hA,hall⟩:=HCELL.out j hj
   have hbt0:=bytesI_toB cells[j] hxj.2
   have hall2:∀ wx l1,Pours w wx b l l1→wx.cell? (ad.add j)=some (.slice A0 (toB cells[j]).length c0)∧Kd.C (Kd.int .u8) wx A0 (bytesI (toB cells[j])).length (bytesI (toB cells[j])):=fun wx l1 h=>by
    obtain ⟨h1,h2⟩:=hall wx l1 h
    rw [hbt0]
    exact ⟨by rw [toB_len];exact h1,h2⟩
   clear hall hbt0
   obtain ⟨cnt,hcnt⟩:∃ cnt,counts[j]=cnt:=⟨_,rfl⟩
   obtain ⟨x,hx⟩:∃ x,cells[j]=x:=⟨_,rfl⟩
   rw [hcnt] at hcj CK hfl hfle
   rw [hx] at hxj hall2 hfl hfle
   obtain ⟨t,ht⟩:∃ t,toB x=t:=⟨_,rfl⟩
   have hbt:bytesI t=x:=by rw [← ht];exact bytesI_toB x hxj.2
   have hlen:x.length=t.length:=by rw [← hbt,bytesI_length]
   rw [ht] at hall2
   have DC:=am hall2
   have HBR:=am (show ∀ y∈bytesI t,0≤y∧y < 128 by rw [hbt];exact hxj.2)
   obtain ⟨fl,hfn⟩:∃ fl,(cnt - (x.length:Int)).toNat=fl:=⟨_,rfl⟩
   obtain ⟨cur,hcur⟩:∃ cur,l++(pcs.take j).flatten=cur:=⟨_,rfl⟩
   have HLB:=am (show cur.length+(cellPc false true j cnt x).length≤4000000000000 by rw [← hcur,List.length_append];have:=HLIM.out;omega)
   have HFL:=am (show l++(pcs.take (j+1)).flatten=cur++cellPc false true j cnt x by rw [hfl,← List.append_assoc,hcur])
   have HCU:=am hcur
   have HT:=am ht
   have HBT:=am hbt
   have HLEN:=am hlen
   have HFN:=am hfn
   have HCJ:=am hcj
   have HXJ:=am hxj
   have HJ:=am hj
   rw [hcur] at HP0
   subst hA
   have q1:=(DC.out _ _ HP0.out).1
   have hw2:wrap64 (cnt - (t.length:Int))=cnt - (t.length:Int):=by have:=HCJ.out;have:=HXJ.out.1;have:=HLEN.out;unfold wrap64;omega
   have ck:=CK.out _ _ HP0.out
   have HLIM2:=am (show cur.length+(cellPc false true j cnt x).length≤4000000000000∧(cellPc false true j cnt x).length=(if j=0 then 1 else 0)+((0+2+1)+t.length) from ⟨HLB.out,by unfold cellPc;rw [ht];by_cases h:j=0 <;> simp [h] <;> omega⟩)
   clear hj hjp hpj hfl hfle hcj hxj hcnt hx ht hbt hlen hfn hcur hall2
   clear hjc
   by_cases h0:j=0
   case' pos=>
    have d0:((j:Int)==0)=true:=beq_iff_eq.mpr (by omega)
    have e0:=eq_true h0
    have HFS0:=am (show ([124]:List UInt8)=(if j=0 then [124] else []) by rw [if_pos h0])
    have HLB2:=am (show cur.length+(t.length+([124]:List UInt8).length+(0+2+1))≤4000000000000 by have:=HLIM2.out;rw [if_pos h0] at this;simp only [List.length_cons,List.length_nil];omega)
    clear h0
    go_wp2_with (go_at_call 335;fail)
    refine (sink_byte (HP0.out.sink HS.out) 124 (by have:=HLB2.out;(try simp only [List.length_append,List.length_cons,List.length_nil,List.length_replicate]);omega)).mono ?_
    rintro e w1 ⟨rfl,hp⟩
    have HP1:=am (HP0.out.trans hp)
    clear hp
    obtain ⟨fs,hfs⟩:∃ fs:List UInt8,fs=[124]:=⟨_,rfl⟩
    have HF1:=am (show fs.length≤1 by rw [hfs];decide)
    have HFS:=am (hfs.trans HFS0.out)
    rw [← hfs] at HP1 HLB2
    clear hfs
   case' neg=>
    have d0:((j:Int)==0)=false:=beq_eq_false_iff_ne.mpr (by omega)
    have e0:=eq_false h0
    have HFS0:=am (show ([]:List UInt8)=(if j=0 then [124] else []) by rw [if_neg h0])
    have HLB2:=am (show cur.length+(t.length+([]:List UInt8).length+(0+2+1))≤4000000000000 by have:=HLIM2.out;rw [if_neg h0] at this;simp only [List.length_nil];omega)
    clear h0
    have HP1:Aside0 (Pours w wr b l (cur++[])):=⟨by rw [List.append_nil];exact HP0.out⟩
    obtain ⟨fs,hfs⟩:∃ fs:List UInt8,fs=[]:=⟨_,rfl⟩
    have HF1:=am (show fs.length≤1 by rw [hfs];decide)
    have HFS:=am (hfs.trans HFS0.out)
    rw [← hfs] at HP1 HLB2
    clear hfs
   all_goals
    go_wp2_with (go_at_call 420;fail)
    refine (runeCountB_calls _ A0 c0 t (DC.out _ _ HP1.out).2 (by have:=HLB2.out;omega) HBR.out).mono ?_
    rintro e wz ⟨rfl,hw⟩
    rw [hw]
    clear hw
    have ck1:=CK.out _ _ HP1.out
    have pk1:=((HX.out.keep (HP1.out.below HS.out)).now.plug.pad)
    rw [HPAD.out] at pk1
    go_wp2_with (go_at_call 335;fail)
    refine (sink_byte (HP1.out.sink HS.out) 32 (by have:=HLB2.out;(try simp only [List.length_append,List.length_cons,List.length_nil,List.length_replicate]);omega)).mono ?_
    rintro e w2 ⟨rfl,hp⟩
    have HP2:=am (HP1.out.trans hp)
    clear hp
    go_wp2_with (go_at_call 325;fail)
    refine (sink_cell (HP2.out.sink HS.out) A0 c0 t (DC.out _ _ HP2.out).2 (by have:=HLB2.out;have:=HF1.out;(try simp only [List.length_append,List.length_cons,List.length_nil,List.length_replicate]);omega)).mono ?_
    rintro e w3 ⟨rfl,hp⟩
    have HP3:=am (HP2.out.trans hp)
    clear hp
    have pk3:=((HX.out.keep (HP3.out.below HS.out)).now.plug.pad)
    rw [HPAD.out] at pk3
    go_wp2_with (go_at_call 335;fail)
    refine (sink_byte (HP3.out.sink HS.out) 32 (by have:=HLB2.out;(try simp only [List.length_append,List.length_cons,List.length_nil,List.length_replicate]);omega)).mono ?_
    rintro e w4 ⟨rfl,hp⟩
    have HP4:=am (HP3.out.trans hp)
    clear hp
    go_wp2_with (go_at_call 335;fail)
    refine (sink_byte (HP4.out.sink HS.out) 124 (by have:=HLB2.out;(try simp only [List.length_append,List.length_cons,List.length_nil,List.length_replicate]);omega)).mono ?_
    rintro e w5 ⟨rfl,hp⟩
    have HP5:=am (HP4.out.trans hp)
    clear hp
    go_wp2
    go_roundg (cells.length - (j+1))
    case measure=>have:=HP.out;have:=HJ.out;omega
    case rel=>
     refine ⟨j+1,by rw [hwj],⟨by have:=HJ.out;omega,rfl⟩,⟨?_⟩⟩
     rw [HFL.out]
     have h:=HP5.out
     unfold cellPc
     rw [← HFS.out,HT.out]
     simpa [List.append_assoc] using h
  ·have hpp:=eq_false hj
   have hlt:decide ((j:Int) < (cells.length:Int))=false:=decide_eq_false (by omega)
   have HJ:=am hj
   clear hj
   go_wp2
   go_end0
   have e:pcs.take j=pcs:=by
    have h1:=linePcs_len false true counts cells
    rw [HPCS.out] at h1
    exact List.take_of_length_le (by have:=HP.out;have:=HJ.out;omega)
   have h:=HP0.out
   rw [e] at h
   rw [HPCS.out]
   exact ⟨rfl,h⟩
theorem writeRow_none {N X C cm tp bs:Nat} {tab:Nat→Int} {po:PO} {w:World} {b:Nat} {l:List UInt8} (hx:Cx N w X C cm tp bs tab po) (hs:Sink N w b l) (hpad:po.pad=bNone) (counts:List Int) (gc cc:Nat) (hcnt:∀ wx l1,Pours w wx b l l1→∀ j (hj:j < counts.length),wx.cell? ⟨gc,j,none⟩=some (.int .i64 counts[j])) (hcl:counts.length≤1000∧∀ y∈counts,1≤y∧y≤2147483647)
  (cells:List (List Int)) (A:Option Addr) (c:Nat) (hcell:∀ j (hj:j < cells.length),∃ ad A0 c0,A=some ad∧∀ wx l1,Pours w wx b l l1→wx.cell? (ad.add j)=some (.slice A0 cells[j].length c0)∧Kd.C (Kd.int .u8) wx A0 cells[j].length cells[j]) (hle:cells.length≤counts.length) (hco:∀ x∈cells,x.length≤2147483647∧∀ y∈x,0≤y∧y < 128) (hlim:l.length+(linePcs false false counts cells).flatten.length≤4000000000000):
  Calls Tryz.prog 409 #[.pointer (some ⟨tp,0,none⟩),.iface 148 (.pointer (some ⟨b,0,none⟩)),.slice (some ⟨gc,0,none⟩) counts.length cc,.slice A cells.length c] w fun e w'=>e=.returned (.tuple #[])∧Pours w w' b l (l++(linePcs false false counts cells).flatten):=by
 have HX:=am hx
 have HS:=am hs
 have HPAD:=am (show po.pad=⟨#[110,111,110,101]⟩ from hpad)
 have HCNT:=am hcnt
 have HCL:=am hcl
 have HCELL:=am hcell
 have HLE:=am hle
 have HCO:=am hco
 have HLIM:=am hlim
 have hws:=method_ws (some ⟨b,0,none⟩)
 have hwt:=method_wt (some ⟨b,0,none⟩)
 have hnl:=nil_ws ⟨b,0,none⟩
 obtain ⟨pcs,hpcs⟩:∃ pcs,linePcs false false counts cells=pcs:=⟨_,rfl⟩
 have HPCS:=am hpcs
 rw [hpcs] at HLIM
 clear hx hs hpad hcnt hcl hcell hle hco hlim hpcs
 go_enter Tryz.func409,Tryz.ntmps409
 go_wp2
 go_loopg [15] cells.length (fun gf v15 wx=>∃ (j:Nat),v15=.int .i64 (j:Int)∧Aside0 (j≤cells.length∧cells.length - j=gf)∧Aside0 (Pours w wx b l (l++(pcs.take j).flatten)))
 case atStart=>exact ⟨0,rfl,⟨by omega,by omega⟩,⟨by simpa using Pours.refl HS.out⟩⟩
 case round=>
  obtain ⟨j,rfl,HP,HP0⟩:=hrel
  by_cases hj:j < cells.length
  ·have hpp:=eq_true hj
   have hlt:decide ((j:Int) < (cells.length:Int))=true:=decide_eq_true (by omega)
   have hjc:j < counts.length:=Nat.lt_of_lt_of_le hj HLE.out
   have hpc:=eq_true hjc
   have hwj:wrap64 ((j:Int)+1)=((j+1:Nat):Int):=by have:=HCL.out.1;unfold wrap64;omega
   have hjp:j < pcs.length:=by rw [← HPCS.out,linePcs_len];exact hj
   have hpj:pcs[j]=cellPc false false j counts[j] cells[j]:=by
    have h1:=linePcs_at false false counts cells j hj
    rw [HPCS.out,getD_at counts j hjc,List.getElem?_eq_getElem hjp] at h1
    exact Option.some.inj h1
   have hfl:=flat_take pcs j hjp
   have hfle:=flat_take_le pcs (j+1)
   rw [hfl,List.length_append,hpj] at hfle
   rw [hpj] at hfl
   have hcj:=HCL.out.2 _ (List.getElem_mem hjc)
   have hxj:=HCO.out _ (List.getElem_mem hj)
   have CK:=am (fun wx l1 h=>HCNT.out wx l1 h j hjc)
   obtain ⟨ad,A0,c0,hA,hall⟩:=HCELL.out j hj
   have hbt0:=bytesI_toB cells[j] hxj.2
   have hall2:∀ wx l1,Pours w wx b l l1→wx.cell? (ad.add j)=some (.slice A0 (toB cells[j]).length c0)∧Kd.C (Kd.int .u8) wx A0 (bytesI (toB cells[j])).length (bytesI (toB cells[j])):=fun wx l1 h=>by
    obtain ⟨h1,h2⟩:=hall wx l1 h
    rw [hbt0]
    exact ⟨by rw [toB_len];exact h1,h2⟩
   clear hall hbt0
   obtain ⟨cnt,hcnt⟩:∃ cnt,counts[j]=cnt:=⟨_,rfl⟩
   obtain ⟨x,hx⟩:∃ x,cells[j]=x:=⟨_,rfl⟩
   rw [hcnt] at hcj CK hfl hfle
   rw [hx] at hxj hall2 hfl hfle
   obtain ⟨t,ht⟩:∃ t,toB x=t:=⟨_,rfl⟩
   have hbt:bytesI t=x:=by rw [← ht];exact bytesI_toB x hxj.2
   have hlen:x.length=t.length:=by rw [← hbt,bytesI_length]
   rw [ht] at hall2
   have DC:=am hall2
   have HBR:=am (show ∀ y∈bytesI t,0≤y∧y < 128 by rw [hbt];exact hxj.2)
   obtain ⟨fl,hfn⟩:∃ fl,(cnt - (x.length:Int)).toNat=fl:=⟨_,rfl⟩
   obtain ⟨cur,hcur⟩:∃ cur,l++(pcs.take j).flatten=cur:=⟨_,rfl⟩
   have HLB:=am (show cur.length+(cellPc false false j cnt x).length≤4000000000000 by rw [← hcur,List.length_append];have:=HLIM.out;omega)
   have HFL:=am (show l++(pcs.take (j+1)).flatten=cur++cellPc false false j cnt x by rw [hfl,← List.append_assoc,hcur])
   have HCU:=am hcur
   have HT:=am ht
   have HBT:=am hbt
   have HLEN:=am hlen
   have HFN:=am hfn
   have HCJ:=am hcj
   have HXJ:=am hxj
   have HJ:=am hj
   rw [hcur] at HP0
   subst hA
   have q1:=(DC.out _ _ HP0.out).1
   have hw2:wrap64 (cnt - (t.length:Int))=cnt - (t.length:Int):=by have:=HCJ.out;have:=HXJ.out.1;have:=HLEN.out;unfold wrap64;omega
   have ck:=CK.out _ _ HP0.out
   have HLIM2:=am (show cur.length+(cellPc false false j cnt x).length≤4000000000000∧(cellPc false false j cnt x).length=(if j=0 then 1 else 0)+((0+0+1)+t.length) from ⟨HLB.out,by unfold cellPc;rw [ht];by_cases h:j=0 <;> simp [h] <;> omega⟩)
   clear hj hjp hpj hfl hfle hcj hxj hcnt hx ht hbt hlen hfn hcur hall2
   clear hjc
   by_cases h0:j=0
   case' pos=>
    have d0:((j:Int)==0)=true:=beq_iff_eq.mpr (by omega)
    have e0:=eq_true h0
    have HFS0:=am (show ([124]:List UInt8)=(if j=0 then [124] else []) by rw [if_pos h0])
    have HLB2:=am (show cur.length+(t.length+([124]:List UInt8).length+(0+0+1))≤4000000000000 by have:=HLIM2.out;rw [if_pos h0] at this;simp only [List.length_cons,List.length_nil];omega)
    clear h0
    go_wp2_with (go_at_call 335;fail)
    refine (sink_byte (HP0.out.sink HS.out) 124 (by have:=HLB2.out;(try simp only [List.length_append,List.length_cons,List.length_nil,List.length_replicate]);omega)).mono ?_
    rintro e w1 ⟨rfl,hp⟩
    have HP1:=am (HP0.out.trans hp)
    clear hp
    obtain ⟨fs,hfs⟩:∃ fs:List UInt8,fs=[124]:=⟨_,rfl⟩
    have HF1:=am (show fs.length≤1 by rw [hfs];decide)
    have HFS:=am (hfs.trans HFS0.out)
    rw [← hfs] at HP1 HLB2
    clear hfs
   case' neg=>
    have d0:((j:Int)==0)=false:=beq_eq_false_iff_ne.mpr (by omega)
    have e0:=eq_false h0
    have HFS0:=am (show ([]:List UInt8)=(if j=0 then [124] else []) by rw [if_neg h0])
    have HLB2:=am (show cur.length+(t.length+([]:List UInt8).length+(0+0+1))≤4000000000000 by have:=HLIM2.out;rw [if_neg h0] at this;simp only [List.length_nil];omega)
    clear h0
    have HP1:Aside0 (Pours w wr b l (cur++[])):=⟨by rw [List.append_nil];exact HP0.out⟩
    obtain ⟨fs,hfs⟩:∃ fs:List UInt8,fs=[]:=⟨_,rfl⟩
    have HF1:=am (show fs.length≤1 by rw [hfs];decide)
    have HFS:=am (hfs.trans HFS0.out)
    rw [← hfs] at HP1 HLB2
    clear hfs
   all_goals
    go_wp2_with (go_at_call 420;fail)
    refine (runeCountB_calls _ A0 c0 t (DC.out _ _ HP1.out).2 (by have:=HLB2.out;omega) HBR.out).mono ?_
    rintro e wz ⟨rfl,hw⟩
    rw [hw]
    clear hw
    have ck1:=CK.out _ _ HP1.out
    have pk1:=((HX.out.keep (HP1.out.below HS.out)).now.plug.pad)
    rw [HPAD.out] at pk1
    have HP2:=HP1
    go_wp2_with (go_at_call 325;fail)
    refine (sink_cell (HP2.out.sink HS.out) A0 c0 t (DC.out _ _ HP2.out).2 (by have:=HLB2.out;have:=HF1.out;(try simp only [List.length_append,List.length_cons,List.length_nil,List.length_replicate]);omega)).mono ?_
    rintro e w3 ⟨rfl,hp⟩
    have HP3:=am (HP2.out.trans hp)
    clear hp
    have pk3:=((HX.out.keep (HP3.out.below HS.out)).now.plug.pad)
    rw [HPAD.out] at pk3
    go_wp2_with (go_at_call 335;fail)
    refine (sink_byte (HP3.out.sink HS.out) 124 (by have:=HLB2.out;(try simp only [List.length_append,List.length_cons,List.length_nil,List.length_replicate]);omega)).mono ?_
    rintro e w4 ⟨rfl,hp⟩
    have HP4:=am (HP3.out.trans hp)
    clear hp
    go_wp2
    go_roundg (cells.length - (j+1))
    case measure=>have:=HP.out;have:=HJ.out;omega
    case rel=>
     refine ⟨j+1,by rw [hwj],⟨by have:=HJ.out;omega,rfl⟩,⟨?_⟩⟩
     rw [HFL.out]
     have h:=HP4.out
     unfold cellPc
     rw [← HFS.out,HT.out]
     simpa [List.append_assoc] using h
  ·have hpp:=eq_false hj
   have hlt:decide ((j:Int) < (cells.length:Int))=false:=decide_eq_false (by omega)
   have HJ:=am hj
   clear hj
   go_wp2
   go_end0
   have e:pcs.take j=pcs:=by
    have h1:=linePcs_len false false counts cells
    rw [HPCS.out] at h1
    exact List.take_of_length_le (by have:=HP.out;have:=HJ.out;omega)
   have h:=HP0.out
   rw [e] at h
   rw [HPCS.out]
   exact ⟨rfl,h⟩
end Go.Proofs.YtbheflncgmhadaaGreat.Hand
