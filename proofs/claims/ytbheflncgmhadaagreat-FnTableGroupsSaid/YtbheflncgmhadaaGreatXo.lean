/- The plugin of tables: widths, filling up. Conditions: those in each statement. -/
import Derived.Test.YtbheflncgmhadaaGreatXn
set_option linter.unusedVariables false
set_option linter.unusedSimpArgs false
set_option maxHeartbeats 40000000
set_option maxRecDepth 100000
namespace Go.Proofs.YtbheflncgmhadaaGreat.Hand
open Go.RowKit Go.Proofs.YtbheflncgmhadaaGreatW.PrintWords Go.Proofs.YtbheflncgmhadaaGreatW.PrintLast Go.Proofs.YtbheflncgmhadaaGreatW.PrintMore
attribute [local go_sem] run_store_func'
structure TabAt (N X C cm tp bs:Nat) (tab:Nat→Int) (po:PO) (w:World) (S:Nat) (i:NI) (kids:List DT) (hd:DT×List (DT×List UInt8)) (rows:List (DT×List (DT×List UInt8))):Prop where
 lookA:∃ par prev next,Looked w anyN S i kids par prev next
 lookC:∃ par prev next,Looked w (fun i=>i.atom=0) S i kids par prev next
 attr:w.cell? ⟨S,9,none⟩=some (.slice none 0 0)
 noTable:(DT.selL qTable kids).head?=none
 nm:i.nm≠nTr
 parent:∃ D prev next iD kD vD nD,DT.At w (some D) prev next (.node S i kids)∧DT.At w none vD nD (.node D iD kD)∧iD.Plain∧iD.nm=nDoc
 header:∀ w',Below w.heap.size w w'→Calls Tryz.prog 413 #[.pointer (some ⟨S,0,none⟩)] w' fun e w2=>e=.returned (.pointer (some ⟨hd.1.blk,0,none⟩))∧Below w'.heap.size w' w2
 clear:Clear w hd.1.blk
 nrm:DT.nrmL hd.1.blk kids=rows.map fun r=>r.1.blk
 hdr:RowOk N X C cm tp bs tab po w hd
 ok:∀ r∈rows,RowOk N X C cm tp bs tab po w r
 few:rows.length≤900∧(∀ xs∈rowsIn0 tab (hd::rows),xs.length≤1000)∧∀ xs∈rowsIn0 tab (hd::rows),∀ x∈xs,x.length≤2147483647∧∀ y∈x,(0≤y∧y < 128)∧y≠10∧y≠7
theorem TabAt.keep {N X C cm tp bs:Nat} {tab:Nat→Int} {po:PO} {w w1:World} {S:Nat} {i:NI} {kids:List DT} {hd:DT×List (DT×List UInt8)} {rows:List (DT×List (DT×List UInt8))} (h:TabAt N X C cm tp bs tab po w S i kids hd rows) (hb:Below w.heap.size w w1):TabAt N X C cm tp bs tab po w1 S i kids hd rows where
 lookA:=by obtain ⟨a,b,c,hh⟩:=h.lookA;exact ⟨a,b,c,hh.keep hb⟩
 lookC:=by obtain ⟨a,b,c,hh⟩:=h.lookC;exact ⟨a,b,c,hh.keep hb⟩
 attr:=cell_keep hb h.attr
 noTable:=h.noTable
 nm:=h.nm
 parent:=by obtain ⟨D,a,b,c,d,e,f,h1,h2,h3⟩:=h.parent;exact ⟨D,a,b,c,d,e,f,DT.At.keep hb h1,DT.At.keep hb h2,h3⟩
 header:=fun w' h'=>h.header w' (hb.trans (h'.mono hb.size))
 clear:=h.clear.keep hb
 nrm:=h.nrm
 hdr:=h.hdr.keep hb
 ok:=fun r hr=>(h.ok r hr).keep hb
 few:=h.few
structure Content (w':World) (N n:Nat) (L:List TRow) (t:Nat):Prop where
 at_:∃ f v g c,w'.heap[t]?=some (.cells #[v,.slice (some ⟨g,0,none⟩) L.length c,.slice none 0 0] 433 (0,0))∧L.length≤c∧N≤g∧Grid f w' N g L.length L∧Kd.R Kd.string 9 w' N (fun _=>True) v (List.replicate n ⟨#[]⟩)
 ge:N≤t
theorem rowAlign_calls {N X C cm tp bs:Nat} {tab:Nat→Int} {po:PO} {w:World} {r:DT×List (DT×List UInt8)} (h:RowOk N X C cm tp bs tab po w r):∀ v0:Value,
  Calls Tryz.prog 418 #[.pointer (some ⟨r.1.blk,0,none⟩),v0] w fun e w'=>∃ v,e=.returned v∧Kd.R Kd.string 9 w' w.heap.size (fun _=>True) v (List.replicate r.2.length ⟨#[]⟩)∧Below w.heap.size w w':=by
 intro v0
 obtain ⟨ih,kh,ph,vh,nh,e1,hlk,hsel⟩:=h.look
 have CA:=alignments_calls hlk (fun c hc=>by
  rw [hsel] at hc
  obtain ⟨p,hp,rfl⟩:=List.mem_map.1 hc
  exact (h.ok p hp).attr) v0
 rw [hsel,List.length_map] at CA
 exact CA
theorem collectTable_calls {N X C cm tp bs:Nat} {tab:Nat→Int} {po:PO} {w:World} (hx:Cx N w X C cm tp bs tab po) {S:Nat} {i:NI} {kids:List DT} {hd:DT×List (DT×List UInt8)} {rows:List (DT×List (DT×List UInt8))} (ht:TabAt N X C cm tp bs tab po w S i kids hd rows) {L:List TRow} (hL:rowsOut po (rowsIn tab (hd::rows))=L):
  Calls Tryz.prog 406 #[.pointer (some ⟨tp,0,none⟩),.iface 187 (.pointer (some ⟨X,0,none⟩)),.pointer (some ⟨S,0,none⟩)] w fun e w'=>Below w.heap.size w w'∧((L=[]∧e=.returned (.pointer none))∨(L≠[]∧∃ t,e=.returned (.pointer (some ⟨t,0,none⟩))∧Content w' w.heap.size hd.2.length L t)):=by
 have HX:=am hx
 have HT:=am ht
 have C1:=am (fun k f=>attrOr_calls w S ht.attr k f)
 clear hx ht
 go_enter Tryz.func406,Tryz.ntmps406
 go_wp2_with (go_at_call 303;fail)
 refine (C1.out _ _).mono ?_
 rintro e w1 ⟨rfl,hw⟩
 rw [hw]
 clear hw C1
 obtain ⟨pa,pb,pc,hla⟩:=HT.out.lookA
 have C2:=am (noProblem_calls hla HT.out.noTable)
 clear hla
 go_wp2_with (go_at_call 411;fail)
 refine C2.out.mono ?_
 rintro e w1 ⟨rfl,hb⟩
 have HB1:=am hb
 have HT1:=am (HT.out.keep hb)
 clear hb C2
 obtain ⟨D,qa,qb,qc,qd,qe,qf,q1,q2,q3,q4⟩:=HT1.out.parent
 have C3:=am (noParent_calls (pD:=none) q1 q2 q3 q4)
 clear q1 q2 q3 q4
 go_wp2_with (go_at_call 412;fail)
 refine C3.out.mono ?_
 rintro e w2 ⟨rfl,hb⟩
 have HB2:=am (HB1.out.trans (hb.mono HB1.out.size))
 have HT2:=am (HT1.out.keep hb)
 clear hb C3 HT1
 have C4:=am (HT2.out.header w2 (Below.refl _ _))
 go_wp2_with (go_at_call 413;fail)
 refine C4.out.mono ?_
 rintro e w3 ⟨rfl,hb⟩
 have HB3:=am (HB2.out.trans (hb.mono HB2.out.size))
 have HT3:=am (HT2.out.keep hb)
 clear hb C4 HT2
 obtain ⟨pa',pb',pc',hla⟩:=HT3.out.lookA
 have C5:=am (normalRows_calls hla HT3.out.clear HT3.out.nm)
 clear hla
 go_wp2_with (go_at_call 414;fail)
 refine C5.out.mono ?_
 rintro e w4 ⟨v,rfl,hr,hb⟩
 have HB4:=am (HB3.out.trans (hb.mono HB3.out.size))
 have HT4:=am (HT3.out.keep hb)
 rw [HT4.out.nrm] at hr
 obtain ⟨A,c,hv,hA⟩:∃ A c,v=.slice A rows.length c∧(∀ j (hj:j < rows.length),∃ g,A=some ⟨g,0,none⟩∧w4.cell? ⟨g,j,none⟩=some (.pointer (some ⟨rows[j].1.blk,0,none⟩))):=by
  rcases own_ptrs hr with ⟨h0,c,rfl⟩|⟨g,c,rfl,hlc,hbg,hgs,hcell⟩
  ·have h00:rows=[]:=by cases rows with|nil=>rfl|cons a b=>cases h0
   subst h00
   exact ⟨none,c,rfl,fun j hj=>absurd hj (Nat.not_lt_zero _)⟩
  ·refine ⟨some ⟨g,0,none⟩,c,by rw [List.length_map],fun j hj=>⟨g,rfl,?_⟩⟩
   have:=hcell j (by simpa using hj)
   simpa using this
 subst hv
 clear hr hb C5 HT3
 have C6:=am (collectRows_calls (HX.out.keep (HB4.out.mono HX.out.le)) hd rows HT4.out.hdr HT4.out.ok HT4.out.few.1 (fun xs hx=>HT4.out.few.2.1 xs.1 (List.fst_mem_of_mem_zipIdx hx)) A c hA)
 have HFEW:=am (show ∀ xs∈rowsOut po (rowsIn tab (hd::rows)),xs.1.length≤1000∧∀ x∈xs.1,x.length≤2147483647∧∀ y∈x,(0≤y∧y < 128)∧y≠10∧y≠7 from fun xs hx=>by
  rcases rowsOut_sub po _ xs hx with h|h
  ·rw [h];exact ⟨Nat.zero_le _,fun x hx=>by cases hx⟩
  ·exact ⟨HT4.out.few.2.1 xs.1 (List.fst_mem_of_mem_zipIdx h),HT4.out.few.2.2 xs.1 (List.fst_mem_of_mem_zipIdx h)⟩)
 have HFL:=am (show (rowsOut po (rowsIn tab (hd::rows))).length≤1000 by
  have:=rowsOut_len po (rowsIn tab (hd::rows))
  have h2:=HT4.out.few.1
  have h3:(rowsIn tab (hd::rows)).length=rows.length+1:=by simp [rowsIn,rowsIn0]
  omega)
 rw [hL] at C6 HFEW HFL
 clear hA hL
 go_wp2_with (go_at_call 415;fail)
 refine C6.out.mono ?_
 rintro e w5 ⟨A',c',rfl,hlc,hb,hg⟩
 have HB5:=am (HB4.out.trans (hb.mono HB4.out.size))
 have HT5:=am (HT4.out.keep hb)
 clear hb C6 HT4
 by_cases hL0:L=[]
 ·subst hL0
  clear hg hlc
  go_wp2
  go_ret
  exact ⟨HB5.out,by simp⟩
 ·obtain ⟨f,g,rfl,hgN,hG⟩:=hg hL0
  have HL0:=am hL0
  have HG:=am hG
  have HGN:=am hgN
  have HLC:=am hlc
  have hne:((L.length:Int)==0)=false:=beq_eq_false_iff_ne.mpr (by have:L.length≠0:=fun h=>hL0 (List.eq_nil_of_length_eq_zero h);omega)
  have hne2:(L.length=0)=False:=eq_false (fun h=>hL0 (List.eq_nil_of_length_eq_zero h))
  clear hL0 hG hgN hg hlc
  go_wp2
  go_loopg [43] L.length (fun gf v43 wx=>∃ (a:Nat),v43=.int .i64 (a:Int)∧Aside0 (a≤L.length∧L.length - a=gf)∧wx=w5)
  case atStart=>exact ⟨0,rfl,⟨by omega,by omega⟩,rfl⟩
  case round=>
   obtain ⟨a,rfl,HP,hwx⟩:=hrel
   subst hwx
   by_cases ha:a < L.length
   ·have hpp:=eq_true ha
    have hlt:decide ((a:Int) < (L.length:Int))=true:=decide_eq_true (by omega)
    have hw1:wrap64 ((a:Int)+1)=((a+1:Nat):Int):=by have:=HFL.out;unfold wrap64;omega
    obtain ⟨A1,c1,k1,k2,k3,k4,k5⟩:=HG.out.cell a ha
    have hfe:=HFEW.out _ (List.getElem_mem ha)
    obtain ⟨xs,hxs⟩:∃ xs,L[a].1=xs:=⟨_,rfl⟩
    rw [hxs] at k1 k4 hfe
    have HA1:=am ha
    have HK4:=am k4
    have HFE:=am hfe
    clear ha k2 k3 k4 k5 hxs hfe
    go_wp2
    go_loopg [50] xs.length (fun gf v50 wx=>∃ (b:Nat),v50=.int .i64 (b:Int)∧Aside0 (b≤xs.length∧xs.length - b=gf)∧wx=wr)
    case atStart=>exact ⟨0,rfl,⟨by omega,by omega⟩,rfl⟩
    case round=>
     obtain ⟨b,rfl,HPb,hwx⟩:=hrel
     rename_i wq
     subst hwx
     by_cases hb:b < xs.length
     ·have hppb:=eq_true hb
      have hltb:decide ((b:Int) < (xs.length:Int))=true:=decide_eq_true (by omega)
      have hw2:wrap64 ((b:Int)+1)=((b+1:Nat):Int):=by have:=HFE.out.1;unfold wrap64;omega
      obtain ⟨ad,A0,c0,rfl,q1,q2,q3⟩:=at_cells HK4.out b hb
      have hx:=HFE.out.2 _ (List.getElem_mem hb)
      have CN:=am (noNewline_calls _ A0 c0 xs[b] q3 (by omega) (fun y hy=>(hx.2 y hy).2.1))
      have HBB:=am hb
      obtain ⟨x,hxe⟩:∃ x,xs[b]=x:=⟨_,rfl⟩
      rw [hxe] at q1 CN
      clear hb q2 q3 hx hxe
      go_wp2_with (go_at_call 416;fail)
      refine CN.out.mono ?_
      rintro e w6 ⟨rfl,hw⟩
      rw [hw]
      clear hw CN q1
      go_wp2
      go_roundg (xs.length - (b+1))
      case measure=>have:=HPb.out;have:=HBB.out;omega
      case rel=>exact ⟨b+1,by rw [hw2],⟨by have:=HBB.out;omega,rfl⟩,rfl⟩
     ·have hppb:=eq_false hb
      have hltb:decide ((b:Int) < (xs.length:Int))=false:=decide_eq_false (by omega)
      clear hb
      go_wp2
      go_roundg (L.length - (a+1))
      case measure=>have:=HP.out;have:=HA1.out;omega
      case rel=>exact ⟨a+1,by rw [hw1],⟨by have:=HA1.out;omega,rfl⟩,rfl⟩
   ·have hpp:=eq_false ha
    have hlt:decide ((a:Int) < (L.length:Int))=false:=decide_eq_false (by omega)
    clear ha
    have CA:=rowAlign_calls HT5.out.hdr
    have CA:=am CA
    have mixed:Tryz.prog.follows .mixedOrders=true:=by kernel_rfl
    go_wp2_with (go_at_call 418;fail)
    refine (CA.out _).mono ?_
    rintro e w6 ⟨va,rfl,hra,hb⟩
    obtain ⟨Aa,ca,hva⟩:=Kd.R_slice hra
    rw [List.length_replicate] at hva
    subst hva
    have HB6:=am (HB5.out.trans (hb.mono HB5.out.size))
    have HRA:=am (Kd.R_lower hra HB5.out.size)
    have HG6:=am (HG.out.keep hb)
    obtain ⟨pd,pe,pf,hlc⟩:=(HT5.out.keep hb).lookC
    have CC:=am (noCaption_calls hlc 187 (.pointer (some ⟨X,0,none⟩)))
    clear hra hb hlc CA
    go_wp2_with (go_at_call 419;fail)
    refine CC.out.mono ?_
    rintro e w7 ⟨rfl,hb⟩
    have HB7:=am (HB6.out.trans (hb.mono HB6.out.size))
    have HRA7:=am (Kd.R_below HRA.out hb)
    have HG7:=am (HG6.out.keep hb)
    clear hb CC
    go_wp2
    go_ret
    have hbn:=(Below.refl w7.heap.size w7).alloc (Nat.le_refl _) (.cells #[.slice Aa hd.2.length ca,.slice (some ⟨g,0,none⟩) L.length c',.slice none 0 0] 433)
    refine ⟨HB7.out.trans (hbn.mono HB7.out.size),.inr ⟨HL0.out,_,rfl,⟨f,_,g,c',alloc_new _ _,HLC.out,Nat.le_trans HB4.out.size HGN.out,(HG7.out.lower HB4.out.size).keep hbn,Kd.R_below HRA7.out hbn⟩,HB7.out.size⟩⟩
theorem info3:(Tryz.prog.info? 3).map (fun i=>(i.zero,i.size,i.bytes))=some (some (.int .i64 0),1,8):=by kernel_rfl
theorem R_num {w:World} {base g c:Nat} {ok:Nat→Prop} {xs:List Int} (h:Kd.R (Kd.int .i64) 3 w base ok (.slice (some ⟨g,0,none⟩) xs.length c) xs) (j:Nat) (hj:j < xs.length):w.cell? ⟨g,j,none⟩=some (.int .i64 xs[j])∧w.frozen? ⟨g,j,none⟩=false:=by
 obtain ⟨_,inner,hown,hr⟩:=h
 have e:inner=xs.map (Value.int .i64):=reps_scalar (enc:=Value.int .i64) hr
 subst e
 rcases hown.2 with ⟨h0,_⟩|⟨g',cap,cur,e,hg,hh,hlc,hcm,hcs,htk⟩
 ·cases h0
 ·injection e with e _ _
  injection e with e
  injection e with e _ _
  subst e
  refine ⟨?_,by simp [World.frozen?,hh]⟩
  have h3:(cur.toList.take (xs.length * 1))[j]?=some (.int .i64 xs[j]):=by
   have:cur.toList.take (xs.length * 1)=xs.map (Value.int .i64):=htk
   rw [this,List.getElem?_map,List.getElem?_eq_getElem hj];rfl
  rw [List.getElem?_take] at h3
  split at h3
  ·simp [World.cell?,hh]
   simpa using h3
  ·cases h3
def grow1 (cs:List Int) (j:Nat):List Int:=if j < cs.length then cs else cs++[1]
def upd (cs:List Int) (j:Nat) (n:Int):List Int:=if (grow1 cs j).getD j 0 < n then (grow1 cs j).set j n else grow1 cs j
def updN (cs:List Int) (row:List (List Int)):Nat→List Int
 |0=>cs
 |j+1=>upd (updN cs row j) j ((row.getD j []).length:Int)
def updRows (xss:List (List (List Int))):Nat→List Int
 |0=>[]
 |i+1=>updN (updRows xss i) (xss.getD i []) (xss.getD i []).length
def maxCounts (xss:List (List (List Int))):List Int:=updRows xss xss.length
def Counts (cs:List Int):Prop:=cs.length≤1000∧∀ y∈cs,1≤y∧y≤2147483647
theorem upd_len (cs:List Int) (j:Nat) (n:Int):(upd cs j n).length=(grow1 cs j).length:=by
 unfold upd
 split
 ·rw [List.length_set]
 ·rfl
theorem upd_counts {cs:List Int} {j:Nat} {n:Int} (h:Counts cs) (hj:j≤cs.length∧j < 1000) (hn:n≤2147483647):Counts (upd cs j n)∧cs.length≤(upd cs j n).length∧j < (upd cs j n).length:=by
 have hg:Counts (grow1 cs j)∧cs.length≤(grow1 cs j).length∧j < (grow1 cs j).length:=by
  unfold grow1
  split
  ·exact ⟨h,Nat.le_refl _,by assumption⟩
  ·refine ⟨⟨by rw [List.length_append,List.length_singleton];omega,fun y hy=>?_⟩,by simp,by rw [List.length_append,List.length_singleton];omega⟩
   rcases List.mem_append.1 hy with hy|hy
   ·exact h.2 y hy
   ·rw [List.mem_singleton.1 hy];decide
 refine ⟨⟨by rw [upd_len];exact hg.1.1,fun y hy=>?_⟩,by rw [upd_len];exact hg.2.1,by rw [upd_len];exact hg.2.2⟩
 unfold upd at hy
 split at hy
 ·rename_i hlt
  rcases List.mem_or_eq_of_mem_set hy with hy|rfl
  ·exact hg.1.2 y hy
  ·have:1≤(grow1 cs j).getD j 0:=by
    rw [List.getD_eq_getElem?_getD,List.getElem?_eq_getElem hg.2.2]
    exact (hg.1.2 _ (List.getElem_mem hg.2.2)).1
   omega
 ·exact hg.1.2 y hy
theorem updN_counts {cs:List Int} {row:List (List Int)} (h:Counts cs) (hr:row.length≤1000∧∀ x∈row,x.length≤2147483647):∀ j,j≤row.length→Counts (updN cs row j)∧cs.length≤(updN cs row j).length∧j≤(updN cs row j).length
 |0,_=>⟨h,Nat.le_refl _,Nat.zero_le _⟩
 |j+1,hj=>by
  obtain ⟨h1,h2,h3⟩:=updN_counts h hr j (by omega)
  have hx:(row.getD j []).length≤2147483647:=by
   rw [List.getD_eq_getElem?_getD,List.getElem?_eq_getElem (show j < row.length by omega)]
   exact hr.2 _ (List.getElem_mem _)
  obtain ⟨q1,q2,q3⟩:=upd_counts (n:=((row.getD j []).length:Int)) h1 ⟨h3,by omega⟩ (by omega)
  exact ⟨q1,by show _≤(upd _ _ _).length;omega,q3⟩
theorem updRows_counts {xss:List (List (List Int))} (hr:∀ row∈xss,row.length≤1000∧∀ x∈row,x.length≤2147483647):∀ i,i≤xss.length→Counts (updRows xss i)∧∀ k,k < i→∀ row,xss[k]?=some row→row.length≤(updRows xss i).length
 |0,_=>⟨⟨Nat.zero_le _,fun y hy=>by cases hy⟩,fun k hk=>absurd hk (Nat.not_lt_zero _)⟩
 |i+1,hi=>by
  obtain ⟨h1,h2⟩:=updRows_counts hr i (by omega)
  have hlt:i < xss.length:=by omega
  have hg:xss.getD i []=xss[i]:=by rw [List.getD_eq_getElem?_getD,List.getElem?_eq_getElem hlt];rfl
  obtain ⟨q1,q2,q3⟩:=updN_counts h1 (hr _ (List.getElem_mem hlt)) xss[i].length (Nat.le_refl _)
  rw [← hg] at q1 q2 q3
  refine ⟨q1,fun k hk row hrow=>?_⟩
  by_cases hki:k=i
  ·subst hki
   rw [List.getElem?_eq_getElem hlt] at hrow
   rw [← Option.some.inj hrow,← hg]
   exact q3
  ·exact Nat.le_trans (h2 k (by omega) row hrow) q2
theorem maxCounts_calls {f:Nat→Nat} (w:World) (N g n c:Nat) (xss:List TRow) (hn:n≤1000) (hr:∀ row∈xss,row.1.length≤1000∧∀ x∈row.1,x.length≤2147483647∧∀ y∈x,0≤y∧y < 128) (hG:Grid f w N g n xss):
  Calls Tryz.prog 407 #[.slice (some ⟨g,0,none⟩) n c] w fun e w'=>(∃ gc cc,e=.returned (.slice (some ⟨gc,0,none⟩) (maxCounts (xss.map (·.1))).length cc)∧Kd.R (Kd.int .i64) 3 w' w.heap.size (fun _=>True) (.slice (some ⟨gc,0,none⟩) (maxCounts (xss.map (·.1))).length cc) (maxCounts (xss.map (·.1))))∧Below w.heap.size w w':=by
 have HG:=am hG
 have HR:=am hr
 have HN:=am hn
 have HRC:=am (show ∀ row∈xss.map (·.1),row.length≤1000∧∀ x∈row,x.length≤2147483647 from fun row hrow=>by
  obtain ⟨p,hp,rfl⟩:=List.mem_map.1 hrow
  exact ⟨(hr p hp).1,fun x hx=>((hr p hp).2 x hx).1⟩)
 obtain ⟨i1,hi1,hz1,hsz1,hby1⟩:=info_parts info3
 obtain ⟨W1,hmk1,hown1,hg1⟩:=run_make_own (P:=Tryz.prog) w w.heap.size 383 3 i1 _ 1 Tryz.underlying383 hi1 hz1 hsz1 .i64 .i64 0 (by rw [hby1];omega) (by unfold maxLen;omega) (Nat.le_refl _)
 have hmk1:(Instr.makeSlice 383 (.int .i64 0) (.int .i64 0)).run Tryz.prog w=.ok (.slice (some ⟨w.heap.size,0,none⟩) 0 0) W1:=hmk1
 have HB1:=am ((Below.refl w.heap.size w).grown hg1 (Nat.le_refl _) (fun k hk=>by cases hk))
 have HR1:=am (show Kd.R (Kd.int .i64) 3 W1 w.heap.size (fun _=>True) (.slice (some ⟨w.heap.size,0,none⟩) 0 0) [] from ⟨fun _ _=>trivial,[],hown1,Reps.none _ _⟩)
 clear hG hr hi1 hz1 hsz1 hby1 hown1 hg1
 go_enter Tryz.func407,Tryz.ntmps407
 go_wp2
 clear hmk1
 go_loopg [3,13] n (fun gf v3 v13 wx=>∃ (i:Nat) (cs:List Int) (gc cc:Nat),v13=.int .i64 (i:Int)∧v3=.slice (some ⟨gc,0,none⟩) cs.length cc∧Aside0 (i≤n∧n - i=gf∧cs=updRows (xss.map (·.1)) i)∧Aside0 (Kd.R (Kd.int .i64) 3 wx w.heap.size (fun _=>True) (.slice (some ⟨gc,0,none⟩) cs.length cc) cs)∧Aside0 (Below w.heap.size w wx))
 case atStart=>exact ⟨0,[],w.heap.size,0,rfl,rfl,⟨by omega,by omega,rfl⟩,HR1,HB1⟩
 case round=>
  obtain ⟨i,cs,gc,cc,rfl,rfl,HP,HRc,HBc⟩:=hrel
  by_cases hi:i < n
  ·have hpp:=eq_true hi
   have hlt:decide ((i:Int) < (n:Int))=true:=decide_eq_true (by omega)
   have hix:i < xss.length:=by rw [HG.out.len];exact hi
   have hwi:wrap64 ((i:Int)+1)=((i+1:Nat):Int):=by have:=HN.out;unfold wrap64;omega
   obtain ⟨A1,c1,k0,k2,k3,k4,k5⟩:=HG.out.cell i hix
   have k1:=cell_keep HBc.out k0
   have hrow:=HR.out _ (List.getElem_mem hix)
   have HXS:=am (show (xss.map (·.1)).getD i []=xss[i].1 by rw [List.getD_eq_getElem?_getD,List.getElem?_map,List.getElem?_eq_getElem hix];rfl)
   have HCC:=am (updRows_counts HRC.out i (by rw [List.length_map];omega)).1
   rw [← HP.out.2.2] at HCC
   obtain ⟨xs,hxs⟩:∃ xs,xss[i].1=xs:=⟨_,rfl⟩
   rw [hxs] at k1 k4 hrow HXS
   have HK4:=am k4
   have HROW:=am hrow
   have HI:=am hi
   clear hi hix k0 k2 k3 k4 k5 hrow hxs
   go_wp2
   go_loopg [3,19] xs.length (fun gf v3 v19 wx=>∃ (j:Nat) (ds:List Int) (gc cc:Nat),v19=.int .i64 (j:Int)∧v3=.slice (some ⟨gc,0,none⟩) ds.length cc∧Aside0 (j≤xs.length∧xs.length - j=gf∧ds=updN cs xs j)∧Aside0 (Kd.R (Kd.int .i64) 3 wx w.heap.size (fun _=>True) (.slice (some ⟨gc,0,none⟩) ds.length cc) ds)∧Aside0 (Below w.heap.size w wx))
   case atStart=>exact ⟨0,cs,gc,cc,rfl,rfl,⟨by omega,by omega,rfl⟩,HRc,HBc⟩
   case round=>
    obtain ⟨j,ds,gd,cd,rfl,rfl,HPj,HRd,HBd⟩:=hrel
    by_cases hj:j < xs.length
    ·have hppj:=eq_true hj
     have hltj:decide ((j:Int) < (xs.length:Int))=true:=decide_eq_true (by omega)
     have hwj:wrap64 ((j:Int)+1)=((j+1:Nat):Int):=by have:=HROW.out.1;unfold wrap64;omega
     obtain ⟨ad,A0,c0,rfl,q1,q2,q3⟩:=at_cells (Kd.C_below HK4.out HBd.out) j hj
     have hx:=HROW.out.2 _ (List.getElem_mem hj)
     have CR:=am (runeCount_calls _ A0 c0 xs[j] q3 (by omega) hx.2)
     have HXM:=am (show ((xs.getD j []).length:Int)=(xs[j].length:Int) by rw [List.getD_eq_getElem?_getD,List.getElem?_eq_getElem hj];rfl)
     have hds:=updN_counts HCC.out (row:=xs) ⟨HROW.out.1,fun x hx=>(HROW.out.2 x hx).1⟩ j (by omega)
     rw [← HPj.out.2.2] at hds
     have HJ:=am hj
     have HDS:=am hds
     have HGD:=am (Kd.R_base HRd.out gd rfl)
     obtain ⟨x,hxe⟩:∃ x,xs[j]=x:=⟨_,rfl⟩
     rw [hxe] at q1 CR HXM
     obtain ⟨m,hm⟩:∃ m,x.length=m:=⟨_,rfl⟩
     rw [hm] at q1 CR HXM
     clear hj q2 q3 hx hxe hds hm
     go_wp2_with (go_at_call 420;fail)
     refine CR.out.mono ?_
     rintro e w6 ⟨rfl,hw⟩
     rw [hw]
     clear hw CR q1
     by_cases hjd:j < ds.length
     ·have hge:decide ((j:Int)≥(ds.length:Int))=false:=decide_eq_false (by omega)
      have hge2:(ds.length≤j)=False:=eq_false (by omega)
      have HYS:=am (show ds=grow1 ds j by unfold grow1;rw [if_pos hjd])
      have HJY:=am (show j < (grow1 ds j).length by rw [← HYS.out];exact hjd)
      have HRq:=HRd
      have HBq:=HBd
      have HGY:=HGD
      clear hjd
      obtain ⟨ys,hys⟩:∃ ys,ys=ds:=⟨_,rfl⟩
      obtain ⟨gy,hgy⟩:∃ gy,gy=gd:=⟨_,rfl⟩
      obtain ⟨cy,hcy⟩:∃ cy,cy=cd:=⟨_,rfl⟩
      rw [← hys,← hgy,← hcy] at HRq
      rw [← hgy] at HGY
      rw [← hys] at HYS
      subst hys hgy hcy
      have hjy:j < ys.length:=by rw [HYS.out];exact HJY.out
      obtain ⟨r1,r2⟩:=R_num HRq.out j hjy
      have hpy:=eq_true hjy
      have HYL:=am (show ys[j]=ys.getD j 0 by rw [List.getD_eq_getElem?_getD,List.getElem?_eq_getElem hjy];rfl)
      obtain ⟨y,hy⟩:∃ y,ys[j]=y:=⟨_,rfl⟩
      rw [hy] at r1 HYL
      clear hjy hy
      by_cases hgt:y < (m:Int)
      ·have hg1:decide ((m:Int) > y)=true:=decide_eq_true hgt
       have hg2:=eq_true hgt
       have HGT:=am hgt
       have HPUT:=am (Kd.R_putg HRq.out (j:Int) (m:Int)).1
       have HBP:=am (HBq.out.setCell (p:=⟨gy,j,none⟩) HGY.out (.int .i64 (m:Int)))
       clear hgt
       go_wp2
       go_roundg (xs.length - (j+1))
       case measure=>have:=HPj.out;have:=HJ.out;omega
       case rel=>
        refine ⟨j+1,ys.set j (m:Int),gy,cy,by rw [hwj],by rw [List.length_set],⟨by have:=HJ.out;omega,rfl,?_⟩,⟨by have:=HPUT.out;rw [List.length_set];exact this⟩,HBP⟩
        show _=upd (updN cs xs j) j _
        unfold upd
        rw [← HPj.out.2.2,← HYS.out,← HYL.out,HXM.out,if_pos (by have:=HGT.out;omega)]
      ·have hg1:decide ((m:Int) > y)=false:=decide_eq_false hgt
       have hg2:=eq_false hgt
       have HGT:=am hgt
       clear hgt
       go_wp2
       go_roundg (xs.length - (j+1))
       case measure=>have:=HPj.out;have:=HJ.out;omega
       case rel=>
        refine ⟨j+1,ys,gy,cy,by rw [hwj],rfl,⟨by have:=HJ.out;omega,rfl,?_⟩,HRq,HBq⟩
        show _=upd (updN cs xs j) j _
        unfold upd
        rw [← HPj.out.2.2,← HYS.out,← HYL.out,HXM.out,if_neg (by have:=HGT.out;omega)]
     ·have hge:decide ((j:Int)≥(ds.length:Int))=true:=decide_eq_true (by omega)
      have hge2:(ds.length≤j)=True:=eq_true (by omega)
      have hys:ds++[1]=grow1 ds j:=by unfold grow1;rw [if_neg hjd]
      have HJY:=am (show j < (grow1 ds j).length by rw [← hys,List.length_append,List.length_singleton];have:=HDS.out.2.2;omega)
      have HYS0:=am hys
      clear hjd hys
      go_wp2_with (first|(at_builtin;refine Kd.R_append (Kd.int .i64) (w0:=w) w.heap.size rfl (.tmp _) (.tmp _) 383 3 (.int .i64 0) 8 rfl Tryz.underlying383 info3 rfl (by decide) (by omega) (.slice (some ⟨gd,0,none⟩) ds.length cd) ds 1 [.int .i64 1] (fun _=>True) (fun _=>False) rfl rfl rfl (fun _ hk=>hk.elim) (fun _ _=>trivial) HRd.out HBd.out (below_size HBd.out) (by have:=HDS.out.1.1;omega) ?_;intro v1 wn ho1 hb1 hg1 hat1;obtain ⟨gy,cy,hv1,_,hgy⟩:=R_some' ho1 (by simp);rw [hv1] at ho1;have HGY:=am hgy;have HRn:=am ho1;have HBq:=am hb1;rw [hv1];clear ho1 hb1 hg1 hat1 hgy hv1;have HRq:=HRn;obtain ⟨ys,hys⟩:∃ ys,ds++[1]=ys:=⟨_,rfl⟩;rw [hys] at HRq;rw [hys];have HYS:=am (show ys=grow1 ds j from hys.symm.trans HYS0.out);have r0:=R_num HRq.out j (by rw [HYS.out];exact HJY.out);obtain ⟨r1,r2⟩:=r0;have hpy:=eq_true (show j < ys.length by rw [HYS.out];exact HJY.out);have HYL:=am (show ys[j]'(by rw [HYS.out];exact HJY.out)=ys.getD j 0 by rw [List.getD_eq_getElem?_getD,List.getElem?_eq_getElem (by rw [HYS.out];exact HJY.out)];rfl);obtain ⟨y,hy⟩:∃ y,ys[j]'(by rw [HYS.out];exact HJY.out)=y:=⟨_,rfl⟩;rw [hy] at r1 HYL;clear hys HRn hy)|fail)
      ·rename_i hgt
       have HGT:=am hgt
       have HPUT:=am (Kd.R_putg HRq.out (j:Int) (m:Int)).1
       have HBP:=am (HBq.out.setCell (p:=⟨gy,j,none⟩) HGY.out (.int .i64 (m:Int)))
       clear hgt
       go_roundg (xs.length - (j+1))
       case measure=>have:=HPj.out;have:=HJ.out;omega
       case rel=>
        refine ⟨j+1,ys.set j (m:Int),gy,cy,by rw [hwj],by rw [List.length_set],⟨by have:=HJ.out;omega,rfl,?_⟩,⟨by have:=HPUT.out;rw [List.length_set];exact this⟩,HBP⟩
        show _=upd (updN cs xs j) j _
        unfold upd
        rw [← HPj.out.2.2,← HYS.out,← HYL.out,HXM.out,if_pos (by have:=HGT.out;omega)]
      ·rename_i hgt
       have HGT:=am hgt
       clear hgt
       go_roundg (xs.length - (j+1))
       case measure=>have:=HPj.out;have:=HJ.out;omega
       case rel=>
        refine ⟨j+1,ys,gy,cy,by rw [hwj],rfl,⟨by have:=HJ.out;omega,rfl,?_⟩,HRq,HBq⟩
        show _=upd (updN cs xs j) j _
        unfold upd
        rw [← HPj.out.2.2,← HYS.out,← HYL.out,HXM.out,if_neg (by have:=HGT.out;omega)]
    ·have hppj:=eq_false hj
     have hltj:decide ((j:Int) < (xs.length:Int))=false:=decide_eq_false (by omega)
     have HJ:=am hj
     clear hj
     go_wp2
     go_roundg (n - (i+1))
     case measure=>have:=HP.out;have:=HI.out;omega
     case rel=>
      refine ⟨i+1,ds,gd,cd,by rw [hwi],rfl,⟨by have:=HI.out;omega,rfl,?_⟩,HRd,HBd⟩
      have ej:j=xs.length:=by have:=HPj.out;have:=HJ.out;omega
      show _=updN (updRows _ i) (List.getD _ i []) (List.getD _ i []).length
      rw [HXS.out,← HP.out.2.2,← ej]
      exact HPj.out.2.2
  ·have hpp:=eq_false hi
   have hlt:decide ((i:Int) < (n:Int))=false:=decide_eq_false (by omega)
   have HI:=am hi
   clear hi
   go_wp2
   go_ret
   have ei:i=(xss.map (·.1)).length:=by rw [List.length_map,HG.out.len];have:=HP.out;have:=HI.out;omega
   have h:=HRc.out
   have e:cs=maxCounts (xss.map (·.1)):=by rw [HP.out.2.2,ei];rfl
   rw [e] at h ⊢
   exact ⟨⟨gc,cc,rfl,h⟩,HBc.out⟩
def cellC:Kd (List Int) where
 sz:=1
 E:=5::[]
 K:=fun w x cs=>bytesK.K w x cs
 M:=fun w base ok x cs=>(x=[]∧∃ A c,cs=[.slice A 0 c])∨bytesK.M w base ok x cs
 K_len:=fun h=>bytesK.K_len h
 K_one:=fun h=>bytesK.K_one h
 K_below:=fun hb h=>bytesK.K_below hb h
 K_of_M:=by
  rintro w base ok x cs (⟨rfl,A,c,rfl⟩|h)
  ·exact ⟨A,c,rfl,Nat.zero_le _,rfl,by decide,fun h=>absurd h (by decide)⟩
  ·exact bytesK.K_of_M h
 M_mono:=by
  rintro w base ok ok' x cs hok (h|h)
  ·exact .inl h
  ·exact .inr (bytesK.M_mono hok h)
 M_bound:=by
  rintro w base ok x cs (h|h)
  ·exact .inl h
  ·exact .inr (bytesK.M_bound h)
 M_move:=by
  rintro w w1 base ok x cs hm (h|h)
  ·exact .inl h
  ·exact .inr (bytesK.M_move hm h)
 M_lower:=by
  rintro w base base' ok x cs hb (h|h)
  ·exact .inl h
  ·exact .inr (bytesK.M_lower hb h)
abbrev rowC (f:Nat→Nat):Kd TRow:=Kd.tag f (Kd.slice 62 cellC)
structure GridC (f:Nat→Nat) (w:World) (N g n:Nat) (xss:List TRow):Prop where
 len:xss.length=n
 at_:∃ cur,w.heap[g]?=some (.cells cur 354 (0,0))∧n≤cur.size∧∀ (j:Nat) (hj:j < xss.length),∃ r,cur[j]?=some r∧(rowC f).M w N (fun k=>k≠g) xss[j] [r]
variable {f f':Nat→Nat} {w w1:World} {N g n:Nat} {xss:List TRow}
theorem Grid.toC (h:Grid f w N g n xss):GridC f w N g n xss:=by
 obtain ⟨cur,h1,h2,h3⟩:=h.at_
 refine ⟨h.len,cur,h1,h2,fun j hj=>?_⟩
 obtain ⟨r,h4,v,h5,h6⟩:=h3 j hj
 exact ⟨r,h4,v,h5,Kd.R_imp (d:=bytesK) (d':=cellC) rfl (fun _ _ _ _ _ h=>Or.inr h) h6⟩
theorem GridC.cell (h:GridC f w N g n xss) (j:Nat) (hj:j < xss.length):∃ v,w.cell? ⟨g,j,none⟩=some v∧w.frozen? ⟨g,j,none⟩=false∧Kd.R cellC 62 w N (fun k=>k≠g∧f k=xss[j].2) v xss[j].1:=by
 obtain ⟨cur,h1,h2,h3⟩:=h.at_
 obtain ⟨r,h4,v,h5,h6⟩:=h3 j hj
 injection h5 with h5
 subst h5
 exact ⟨r,by simp [World.cell?,h1,h4],by simp [World.frozen?,h1],h6⟩
theorem GridC.keep (h:GridC f w N g n xss) (hb:Below w.heap.size w w1):GridC f w1 N g n xss:=by
 obtain ⟨cur,h1,h2,h3⟩:=h.at_
 refine ⟨h.len,cur,by rw [hb.block g (heap_lt h1)];exact h1,h2,fun j hj=>?_⟩
 obtain ⟨r,h4,h5⟩:=h3 j hj
 exact ⟨r,h4,Kd.M_below h5 hb⟩
theorem GridC.retag (h:GridC f w N g n xss) (t:Nat):GridC (fun k=>if k < w.heap.size then f k else t) w N g n xss:=by
 obtain ⟨cur,h1,h2,h3⟩:=h.at_
 refine ⟨h.len,cur,h1,h2,fun j hj=>?_⟩
 obtain ⟨r,h4,h5⟩:=h3 j hj
 refine ⟨r,h4,?_⟩
 have h6:=(Kd.slice 62 cellC).M_bound h5
 exact (Kd.slice 62 cellC).M_mono (fun k hk=>⟨hk.1.1,by show (if k < w.heap.size then f k else t)=_;rw [if_pos hk.2.2.1];exact hk.1.2⟩) h6
theorem GridC.put (h:GridC f w N g n xss) (i:Nat) (hi:i < xss.length) {v v1:Value} {row:List (List Int)} (hv:w.cell? ⟨g,i,none⟩=some v) (hR:Kd.R cellC 62 w1 N (fun k=>k≠g∧f k=xss[i].2) v1 row) (hgr:w.grownBy w1 v.ownBlock) (hd:∀ (j:Nat) (hj:j < xss.length),j≠i→xss[j].2≠xss[i].2):GridC f (w1.setCell ⟨g,i,none⟩ v1) N g n (xss.set i (row,xss[i].2)):=by
 obtain ⟨v',k1,k2,k3⟩:=h.cell i hi
 have e:v'=v:=by rw [k1] at hv;exact Option.some.inj hv
 subst e
 obtain ⟨cur,h1,h2,h3⟩:=h.at_
 have hne:some g≠v'.ownBlock:=fun e=>(k3.1 g e.symm).1 rfl
 have h1':w1.heap[g]?=some (.cells cur 354 (0,0)):=by rw [hgr.block g (heap_lt h1) hne];exact h1
 refine ⟨by rw [List.length_set];exact h.len,cur.setIfInBounds i v1,?_,by simpa using h2,fun j hj=>?_⟩
 ·rw [setCell_eq_setRow w1 g i _ _ _ _ h1']
  exact setRow_heap w1 g cur _ _ (0,0) h1'
 ·rw [List.length_set] at hj
  rw [Array.getElem?_setIfInBounds]
  by_cases e:i=j
  ·subst e
   have hlt:i < cur.size:=by rw [h.len] at hj;omega
   rw [if_pos rfl,if_pos hlt]
   refine ⟨v1,rfl,?_⟩
   rw [List.getElem_set_self]
   exact Kd.M_far (d:=Kd.slice 62 cellC) (p:=⟨g,i,none⟩) ⟨v1,rfl,hR⟩ (fun k hk=>hk.1) v1
  ·rw [if_neg e]
   obtain ⟨r,h4,h5⟩:=h3 j hj
   refine ⟨r,h4,?_⟩
   rw [List.getElem_set_ne e]
   have h6:(Kd.slice 62 cellC).M w1 N (fun k=>k≠g∧f k=xss[j].2) xss[j].1 [r]:=Kd.M_grown h5 hgr (fun k hk e'=>by
    have:=(k3.1 k e'.symm).2
    exact hd j hj (fun e2=>e e2.symm) (by rw [← hk.2,this]))
   exact Kd.M_far (d:=Kd.slice 62 cellC) (p:=⟨g,i,none⟩) h6 (fun k hk=>hk.1) v1
def fillRow (m:Nat) (r:List (List Int)):List (List Int):=r++List.replicate (m - r.length) []
def fillRows (m:Nat) (xss:List TRow) (i:Nat):List TRow:=(xss.take i).map (fun p=>(fillRow m p.1,p.2))++xss.drop i
def Keeps (w w':World):Prop:=∀ (k:Nat) (cs:Array Value) (T:TypeId),w.heap[k]?=some (.cells cs T (0,0))→T≠354→T≠62→w'.heap[k]?=w.heap[k]?
theorem Keeps.refl (w:World):Keeps w w:=fun _ _ _ _ _ _=>rfl
theorem Keeps.step {w wr W w1:World} {g i:Nat} {v u:Value} {xs:List (List Int)} {N:Nat} {ok:Nat→Prop} (h:Keeps w wr) (hb:Below wr.heap.size wr W) (hv:Kd.R cellC 62 W N ok v xs) (hg:W.grownBy w1 v.ownBlock) (hG:∃ cur,w1.heap[g]?=some (.cells cur 354 (0,0))):Keeps w (w1.setCell ⟨g,i,none⟩ u):=by
 intro k cs T hk h1 h2
 have e1:=h k cs T hk h1 h2
 rw [hk] at e1
 have hlt:=heap_lt e1
 have e2:W.heap[k]?=some (.cells cs T (0,0)):=by rw [hb.block k hlt];exact e1
 have hne:some k≠v.ownBlock:=fun e=>by
  obtain ⟨inner,ho⟩:=Kd.R_own hv
  obtain ⟨c2,hc2⟩:=own_typed ho k e.symm
  rw [e2] at hc2
  injection hc2 with hc2
  injection hc2 with _ hc2 _
  exact h2 hc2
 have e3:w1.heap[k]?=some (.cells cs T (0,0)):=by rw [hg.block k (heap_lt e2) hne];exact e2
 obtain ⟨cur,hcur⟩:=hG
 have hkg:k≠g:=fun e=>by
  rw [e,hcur] at e3
  injection e3 with e3
  injection e3 with _ e3 _
  exact h1 e3.symm
 rw [Below.heap_setCell _ _ _ _ hkg,e3,hk]
theorem fillRows_len (m:Nat) (xss:List TRow) (i:Nat):(fillRows m xss i).length=xss.length:=by
 unfold fillRows
 rw [List.length_append,List.length_map,List.length_take,List.length_drop]
 omega
theorem fillRows_tag (m:Nat) (xss:List TRow) (i:Nat):(fillRows m xss i).map (·.2)=xss.map (·.2):=by
 unfold fillRows
 rw [List.map_append,List.map_map]
 have h:(xss.take i).map ((fun p:TRow=>p.2)∘fun p:TRow=>(fillRow m p.1,p.2))=(xss.take i).map (·.2):=rfl
 rw [h,← List.map_append,List.take_append_drop]
theorem fillRows_at (m:Nat) (xss:List TRow) (i:Nat) (h:i < xss.length):(fillRows m xss i)[i]?=some xss[i]:=by
 unfold fillRows
 rw [List.getElem?_append_right (by rw [List.length_map,List.length_take];omega),List.length_map,List.length_take,List.getElem?_drop]
 rw [show i+(i - min i xss.length)=i by omega,List.getElem?_eq_getElem h]
theorem fillRows_next (m:Nat) (xss:List TRow) (i:Nat) (h:i < xss.length):(fillRows m xss i).set i (fillRow m xss[i].1,xss[i].2)=fillRows m xss (i+1):=by
 unfold fillRows
 have hl:((xss.take i).map fun p:TRow=>(fillRow m p.1,p.2)).length=i:=by rw [List.length_map,List.length_take];omega
 rw [List.set_append_right _ _ (by rw [hl];exact Nat.le_refl _),hl,Nat.sub_self,List.drop_eq_getElem_cons h,List.set_cons_zero,List.take_succ_eq_append_getElem h,List.map_append,List.append_assoc]
 rfl
theorem set_tag (l:List TRow) (i:Nat) (r:List (List Int)) (h:i < l.length):(l.set i (r,l[i].2)).map (·.2)=l.map (·.2):=by
 rw [List.map_set]
 have:l[i].2=(l.map (·.2))[i]'(by rw [List.length_map];exact h):=by rw [List.getElem_map]
 show (l.map (·.2)).set i l[i].2=_
 rw [this,List.set_getElem_self]
theorem tag_ne {l:List TRow} (h:(l.map (·.2)).Nodup) (i j:Nat) (hi:i < l.length) (hj:j < l.length) (hne:j≠i):l[j].2≠l[i].2:=by
 intro e
 refine hne ((List.getElem?_inj (l:=l.map (·.2)) (by rw [List.length_map];exact hj) h).1 ?_)
 rw [List.getElem?_map,List.getElem?_map,List.getElem?_eq_getElem hi,List.getElem?_eq_getElem hj,Option.map_some,Option.map_some,e]
theorem froz_of {w w1:World} {g i:Nat} (h:w1.heap[g]?=w.heap[g]?) (hz:w.frozen? ⟨g,i,none⟩=false):w1.frozen? ⟨g,i,none⟩=false:=by
 simpa [World.frozen?,h] using hz
theorem fillUp_calls {f:Nat→Nat} (w:World) (N g n c m:Nat) (xss:List TRow) (hn:n≤1000) (hm:m≤1000) (hr:∀ row∈xss,row.1.length≤m) (hd:(xss.map (·.2)).Nodup) (hN:N≤w.heap.size) (hNg:N≤g) (hG:GridC f w N g n xss):
  Calls Tryz.prog 408 #[.slice (some ⟨g,0,none⟩) n c,.int .i64 (m:Int)] w fun e w'=>e=.returned (.slice (some ⟨g,0,none⟩) n c)∧(∃ f',GridC f' w' N g n (fillRows m xss n))∧Below N w w'∧Keeps w w':=by
 have HG:=am hG
 have HR:=am hr
 have HN:=am hn
 have HM:=am hm
 have HD:=am hd
 have HNN:=am hN
 have HNG:=am hNg
 have HLX:=am hG.len
 have hgo:g < w.heap.size:=by obtain ⟨cur,h1,_⟩:=hG.at_;exact heap_lt h1
 have HGO:=am hgo
 clear hG hr hd hm hN hNg hgo
 go_enter Tryz.func408,Tryz.ntmps408
 go_wp2
 go_loopg [10] n (fun gf v10 wx=>∃ (i:Nat) (f:Nat→Nat),v10=.int .i64 (i:Int)∧Aside0 (i≤n∧n - i=gf)∧Aside0 (GridC f wx N g n (fillRows m xss i))∧Aside0 (Below N w wx)∧Aside0 (Keeps w wx))
 case atStart=>exact ⟨0,f,rfl,⟨by omega,by omega⟩,HG,⟨Below.refl _ _⟩,⟨Keeps.refl _⟩⟩
 case round=>
  obtain ⟨i,f,rfl,HP,HGr,HB,HKP⟩:=hrel
  by_cases hi:i < n
  ·have hpp:=eq_true hi
   have hlt:decide ((i:Int) < (n:Int))=true:=decide_eq_true (by omega)
   have hix:i < xss.length:=by rw [HLX.out];exact hi
   have hwi:wrap64 ((i:Int)+1)=((i+1:Nat):Int):=by have:=HN.out;unfold wrap64;omega
   have hfl:i < (fillRows m xss i).length:=by rw [fillRows_len];exact hix
   obtain ⟨v,k1,k2,k3⟩:=HGr.out.cell i hfl
   have hat:(fillRows m xss i)[i]=xss[i]:=by
    have:=fillRows_at m xss i hix
    rw [List.getElem?_eq_getElem hfl] at this
    exact Option.some.inj this
   rw [hat] at k3
   have HI:=am hi
   have HRL:=am (HR.out _ (List.getElem_mem hix))
   have HNX:=am (fillRows_next m xss i hix)
   obtain ⟨A0,c0,hv⟩:=Kd.R_slice k3
   subst hv
   have hw2:wrap64 ((m:Int) - (xss[i].1.length:Int))=((m - xss[i].1.length:Nat):Int):=by have:=HRL.out;have:=HM.out;unfold wrap64;omega
   obtain ⟨ys,hys⟩:∃ ys,fillRows m xss i=ys:=⟨_,rfl⟩
   have HTG:Aside0 ((ys.map (·.2)).Nodup):=⟨by rw [← hys,fillRows_tag];exact HD.out⟩
   have hyl:i < ys.length:=by rw [← hys];exact hfl
   have hyi:ys[i]=xss[i]:=by rw [← hat];congr 1;exact hys.symm
   have HYS:=am hys
   rw [hys] at HGr HNX
   obtain ⟨row,hrow⟩:∃ row,xss[i]=row:=⟨_,rfl⟩
   rw [hrow] at k1 k3 hw2 HRL HNX hyi
   have HYL:=am hyl
   have HYI2:Aside0 (∀ h:i < ys.length,(ys[i]'h).2=row.2):=⟨fun _=>by rw [hyi]⟩
   have hst:ys.set i (row.1++List.replicate 0 [],row.2)=ys:=by
    rw [List.replicate_zero,List.append_nil,← hyi]
    exact List.set_getElem_self hyl
   have HST:=am hst
   clear hi k2 k3 hat hyi
   clear hyl hfl hix hys hrow hst
   have mlt:m - row.1.length≤1000:=by have:=HM.out;omega
   obtain ⟨q,hq⟩:∃ q,m - row.1.length=q:=⟨_,rfl⟩
   rw [hq] at hw2 mlt
   have HQ:=am hq
   have HQL:=am mlt
   have HW2:=am hw2
   clear hq mlt hw2
   go_wp2
   go_loopg [20] q (fun gf v20 wx=>∃ (k:Nat) (f:Nat→Nat),v20=.int .i64 (k:Int)∧Aside0 (k≤q∧q - k=gf)∧Aside0 (GridC f wx N g n (ys.set i (row.1++List.replicate k [],row.2)))∧Aside0 (Below N w wx)∧Aside0 (Keeps w wx))
   case atStart=>exact ⟨0,f,rfl,⟨by omega,by omega⟩,⟨by rw [HST.out];exact HGr.out⟩,HB,HKP⟩
   case round=>
    obtain ⟨k,f,rfl,HPk,HGk,HBk,HKk⟩:=hrel
    by_cases hk:k < q
    ·have hppk:=eq_true hk
     have hltk:decide ((k:Int) < wrap64 ((m:Int) - (row.1.length:Int)))=true:=by rw [HW2.out];exact decide_eq_true (by omega)
     have hltk2:((k:Int) < wrap64 ((m:Int) - (row.1.length:Int)))=True:=by rw [HW2.out];exact eq_true (by omega)
     have hwk:wrap64 ((k:Int)+1)=((k+1:Nat):Int):=by have:=HQL.out;unfold wrap64;omega
     have hws:w.heap.size≤wr.heap.size:=HBk.out.size
     have hxl0:(row.1++List.replicate k ([]:List Int)).length=row.1.length+k:=by rw [List.length_append,List.length_replicate]
     obtain ⟨xs,hxs⟩:∃ xs,row.1++List.replicate k []=xs:=⟨_,rfl⟩
     rw [hxs] at HGk hxl0
     have hdt:∀ zs,ys.set i (xs,row.2)=zs→i < zs.length∧∀ (hi:i < zs.length),zs[i]=(xs,row.2)∧∀ (j:Nat) (hj:j < zs.length),j≠i→zs[j].2≠zs[i].2:=by
      rintro zs rfl
      have hl:i < (ys.set i (xs,row.2)).length:=by rw [List.length_set];exact HYL.out
      refine ⟨hl,fun hi=>⟨by rw [List.getElem_set_self],fun j hj hne=>tag_ne ?_ i j hi hj hne⟩⟩
      have:=set_tag ys i xs HYL.out
      rw [HYI2.out HYL.out] at this
      rw [this]
      exact HTG.out
     have HZS2:=am (show ∀ r,(ys.set i (xs,row.2)).set i (r,row.2)=ys.set i (r,row.2) from fun r=>List.set_set ..)
     obtain ⟨zs,hzs⟩:∃ zs,ys.set i (xs,row.2)=zs:=⟨_,rfl⟩
     rw [hzs] at HGk HZS2
     obtain ⟨hzl,hd2⟩:=hdt zs hzs
     obtain ⟨hzi,hd3⟩:=hd2 hzl
     have HDT:=am hd3
     have HZL:=am hzl
     have HZI:=am hzi
     have hg1:=HGk.out.retag row.2
     obtain ⟨v,k1,k2,k3⟩:=hg1.cell i hzl
     rw [hzi] at k3
     obtain ⟨A1,c1,hv⟩:=Kd.R_slice k3
     subst hv
     have hbe:=emptyW_below wr
     have HGE:=am (hg1.keep hbe)
     have HRE:=am (Kd.R_below k3 hbe)
     have HBE:=am (HBk.out.trans (hbe.mono (Nat.le_trans HNN.out (show w.heap.size≤wr.heap.size from hws))))
     have hcv:=conv_empty wr
     have HWS:=am hws
     have HKK:=am hk
     have HES:=am hbe.size
     have HFR:=am (show ∀ p,(emptyW wr).heap.size≤p→p≠g∧(if p < wr.heap.size then f p else row.2)=row.2 from fun p hp=>⟨by have:=HGO.out;have:=HES.out;omega,by rw [if_neg (by have:=HES.out;omega)]⟩)
     have HXL:=am (show (xs.length+1) * 24≤140737488355328 by rw [hxl0];have:=HRL.out;have:=HM.out;have:=HQL.out;omega)
     have HXS:=am hxs
     clear hk k3 hg1 hbe hxs hws hxl0 hdt hd2 hd3 hzi hzs
     have k1e:(emptyW wr).cell? ⟨g,i,none⟩=some (.slice A1 xs.length c1):=by
      rw [World.cell?_of_block ((emptyW_below wr).block g (by have:=HGO.out;have:=HWS.out;omega))]
      exact k1
     go_wp2_with (first|(at_builtin;refine Kd.R_append cellC (w0:=w) N rfl (.tmp _) (.tmp _) 354 62 (.slice none 0 0) 24 rfl Tryz.underlying354 info62 rfl (by decide) (by omega) (.slice A1 xs.length c1) xs [] [.slice (some ⟨wr.heap.size,0,none⟩) 0 0] (fun p=>p≠g∧(if p < wr.heap.size then f p else row.2)=row.2) (fun _=>False) rfl rfl (.inl ⟨rfl,_,_,rfl⟩) (fun _ hk=>hk.elim) HFR.out HRE.out HBE.out (Nat.le_trans HNN.out (Nat.le_trans HWS.out HES.out)) HXL.out ?_;intro v1 w1 ho1 hb1 hg1 hat1;obtain ⟨A2,c2,hv1⟩:=Kd.R_slice ho1;rw [List.length_append,List.length_singleton] at hv1;subst hv1;have HR1:=am ho1;have HB1:=am hb1;have HG1:=am hg1;have hgw:w1.heap[g]?=(emptyW wr).heap[g]?:=hg1.block g (by have:=HGO.out;have:=HWS.out;have:=HES.out;omega) (fun e=>((HRE.out).1 g e.symm).1 rfl);have c2':w1.cell? ⟨g,i,none⟩=some (.slice A1 xs.length c1):=by { rw [World.cell?_of_block hgw];exact k1e };have HGT:=am (show ∃ cur,w1.heap[g]?=some (.cells cur 354 (0,0)) by { obtain ⟨cur,h1,_⟩:=HGE.out.at_;exact ⟨cur,hgw.trans h1⟩ });have z2:w1.frozen? ⟨g,i,none⟩=false:=froz_of hgw (froz_of ((emptyW_below wr).block g (by have:=HGO.out;have:=HWS.out;omega)) k2);clear ho1 hb1 hg1 hat1 hgw)|fail)
     go_roundg (q - (k+1))
     case measure=>have:=HPk.out;have:=HKK.out;omega
     case rel=>
      have hput:=GridC.put HGE.out i HZL.out k1e (v1:=.slice A2 (xs.length+1) c2) (row:=xs++[[]]) (by rw [HZI.out];exact HR1.out) HG1.out (fun j hj hne=>HDT.out j hj hne)
      rw [HZI.out,HZS2.out] at hput
      have hfin:=hput
      rw [show xs++[[]]=row.1++List.replicate (k+1) [] by rw [List.replicate_succ',← List.append_assoc,HXS.out]] at hfin
      exact ⟨k+1,_,rfl,⟨by have:=HKK.out;omega,rfl⟩,⟨hfin⟩,⟨HB1.out.setCell (p:=⟨g,i,none⟩) HNG.out _⟩,⟨HKk.out.step (emptyW_below wr) HRE.out HG1.out HGT.out⟩⟩
    ·have hppk:=eq_false hk
     have hltk:decide ((k:Int) < wrap64 ((m:Int) - (row.1.length:Int)))=false:=by rw [HW2.out];exact decide_eq_false (by omega)
     have hltk2:((k:Int) < wrap64 ((m:Int) - (row.1.length:Int)))=False:=by rw [HW2.out];exact eq_false (by omega)
     have HK:=am hk
     clear hk
     go_wp2
     go_roundg (n - (i+1))
     case measure=>have:=HP.out;have:=HI.out;omega
     case rel=>
      refine ⟨i+1,f,by rw [hwi],⟨by have:=HI.out;omega,rfl⟩,⟨?_⟩,HBk,HKk⟩
      have ek:k=q:=by have:=HPk.out;have:=HK.out;omega
      have h:=HGk.out
      rw [ek,← HQ.out] at h
      rw [← HNX.out]
      exact h
  ·have hpp:=eq_false hi
   have hlt:decide ((i:Int) < (n:Int))=false:=decide_eq_false (by omega)
   have HI:=am hi
   clear hi
   go_wp2
   go_ret
   have ei:i=n:=by have:=HP.out;have:=HI.out;omega
   have h:=HGr.out
   rw [ei] at h
   exact ⟨rfl,⟨f,h⟩,HB.out,HKP.out⟩
end Go.Proofs.YtbheflncgmhadaaGreat.Hand
