/- The law returns true. Conditions: those in each statement. -/
import Derived.Test.YtbheflncgmhadaaGreatXy
import Derived.Test.YtbheflncgmhadaaGreatXx
import Derived.Deep.DeepCutAuto
import Derived.Deep.RegionLaw
set_option linter.unusedVariables false
set_option linter.unusedSimpArgs false
set_option maxHeartbeats 40000000
set_option maxRecDepth 100000
namespace Go.Proofs.YtbheflncgmhadaaGreat.Hand
open Go.RowKit Go.Proofs.YtbheflncgmhadaaGreatW.PrintWords Go.Proofs.YtbheflncgmhadaaGreatW.PrintLast Go.Proofs.YtbheflncgmhadaaGreatW.PrintMore
open Go.Proofs.YtbheflncgmhadaaGreat.PzzFits10
theorem group_K {F:World} {A:Option Addr} {c n:Nat} {nm:ByteArray} {rows:List (List CA)} (hn:rows.length=n) (hc:n≤c) (h:kd3.C F A n (rows.map rowP)):kd4.K F (groupP (nm,rows)) (pnHead (groupP (nm,rows)) (.slice A n c)):=by
 have hl:(groupP (nm,rows)).kids.length=n:=by rw [← hn];exact List.length_map ..
 have h1:=pnKK (d:=kd3) (w:=F) (x:=groupP (nm,rows)) (A:=A) (c:=c) (by rw [hl];exact hc) (by rw [hl];exact h)
 rwa [hl] at h1
def PartsK (F:World) (A1 A2 A3:Option Addr) (c1 kk:Nat) (rows:List (List CA)):Prop:=
 kd4.K F (groupP (nThead,rows.take 1)) (pnHead (groupP (nThead,rows.take 1)) (.slice A1 1 c1)) ∧
 kd4.K F (groupP (nTbody,(rows.take kk).drop 1)) (pnHead (groupP (nTbody,(rows.take kk).drop 1)) (.slice A2 (kk - 1) (c1 - 1))) ∧
 kd4.K F (groupP (nTfoot,rows.drop kk)) (pnHead (groupP (nTfoot,rows.drop kk)) (.slice A3 (rows.length - kk) (c1 - kk)))
theorem add_five:(fun x:Addr=>x.add (1 * 5))=fun x=>⟨x.block,x.off+5,none⟩:=by
 funext x
 unfold Addr.add
 rw [if_neg (by decide)]
theorem parts_K {w3 F:World} {A1:Option Addr} {c1 kk n:Nat} {rows:List (List CA)} (hn:rows.length=n) (h:kd3.C w3 A1 n (rows.map rowP)) (hc:n≤c1) (h1:1≤kk) (h2:kk≤n) (hb:Below w3.heap.size w3 F):PartsK F A1 (if c1=1 then A1 else A1.map fun x=>⟨x.block,x.off+5,none⟩) (if c1=kk then A1 else A1.map fun x=>x.add (kk * 5)) c1 kk rows:=by
 subst hn
 have hC:=Kd.C_below h hb
 have hl:(rows.map rowP).length=rows.length:=List.length_map ..
 rw [← hl] at hC
 refine ⟨group_K (by rw [List.length_take];omega) (by omega) ?_,group_K (by rw [List.length_drop,List.length_take];omega) (by omega) ?_,group_K (List.length_drop ..) (by omega) ?_⟩
 ·have h3:=Kd.C_take hC (m:=1) (by omega)
  rw [← List.map_take,List.length_map,List.length_take,Nat.min_eq_left (by omega)] at h3
  exact h3
 ·have h3:=Kd.C_mid (c:=c1) hC (lo:=1) (hi:=kk) h1 (by omega) (by omega)
  rw [← List.map_take,← List.map_drop,List.length_map,List.length_drop,List.length_take,Nat.min_eq_left h2] at h3
  have e:kd3.sz=5:=rfl
  rw [e,add_five] at h3
  exact h3
 ·have h3:=Kd.C_drop (c:=c1) hC (m:=kk) (by omega) (by omega)
  rw [← List.map_drop,List.length_map,List.length_drop] at h3
  exact h3
theorem get_last {u:World} {o:Obj} {q:Nat} (h:q=u.heap.size):(u.alloc o).heap[q]?=some o:=by rw [h];exact alloc_new _ _
theorem below_more {W U:World} {o:Obj} (h:Below W.heap.size W U):Below W.heap.size W (U.alloc o):=h.alloc h.size o
theorem meet_of {W w3 U:World} {A1 A2 A3:Option Addr} {c1 kk n q0 kb b3:Nat} {rows:List (List CA)} (hP:∀ F,Below w3.heap.size w3 F→PartsK F A1 A2 A3 c1 kk rows) (hn:rows.length=n) (hB:Below W.heap.size W w3)
  (h1:U.heap[q0]?=some (.cells #[.int .i64 3,.string ⟨#[]⟩,.string ⟨#[]⟩,.slice none 0 0,.slice (some ⟨kb,0,none⟩) 1 1] 33 (0,0)))
  (h2:U.heap[kb]?=some (.cells #[.int .i64 0,.string nTable,.string ⟨#[]⟩,.slice none 0 0,.slice (some ⟨b3,0,none⟩) 3 3] 33 (0,0)))
  (h3:U.heap[b3]?=some (.cells #[.int .i64 0,.string nThead,.string ⟨#[]⟩,.slice none 0 0,.slice A1 1 c1,.int .i64 0,.string nTbody,.string ⟨#[]⟩,.slice none 0 0,.slice A2 (kk - 1) (c1 - 1),.int .i64 0,.string nTfoot,.string ⟨#[]⟩,.slice none 0 0,.slice A3 (n - kk) (c1 - kk)] 33 (0,0)))
  (h4:Below w3.heap.size w3 U):
  ∃ q kb:Nat,Value.pointer (some ⟨q0,0,none⟩)=.pointer (some ⟨q,0,none⟩)∧Aside0 (U.drew.heap[q]?=some (.cells #[.int .i64 3,.string ⟨#[]⟩,.string ⟨#[]⟩,.slice none 0 0,.slice (some ⟨kb,0,none⟩) 1 1] 33 (0,0)))∧Aside0 (DocK U.drew (threeG rows kk) kb)∧Aside0 (Below W.heap.size W U.drew):=by
 subst hn
 obtain ⟨k1,k2,k3⟩:=hP U.drew (below_drew h4)
 refine ⟨q0,kb,rfl,⟨h1⟩,⟨?_⟩,⟨below_drew (hB.trans (h4.mono hB.size))⟩⟩
 have hg:kd4.C U.drew (some ⟨b3,0,none⟩) 3 ((threeG rows kk).map groupP):=C_three (q:=b3) (fr:=(0,0)) (by exact h3) k1 k2 k3
 exact doc_K (gs:=threeG rows kk) (A:=some ⟨b3,0,none⟩) (c:=3) (fr:=(0,0)) (Nat.le_refl _) hg h2
theorem gs_one {l:List (List S27)} {r:List S27} {y:S27} (hn:NeatS l) (hne:l.length≠0) (hf:∀ r∈l,∀ x∈r,FitS x) (hl:l[0]?=some r) (hr:r[0]?=some y) (hy:y.f1=true):GsOk (oneG (cas l)):=by
 refine ⟨?_,oneG_nm _,by simp [oneG],by rw [oneG_flat];exact hn.neat hne hf⟩
 cases l with
 |nil=>cases hl
 |cons a l'=>
  cases hl
  cases r with
  |nil=>cases hr
  |cons b r'=>
   cases hr
   exact oneG_head (x0:=ca y) (r0:=car r') (rest:=cas l') rfl hy
theorem gs_three {l:List (List S27)} {r:List S27} {k:Nat} (hn:NeatS l) (hne:l.length≠0) (hf:∀ r∈l,∀ x∈r,FitS x) (hl:l[0]?=some r) (hk:1≤k):GsOk (threeG (cas l) k):=by
 refine ⟨?_,threeG_nm _ _,by simp [threeG],by rw [threeG_flat _ _ hk];exact hn.neat hne hf⟩
 cases l with
 |nil=>cases hl
 |cons a l'=>exact threeG_head (r0:=car a) (rest:=cas l') rfl
theorem tabled_rows {p:Int} {k m pr sk ps al bl:Bool} {tab:Nat→Int} (hpi:PadIs (padOut p) al bl) {rows:List (List CA)} {txt:ByteArray} (ht:(⟨(postT tab (tableOut (poOf p k m pr sk ps) al bl tab rows)).toArray⟩:ByteArray)=txt) (w:World) (gs:List (ByteArray×List (List CA))) (kb:Nat) (hK:DocK w gs kb) (hG:GsOk gs) (hf:gs.flatMap (·.2)=rows) (hs:∀ c:Nat,c < 128→w.cell? ⟨0,c,none⟩=some (.int .u8 (tab c))):
  Calls Tryz.prog 9 #[docV kb,optsV p k m pr sk ps] w fun e w'=>e=.returned (.tuple #[.string txt,.bool true])∧Below w.heap.size w w':=by
 subst hf
 subst ht
 exact tabled_calls hK hG hs hpi
theorem keep_opts {w w':World} {po:Nat} {b0 b1 b2 b3 b4 b5:Value} (hb:Below w.heap.size w w') (h:w.cell? ⟨po,0,none⟩=some b0∧w.cell? ⟨po,1,none⟩=some b1∧w.cell? ⟨po,2,none⟩=some b2∧w.cell? ⟨po,3,none⟩=some b3∧w.cell? ⟨po,4,none⟩=some b4∧w.cell? ⟨po,5,none⟩=some b5):
  w'.cell? ⟨po,0,none⟩=some b0∧w'.cell? ⟨po,1,none⟩=some b1∧w'.cell? ⟨po,2,none⟩=some b2∧w'.cell? ⟨po,3,none⟩=some b3∧w'.cell? ⟨po,4,none⟩=some b4∧w'.cell? ⟨po,5,none⟩=some b5:=by
 obtain ⟨h5,h6,h7,h8,h9,h10⟩:=h
 exact ⟨cell_keep hb h5,cell_keep hb h6,cell_keep hb h7,cell_keep hb h8,cell_keep hb h9,cell_keep hb h10⟩
end Go.Proofs.YtbheflncgmhadaaGreat.Hand
namespace Go.Proofs.YtbheflncgmhadaaGreat.Hand
open Go.RowKit Go.Proofs.YtbheflncgmhadaaGreatW.PrintWords Go.Proofs.YtbheflncgmhadaaGreatW.PrintLast Go.Proofs.YtbheflncgmhadaaGreatW.PrintMore
open Go.Proofs.YtbheflncgmhadaaGreat.PzzFits10
attribute [local go_sem] run_store_func'
def NeatEnd (l:List (List S27)) (e:Ending):Prop:=∃ b,e=.returned (.bool b)∧(b=true→l.length≠0∧NeatS l)
theorem neat_any (w:World) (A:Option Addr) (c:Nat) (l:List (List S27)) (hr:Kd.C (Kd.slice 27 k27) w A l.length l) (hc:l.length≤c) (hf:∀ r∈l,∀ x∈r,FitS x):
  Calls Tryz.prog 5 #[.slice A l.length c] w fun e w'=>NeatEnd l e∧Below w.heap.size w w':=by
 by_cases h0:l.length=0
 ·have e0:(l.length=0)=True:=eq_true h0
  have e0b:((l.length:Int)==0)=true:=by simp [h0]
  clear h0 hr hf
  go_enter Tryz.func5,Tryz.ntmps5
  go_wp2
  go_ret
  exact ⟨⟨false,rfl,fun h=>by cases h⟩,Below.refl _ _⟩
 ·by_cases h12:12 < l.length
  ·have e0:(l.length=0)=False:=eq_false h0
   have e0b:((l.length:Int)==0)=false:=beq_eq_false_iff_ne.2 (by omega)
   have e12:decide ((12:Int) < (l.length:Int))=true:=decide_eq_true (by omega)
   have e12n:(12 < l.length)=True:=eq_true h12
   clear h0 h12 hr hf
   go_enter Tryz.func5,Tryz.ntmps5
   go_wp2
   go_ret
   exact ⟨⟨false,rfl,fun h=>by cases h⟩,Below.refl _ _⟩
  ·refine (neat_calls w A c l hr hc hf h0 h12).mono ?_
   rintro e w' ⟨⟨b,rfl,h⟩,hb⟩
   exact ⟨⟨b,rfl,fun hb=>⟨h0,⟨by omega,fun r hr=>⟨(h hb r hr).1,(h hb r hr).2.1⟩,fun r hr=>(h hb r hr).2.2⟩⟩⟩,hb⟩
theorem tag_exact (w:World) (nm:ByteArray) (A:Option Addr) (l c:Nat):
  Calls Tryz.prog 8 #[.string nm,.slice A l c] w fun e w'=>e=.returned (.agg #[.int .i64 0,.string nm,.string ⟨#[]⟩,.slice none 0 0,.slice A l c])∧w'=w.alloc (.cells #[.int .i64 0,.string nm,.string ⟨#[]⟩,.slice none 0 0,.slice A l c] 33):=by
 go_enter Tryz.func8,Tryz.ntmps8
 go_wp2
 exact bodyPost_ret (results_single rfl (.cell w.heap.size _ _ (0,0) _ rfl (alloc_new _ _) Tryz.underlying33 rfl sizeNode .nil)) rfl ⟨rfl,rfl⟩
theorem doc_exact (w:World) (A:Option Addr) (l c:Nat):
  Calls Tryz.prog 7 #[.slice A l c] w fun e w'=>e=.returned (.agg #[.int .i64 3,.string ⟨#[]⟩,.string ⟨#[]⟩,.slice none 0 0,.slice A l c])∧w'=w.alloc (.cells #[.int .i64 3,.string ⟨#[]⟩,.string ⟨#[]⟩,.slice none 0 0,.slice A l c] 33):=by
 go_enter Tryz.func7,Tryz.ntmps7
 go_wp2
 exact bodyPost_ret (results_single rfl (.cell w.heap.size _ _ (0,0) _ rfl (alloc_new _ _) Tryz.underlying33 rfl sizeNode .nil)) rfl ⟨rfl,rfl⟩
theorem law_calls (w:World) (A:Option Addr) (c:Nat) (l:List (List S27)) (hr:Kd.C (Kd.slice 27 k27) w A l.length l) (hc:l.length≤c) (feet:Int) (p:Int) (k m pr sk ps:Bool) (tab:Nat→Int) (hs:∀ c:Nat,c < 128→w.cell? ⟨0,c,none⟩=some (.int .u8 (tab c))):
  Calls Tryz.prog 3 #[.slice A l.length c,.int .i64 feet,optsV p k m pr sk ps] w fun e w'=>e=.returned (.bool true)∧Below w.heap.size w w':=by
 obtain ⟨W,hW⟩:∃ W,w.alloc (.cells #[.int .i64 p,.bool k,.bool m,.bool pr,.bool sk,.bool ps] 24)=W:=⟨_,rfl⟩
 have hbW:Below w.heap.size w W:=by rw [← hW];exact (Below.refl _ _).alloc (Nat.le_refl _) _
 have HR:=am (Kd.C_below hr hbW)
 have HS:=am (show ∀ c:Nat,c < 128→W.cell? ⟨0,c,none⟩=some (.int .u8 (tab c)) from fun c hc=>cell_keep hbW (hs c hc))
 have HOX:=am (show W.heap[w.heap.size]?=some (.cells #[.int .i64 p,.bool k,.bool m,.bool pr,.bool sk,.bool ps] 24 (0,0)) by rw [← hW];exact alloc_new _ _)
 have CF:=am (fits_calls W A c l HR.out hc)
 have CN:=am (fun (w':World) (hb:Below W.heap.size W w') hf=>neat_any w' A c l (Kd.C_below HR.out hb) hc hf)
 have mixed:Tryz.prog.follows .mixedOrders=true:=by kernel_rfl
 have HBW:=am hbW
 unfold optsV
 clear hr hs hbW
 go_enter Tryz.func3,Tryz.ntmps3
 go_wp2_with (go_at_call 4;fail)
 clear hW
 refine CF.out.mono ?_
 rintro e w1 ⟨⟨b,rfl,hb⟩,hb1⟩
 have HB1:=am hb1
 clear hb1 CF
 cases b with
 |false=>
  clear hb
  go_wp2
  go_ret
  exact ⟨rfl,HBW.out.trans (HB1.out.mono HBW.out.size)⟩
 |true=>
  have HF:=am (hb rfl)
  clear hb
  go_wp2_with (go_at_call 5;fail)
  refine (CN.out _ HB1.out HF.out.2).mono ?_
  rintro e w2 ⟨⟨b,rfl,hn⟩,hb2⟩
  have HB2:=am (HB1.out.trans (hb2.mono HB1.out.size))
  clear hb2 CN
  cases b with
  |false=>
   clear hn
   go_wp2
   go_ret
   exact ⟨rfl,HBW.out.trans (HB2.out.mono HBW.out.size)⟩
  |true=>
   obtain ⟨hne,hnt⟩:=hn rfl
   have HNT:=am hnt
   obtain ⟨ad,A0,c0,rfl,k1,k2,k3⟩:=at_L4 (Kd.C_below HR.out HB2.out) (0:Int) (by omega) (by omega)
   obtain ⟨r,hrr⟩:∃ r,rd_L4 l (0:Int)=r:=⟨_,rfl⟩
   rw [hrr] at k1 k2 k3
   have hlr:l[0]?=some r:=by
    rw [← hrr]
    unfold rd_L4
    rw [Int.toNat_zero,List.getD_eq_getElem?_getD,List.getElem?_eq_getElem (by omega)];rfl
   have hrn:=(hnt.row r (List.mem_of_getElem? hlr)).1
   obtain ⟨ad2,rfl,f0,f1,f2,f3,f4⟩:=at_T27 k3 (0:Int) (by omega) (by omega)
   obtain ⟨y,hy⟩:∃ y,rd_T27 r (0:Int)=y:=⟨_,rfl⟩
   rw [hy] at f1
   have hyr:r[0]?=some y:=by
    rw [← hy]
    unfold rd_T27
    rw [Int.toNat_zero,List.getD_eq_getElem?_getD,List.getElem?_eq_getElem (by omega)];rfl
   have k1:w2.cell? ad=some (.slice (some ad2) r.length c0):=k1
   have f1:w2.cell? ⟨ad2.block,ad2.off+1,none⟩=some (.bool y.f1):=f1
   have hl0:(0:Int) < (l.length:Int):=by omega
   have hr0:(0:Int) < (r.length:Int):=by omega
   have HLR:=am hlr
   have HYR:=am hyr
   obtain ⟨y0,y1,y2,y3,y4⟩:=y
   obtain ⟨al,bl,hpi⟩:=padIs p
   obtain ⟨txt,htx⟩:∃ txt:ByteArray,(⟨(postT tab (tableOut (poOf p k m pr sk ps) al bl tab (cas l))).toArray⟩:ByteArray)=txt:=⟨_,rfl⟩
   have CTB:=am (tabled_rows (k:=k) (m:=m) (pr:=pr) (sk:=sk) (ps:=ps) hpi htx)
   have HNE:=am hne
   clear f0 f2 f3 f4 k3 hrr hy hlr hyr hrn hn hnt hpi htx
   cases y1 with
   |false=>
    go_wp2
    go_ret
    exact ⟨rfl,HBW.out.trans (HB2.out.mono HBW.out.size)⟩
   |true=>
    have HG1:=am (gs_one HNT.out HNE.out HF.out.2 HLR.out HYR.out rfl)
    have HG3:=am (fun k hk=>gs_three (k:=k) HNT.out HNE.out HF.out.2 HLR.out hk)
    by_cases hf1:feet < 0
    ·have d1:decide (feet < 0)=true:=decide_eq_true hf1
     have p1:=eq_true hf1
     clear hf1
     go_wp2
     go_ret
     exact ⟨rfl,HBW.out.trans (HB2.out.mono HBW.out.size)⟩
    ·have d1:decide (feet < 0)=false:=decide_eq_false hf1
     have p1:=eq_false hf1
     by_cases hf2:(l.length:Int)≤feet
     ·have d2:decide ((l.length:Int)≤feet)=true:=decide_eq_true hf2
      have p2:=eq_true hf2
      clear hf1 hf2
      go_wp2
      go_ret
      exact ⟨rfl,HBW.out.trans (HB2.out.mono HBW.out.size)⟩
     ·have d2:decide ((l.length:Int)≤feet)=false:=decide_eq_false hf2
      have p2:=eq_false hf2
      have CR:=am (rows_calls w2 (some ad) c l (Kd.C_below HR.out HB2.out) hc HNT.out)
      obtain ⟨kk,hkk⟩:∃ kk:Nat,(kk:Int)=(l.length:Int) - feet:=⟨((l.length:Int) - feet).toNat,by omega⟩
      have HKK:=am (show 1≤kk∧kk≤l.length by omega)
      have hwk:wrap64 ((l.length:Int) - feet)=(kk:Int):=by have:=HNT.out.few;rw [← hkk];unfold wrap64;omega
      clear hf1 hf2 hkk
      go_wp2_with (go_at_call 6;fail)
      refine CR.out.mono ?_
      rintro e w3 ⟨⟨v,rfl,hR⟩,hb3⟩
      have HB3:=am (HB2.out.trans (hb3.mono HB2.out.size))
      obtain ⟨A1,c1,hv⟩:=Kd.R_slice hR
      rw [show ((cas l).map rowP).length=l.length by simp [cas]] at hv
      subst hv
      obtain ⟨hn3,hc3,hC3⟩:=Kd.R_reads' hR
      rw [show ((cas l).map rowP).length=l.length by simp [cas]] at hC3
      have HC3:=am hC3
      have HCC:=am hc3
      have HLN:=am (show (cas l).length=l.length by simp [cas])
      have hpk:=fun F hb=>parts_K (F:=F) (kk:=kk) HLN.out hC3 hc3 HKK.out.1 HKK.out.2 hb
      obtain ⟨A2,hA2⟩:∃ A2,(if c1=1 then A1 else A1.map fun x=>(⟨x.block,x.off+5,none⟩:Addr))=A2:=⟨_,rfl⟩
      obtain ⟨A3,hA3⟩:∃ A3,(if c1=kk then A1 else A1.map fun x=>x.add (kk * 5))=A3:=⟨_,rfl⟩
      rw [hA2,hA3] at hpk
      have HPK:=am hpk
      clear hpk
      have hs1:(1:Int)≤(c1:Int):=by have:=HKK.out;omega
      have hk1:(1:Int)≤(kk:Int):=by have:=HKK.out;omega
      have hk2:(kk:Int)≤(c1:Int):=by have:=HKK.out;omega
      have hk3:(kk:Int)≤(l.length:Int):=by have:=HKK.out;omega
      clear hR hb3 CR hn3 hc3 hC3
      go_upto_region 7 with fail
      rw [hwk]
      go_cut [9] (fun s9 wx=>∃ (q kb:Nat),s9=.pointer (some ⟨q,0,none⟩)∧Aside0 (wx.heap[q]?=some (.cells #[.int .i64 3,.string ⟨#[]⟩,.string ⟨#[]⟩,.slice none 0 0,.slice (some ⟨kb,0,none⟩) 1 1] 33 (0,0)))∧Aside0 (DocK wx (threeG (cas l) kk) kb)∧Aside0 (Below W.heap.size W wx))
      case first=>
       go_region_law (first|(refine goes_ Tryz.func8 (by kernel_rfl) rfl _ (by rfl) rfl rfl (by simp [Act.eval,Act.put];rfl) ?_;refine (tag_exact _ _ _ _ _).mono ?_;rintro e wT ⟨rfl,rfl⟩;refine ⟨_,rfl,?_⟩)|(refine goes_ Tryz.func7 (by kernel_rfl) rfl _ (by rfl) rfl rfl (by simp [Act.eval,Act.put];rfl) ?_;refine (doc_exact _ _ _ _).mono ?_;rintro e wT ⟨rfl,rfl⟩;refine ⟨_,rfl,?_⟩))
       all_goals
        go_wp2_with fail
        go_meet
        apply meet_of HPK.out HLN.out HB3.out
        ·repeat (first|(refine get_last ?_;simp only [alloc_size];done)|refine heap_past _ ?_)
        ·repeat (first|(refine get_last ?_;simp only [alloc_size];done)|refine heap_past _ ?_)
        ·repeat (first|(refine get_last ?_;simp only [alloc_size];done)|refine heap_past _ ?_)
        ·repeat (first|exact Below.refl _ _|refine below_more ?_)
      case rest=>
       obtain ⟨q,kb,rfl,HQ,HDK,HBc⟩:=hcut
       have hO:=below_get HBc.out HOX.out
       obtain ⟨o0,o1,o2,o3,o4,o5⟩:=opts_cells hO
       have hS0:=And.intro o0 (And.intro o1 (And.intro o2 (And.intro o3 (And.intro o4 o5))))
       have CTT:=am (table_calls wc.drew (some ad) c l (Kd.C_below HR.out (below_drew HBc.out)) hc HNT.out)
       clear hO
       go_wp2
       go_region_held3 (fun w'=>w'.cell? ⟨w.heap.size,0,none⟩=some (.int .i64 p)∧w'.cell? ⟨w.heap.size,1,none⟩=some (.bool k)∧w'.cell? ⟨w.heap.size,2,none⟩=some (.bool m)∧w'.cell? ⟨w.heap.size,3,none⟩=some (.bool pr)∧w'.cell? ⟨w.heap.size,4,none⟩=some (.bool sk)∧w'.cell? ⟨w.heap.size,5,none⟩=some (.bool ps)) (first|go_keep|exact keep_opts (by assumption) (by assumption)) (first|(go_at_call 10;refine CTT.out.mono ?_;rintro e wT ⟨⟨kt,rfl,hKT⟩,hT⟩;have HBT:=am ((below_drew HBc.out).trans (hT.mono HBc.out.size)))|(go_at_call 9;refine (CTB.out _ _ _ hKT HG1.out (oneG_flat _) (fun c hc=>cell_keep HBT.out (HS.out c hc))).mono ?_;rintro e wU ⟨rfl,hU⟩;have HBU:=am (HBT.out.trans (hU.mono HBT.out.size));have HUU:=am hU))
       have hO:=below_get HBU.out HOX.out
       obtain ⟨o0,o1,o2,o3,o4,o5⟩:=opts_cells hO
       have hcU:=am ((below_drew (Below.refl wc.heap.size wc)).trans (hT.trans (hU.mono hT.size)))
       have hQ:=below_get hcU.out HQ.out
       obtain ⟨n0,n1,n2,n3,n4⟩:=five_cells hQ
       have HKU:=am (show DocK wU (threeG (cas l) kk) kb from kd6.K_below hcU.out HDK.out)
       clear hO hQ hT hU hS0 hKT
       go_wp2_with (go_at_call 9;fail)
       refine (CTB.out _ _ _ HKU.out (HG3.out kk HKK.out.1) (threeG_flat _ _ HKK.out.1) (fun c hc=>cell_keep HBU.out (HS.out c hc))).mono ?_
       rintro e wV ⟨rfl,hV⟩
       have HBV:=am (HBU.out.trans (hV.mono HBU.out.size))
       clear hV n0 n1 n2 n3 n4 o0 o1 o2 o3 o4 o5
       go_wp2
       go_ret
       exact ⟨rfl,HBW.out.trans (HBV.out.mono HBW.out.size)⟩
end Go.Proofs.YtbheflncgmhadaaGreat.Hand
