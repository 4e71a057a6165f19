/- The answer of ConvertNode on a document of a table. Conditions: those in each statement. -/
import Derived.Test.YtbheflncgmhadaaGreatXq
import Derived.Test.YtbheflncgmhadaaGreatXr
import Derived.Test.YtbheflncgmhadaaGreatXl
import Derived.Test.YtbheflncgmhadaaGreatXs
import Derived.Test.YtbheflncgmhadaaGreatXm
set_option linter.unusedVariables false
set_option linter.unusedSimpArgs false
set_option maxHeartbeats 40000000
set_option maxRecDepth 100000
namespace Go.Proofs.YtbheflncgmhadaaGreat.Hand
open Go.RowKit Go.Proofs.YtbheflncgmhadaaGreatW.PrintWords Go.Proofs.YtbheflncgmhadaaGreatW.PrintLast Go.Proofs.YtbheflncgmhadaaGreatW.PrintMore
attribute [local go_sem] run_store_func'
theorem tpTable_calls {w:World} (q:Nat) (i:NI) (kids:List DT) (hnm:i.nm=nTable) (hp:i.Plain) {par prev next:Option Nat} (hT:DT.At w par prev next (.node q i kids)) (v0 v1 v2:Value) (r:Int) (R:Ending→World→Prop)
  (h:Calls Tryz.prog 404 #[v0,v1,v2,.pointer (some ⟨q,0,none⟩)] w fun e w'=>e=.returned (.int .i64 r)∧R e w'):
  Calls Tryz.prog 403 #[v0,v1,v2,.pointer (some ⟨q,0,none⟩)] w fun e w'=>e=.returned (.int .i64 r)∧R e w':=by
 have CN:=am (name_calls w q i kids par prev next hT hp)
 have HF:=am h
 clear hT hp h
 rw [hnm] at CN
 have hnm':nTable=⟨#[116,97,98,108,101]⟩:=rfl
 rw [hnm'] at CN
 clear hnm hnm'
 go_enter Tryz.func403,Tryz.ntmps403
 go_wp2_with (go_at_call 72;fail)
 refine CN.out.mono ?_
 rintro e w1 ⟨rfl,hw⟩
 rw [hw]
 clear hw CN
 go_wp2_with (go_at_call 404;fail)
 refine HF.out.mono ?_
 rintro e w1 ⟨rfl,hr⟩
 have HRR:=am hr
 clear hr
 go_wp2
 go_ret
 exact ⟨rfl,HRR.out⟩
def rows29 (tab:Nat→Int) (rows:List (List CA)):List TRow:=(rows.map (rowOut tab)).zipIdx
def tableOut (po:PO) (al bl:Bool) (tab:Nat→Int) (rows:List (List CA)):List UInt8:=if rowsOut po (rows29 tab rows)=[] then wrapT nTable (rowsText rows) else tableText al bl (rowsOut po (rows29 tab rows))
theorem rend_table {N X C cm tp bs:Nat} {tab:Nat→Int} {po:PO} {al bl:Bool} (hpi:PadIs po.pad al bl) {gs:List (ByteArray×List (List CA))} (hh:HeadOk gs) (hg:∀ g∈gs,GroupNm g.1) (hgl:gs.length≤3) (hn:Neat (gs.flatMap (·.2))) {D S:Nat} {kids:List DT} (h:OfAll IsGroup gs kids) (hal:∀ w,po.also w→DT.At w none none none (.node D docNI [.node S (elemNI nTable) kids])) (hnd:(DT.node D docNI [.node S (elemNI nTable) kids]).all.Nodup) (hlt:(DT.node D docNI [.node S (elemNI nTable) kids]).Lt N):
  Rend N X C cm tp bs tab po (.node S (elemNI nTable) kids) (tableOut po al bl tab (gs.flatMap (·.2))):=by
 obtain ⟨hd,rows,e1,e2,hta⟩:=tabAt_of (N:=N) (X:=X) (C:=C) (cm:=cm) (tp:=tp) (bs:=bs) (tab:=tab) (po:=po) hh hg hgl hn h hnd hlt
 have hL:rowsOut po (rowsIn tab (hd::rows))=rowsOut po (rows29 tab (gs.flatMap (·.2))):=by
  unfold rowsIn rows29
  rw [e1]
 have hhd:hd.2.length≤1000:=by
  rw [e2]
  cases hr:gs.flatMap (·.2) with
  |nil=>exact Nat.zero_le _
  |cons r0 rest=>
   have:=(hn.row r0 (by rw [hr];exact List.mem_cons_self ..)).2
   show r0.length≤1000
   omega
 have hltS:(DT.node S (elemNI nTable) kids).Lt N:=hlt.2.1
 have hplain:(elemNI nTable).Plain:=.table rfl rfl
 unfold tableOut
 by_cases hz:rowsOut po (rows29 tab (gs.flatMap (·.2)))=[]
 ·rw [if_pos hz]
  refine rend_elem S (elemNI nTable) kids hplain (by decide) hltS _ false ?_ (fun _=>fall_table h hg hltS hgl hn)
  intro w b l par prev next hx hs hT hlim
  exact tpTable_calls S _ kids rfl hplain hT _ _ _ 0 (fun _ w'=>Pours w w' b l (l++[])) (renderTable_calls hpi hx hs (hta w (hal w hx.now.also)) hL hhd [] (by rw [if_pos hz]) 0 (by rw [if_pos hz]) hlim)
 ·rw [if_neg hz]
  refine rend_elem S (elemNI nTable) kids hplain (by decide) hltS _ true ?_ (fun h=>by cases h)
  intro w b l par prev next hx hs hT hlim
  exact tpTable_calls S _ kids rfl hplain hT _ _ _ 1 (fun _ w'=>Pours w w' b l (l++_)) (renderTable_calls hpi hx hs (hta w (hal w hx.now.also)) hL hhd _ (by rw [if_neg hz];rfl) 1 (by rw [if_neg hz]) hlim)
theorem rend_doc {N X C cm tp bs:Nat} {tab:Nat→Int} {po:PO} {al bl:Bool} (hpi:PadIs po.pad al bl) {gs:List (ByteArray×List (List CA))} (hh:HeadOk gs) (hg:∀ g∈gs,GroupNm g.1) (hgl:gs.length≤3) (hn:Neat (gs.flatMap (·.2))) {t:DT} (hd:IsDoc gs t) (hal:∀ w,po.also w→DT.At w none none none t) (hnd:t.all.Nodup) (hlt:t.Lt N):
  Rend N X C cm tp bs tab po t (tableOut po al bl tab (gs.flatMap (·.2))):=by
 obtain ⟨D,T,rfl,S,kids,rfl,h⟩:=hd
 have h1:=rend_table (N:=N) (X:=X) (C:=C) (cm:=cm) (tp:=tp) (bs:=bs) (tab:=tab) hpi hh hg hgl hn h hal hnd hlt
 have h2:=rend_plain D docNI [.node S (elemNI nTable) kids] (.doc rfl) (by decide) (by decide) (by decide) hlt [_] (.cons h1 .nil) (by simp)
 simpa using h2
end Go.Proofs.YtbheflncgmhadaaGreat.Hand
namespace Go.Proofs.YtbheflncgmhadaaGreat.Hand
open Go.RowKit Go.Proofs.YtbheflncgmhadaaGreatW.PrintWords Go.Proofs.YtbheflncgmhadaaGreatW.PrintLast Go.Proofs.YtbheflncgmhadaaGreatW.PrintMore
theorem upd_short {cs:List Int} {j M:Nat} {n:Int} (h:cs.length≤M) (hj:j < M):(upd cs j n).length≤M:=by
 rw [upd_len]
 unfold grow1
 split
 ·exact h
 ·rw [List.length_append,List.length_singleton];omega
theorem updN_short {cs:List Int} {row:List (List Int)} {M:Nat} (h:cs.length≤M):∀ j,j≤M→(updN cs row j).length≤M
 |0,_=>h
 |j+1,hj=>upd_short (updN_short h j (by omega)) (by omega)
theorem updRows_short {xss:List (List (List Int))} {M:Nat} (hr:∀ row∈xss,row.length≤M):∀ i,(updRows xss i).length≤M
 |0=>Nat.zero_le _
 |i+1=>by
  refine updN_short (updRows_short hr i) _ ?_
  rw [List.getD_eq_getElem?_getD]
  cases h:xss[i]? with
  |none=>exact Nat.zero_le _
  |some r=>exact hr r (List.mem_of_getElem? h)
theorem flatten_le {α:Type} {B:Nat}:∀ {l:List (List α)},(∀ x∈l,x.length≤B)→l.flatten.length≤l.length * B
 |[],_=>Nat.zero_le _
 |x::l,h=>by
  have h1:=h x (List.mem_cons_self ..)
  have h2:=flatten_le (l:=l) fun y hy=>h y (List.mem_cons_of_mem _ hy)
  rw [List.flatten_cons,List.length_append,List.length_cons,Nat.add_mul]
  omega
theorem Tame.app {a b:List UInt8} (h:Tame a) (k:Tame b):Tame (a++b):=fun x hx=>(List.mem_append.1 hx).elim (h x) (k x)
theorem Tame.flat {l:List (List UInt8)} (h:∀ x∈l,Tame x):Tame l.flatten:=fun y hy=>by
 obtain ⟨x,hx,hyx⟩:=List.mem_flatten.1 hy
 exact h x hx y hyx
theorem Tame.rep (n:Nat) {b:UInt8} (h:b.toNat < 128∧b.toNat≠7):Tame (List.replicate n b):=fun x hx=>by rw [(List.mem_replicate.1 hx).2];exact h
theorem Tame.lit {l:List UInt8} (h:l.all (fun x=>decide (x.toNat < 128∧x.toNat≠7))=true):Tame l:=fun x hx=>of_decide_eq_true (List.all_eq_true.1 h x hx)
theorem Tame.ite {c:Prop} [Decidable c] {a b:List UInt8} (h:Tame a) (k:Tame b):Tame (if c then a else b):=by split <;> assumption
def CellOut (x:List Int):Prop:=x.length≤2147483647∧∀ y∈x,0≤y∧y < 128∧y≠7
theorem toB_tame {c:List Int} (h:CellOut c):Tame (toB c):=fun x hx=>by
 obtain ⟨y,hy,rfl⟩:=List.mem_map.1 hx
 obtain ⟨h1,h2,h3⟩:=h.2 y hy
 have e:(UInt8.ofNat y.toNat).toNat=y.toNat:=by
  have:y.toNat < 256:=by omega
  simp [UInt8.toNat_ofNat',Nat.mod_eq_of_lt this]
 rw [e]
 omega
theorem cellPc_ok (al bl:Bool) (i:Nat) (cnt:Int) (c:List Int) (h:CellOut c) (hc:cnt≤2147483647):Tame (cellPc al bl i cnt c)∧(cellPc al bl i cnt c).length≤4294967300:=by
 unfold cellPc
 constructor
 ·exact ((((Tame.ite (.lit rfl) (.lit rfl)).app (Tame.ite (.lit rfl) (.lit rfl))).app (toB_tame h)).app (Tame.ite (.rep _ (by decide)) (.lit rfl))).app (Tame.ite (.lit rfl) (.lit rfl)) |>.app (.lit rfl)
 ·have h1:=h.1
  have h2:(toB c).length=c.length:=by unfold toB;rw [List.length_map]
  have e1:(if i=0 then [124] else []:List UInt8).length≤1:=by split <;> decide
  have e2:(if bl then [32] else []:List UInt8).length≤1:=by split <;> decide
  have e3:(if al then List.replicate (cnt - c.length).toNat 32 else []:List UInt8).length≤2147483647:=by
   split
   ·rw [List.length_replicate];omega
   ·exact Nat.zero_le _
  simp only [List.length_append,h2]
  have e4:([124]:List UInt8).length=1:=rfl
  omega
theorem getD_le {l:List Int} {B:Int} (h:∀ y∈l,y≤B) (h0:0≤B) (i:Nat):l.getD i 0≤B:=by
 rw [List.getD_eq_getElem?_getD]
 cases hh:l[i]? with
 |none=>exact h0
 |some y=>exact h y (List.mem_of_getElem? hh)
theorem cell_getD {l:List (List Int)} (h:∀ x∈l,CellOut x) (i:Nat):CellOut (l.getD i []):=by
 rw [List.getD_eq_getElem?_getD]
 cases hh:l[i]? with
 |none=>exact ⟨Nat.zero_le _,fun y hy=>by cases hy⟩
 |some y=>exact h y (List.mem_of_getElem? hh)
theorem lineT_ok (al bl:Bool) (counts:List Int) (cells:List (List Int)) (hc:∀ y∈counts,y≤2147483647) (hx:∀ x∈cells,CellOut x) (hl:cells.length≤12):Tame (lineT al bl counts cells)∧(lineT al bl counts cells).length≤51539607600:=by
 have hp:∀ p∈linePcs al bl counts cells,Tame p∧p.length≤4294967300:=fun p hp=>by
  obtain ⟨i,_,rfl⟩:=List.mem_map.1 hp
  exact cellPc_ok al bl i _ _ (cell_getD hx i) (getD_le hc (by decide) i)
 have h1:=flatten_le (l:=linePcs al bl counts cells) (B:=4294967300) fun p hh=>(hp p hh).2
 rw [linePcs_len] at h1
 refine ⟨Tame.flat fun p hh=>(hp p hh).1,?_⟩
 unfold lineT
 omega
theorem ulPcs_ok (al:Bool) (counts:List Int) (hc:∀ y∈counts,y≤2147483647) (hl:counts.length≤12):Tame (ulPcs al counts).flatten∧(ulPcs al counts).flatten.length≤51539607600:=by
 have hp:∀ p∈ulPcs al counts,Tame p∧p.length≤4294967300:=fun p hp=>by
  obtain ⟨i,_,rfl⟩:=List.mem_map.1 hp
  have hg:=getD_le hc (by decide) i
  unfold ulPc
  refine ⟨((((Tame.ite (.lit rfl) (.lit rfl)).app (.lit rfl)).app (Tame.ite (.rep _ (by decide)) (.lit rfl))).app (.lit rfl)).app (.lit rfl),?_⟩
  have e1:(if i=0 then [124] else []:List UInt8).length≤1:=by split <;> decide
  have e3:(if al then List.replicate (counts.getD i 0).toNat 45 else [45]:List UInt8).length≤2147483647:=by
   split
   ·rw [List.length_replicate];omega
   ·decide
  simp only [List.length_append]
  have e4:([124]:List UInt8).length=1:=rfl
  have e5:([45]:List UInt8).length=1:=rfl
  omega
 have h1:=flatten_le (l:=ulPcs al counts) (B:=4294967300) fun p hh=>(hp p hh).2
 rw [ulPcs_len] at h1
 exact ⟨Tame.flat fun p hh=>(hp p hh).1,by omega⟩
def RowOutOk (r:List (List Int)):Prop:=r.length≤12∧∀ x∈r,CellOut x
theorem tableText_ok (al bl:Bool) (L:List TRow) (hn:L.length≤12) (hL:∀ p∈L,RowOutOk p.1):Tame (tableText al bl L)∧(tableText al bl L).length≤4000000000000:=by
 have hlen:(countsOf L).length≤12:=updRows_short (fun r hr=>by
  obtain ⟨p,hp,rfl⟩:=List.mem_map.1 hr
  exact (hL p hp).1) _
 have hcs:∀ y∈countsOf L,y≤2147483647:=fun y hy=>((updRows_counts (xss:=L.map (fun p:TRow=>p.1)) (fun r hr=>by
  obtain ⟨p,hp,rfl⟩:=List.mem_map.1 hr
  exact ⟨by have:=(hL p hp).1;omega,fun x hx=>((hL p hp).2 x hx).1⟩) _ (Nat.le_refl _)).1.2 y hy).2
 have hF:∀ p∈fullOf L,RowOutOk p.1:=fun p hp=>by
  unfold fullOf fillRows at hp
  rw [List.take_length,List.drop_length,List.append_nil] at hp
  obtain ⟨q,hq,rfl⟩:=List.mem_map.1 hp
  have h:=hL q hq
  unfold fillRow
  refine ⟨?_,fun x hx=>?_⟩
  ·show (q.1++_).length≤12
   rw [List.length_append,List.length_replicate]
   have:=h.1
   omega
  ·rcases List.mem_append.1 hx with hx|hx
   ·exact h.2 x hx
   ·rw [(List.mem_replicate.1 hx).2];exact ⟨Nat.zero_le _,fun y hy=>by cases hy⟩
 have hF0:RowOutOk ((fullOf L).getD 0 ([],0)).1:=by
  rw [List.getD_eq_getElem?_getD]
  cases hh:(fullOf L)[0]? with
  |none=>exact ⟨Nat.zero_le _,fun x hx=>by cases hx⟩
  |some y=>exact hF y (List.mem_of_getElem? hh)
 have hFn:(fullOf L).length=L.length:=fillRows_len _ _ _
 have h1:=lineT_ok al bl (countsOf L) _ hcs hF0.2 hF0.1
 have h2:=ulPcs_ok al (countsOf L) hcs hlen
 have hp:∀ p∈bodyT al bl (countsOf L) (((fullOf L).drop 1).map (·.1)),Tame p∧p.length≤51539607601:=fun p hp=>by
  obtain ⟨r,hr,rfl⟩:=List.mem_map.1 hp
  obtain ⟨q,hq,rfl⟩:=List.mem_map.1 hr
  have hq':=hF q (List.mem_of_mem_drop hq)
  have h3:=lineT_ok al bl (countsOf L) q.1 hcs hq'.2 hq'.1
  refine ⟨h3.1.app (.lit rfl),?_⟩
  rw [List.length_append]
  have e4:([10]:List UInt8).length=1:=rfl
  omega
 have h4:=flatten_le (l:=bodyT al bl (countsOf L) (((fullOf L).drop 1).map (·.1))) (B:=51539607601) fun p hh=>(hp p hh).2
 have h5:(bodyT al bl (countsOf L) (((fullOf L).drop 1).map (·.1))).length≤12:=by
  unfold bodyT
  rw [List.length_map,List.length_map,List.length_drop]
  omega
 unfold tableText
 refine ⟨((((((Tame.lit rfl).app h1.1).app (.lit rfl)).app h2.1).app (.lit rfl)).app (Tame.flat fun p hh=>(hp p hh).1)).app (.lit rfl),?_⟩
 simp only [List.length_append]
 have e4:([10]:List UInt8).length=1:=rfl
 have e5:([10,10]:List UInt8).length=2:=rfl
 omega
theorem Neat.bytes {rows:List (List CA)} (h:Neat rows) {r:List CA} (hr:r∈rows) {x:CA} (hx:x∈r):Tame x.text.data.toList∧x.text.data.toList.length≤2147483647:=by
 have hw:=h.wordy hr hx
 refine ⟨fun y hy=>?_,hw.2⟩
 have h1:=hw.1 y hy
 unfold Wordy Alnum at h1
 omega
theorem rowsText_ok {rows:List (List CA)} (h:Neat rows):Tame (wrapT nTable (rowsText rows))∧(wrapT nTable (rowsText rows)).length≤4000000000000:=by
 have hp:∀ p∈rows.map rowText,Tame p∧p.length≤25769803768:=fun p hp=>by
  obtain ⟨r,hr,rfl⟩:=List.mem_map.1 hp
  have hc:∀ q∈r.map (fun x:CA=>x.text.data.toList),Tame q∧q.length≤2147483647:=fun q hq=>by
   obtain ⟨x,hx,rfl⟩:=List.mem_map.1 hq
   exact h.bytes hr hx
  have h1:=flatten_le (l:=r.map (fun x:CA=>x.text.data.toList)) (B:=2147483647) fun q hq=>(hc q hq).2
  have h2:=(h.row r hr).2
  rw [List.length_map] at h1
  unfold rowText
  refine ⟨((Tame.lit rfl).app (Tame.flat fun q hq=>(hc q hq).1)).app (.lit rfl),?_⟩
  rw [List.length_append,List.length_append]
  have e5:([10,10]:List UInt8).length=2:=rfl
  omega
 have h1:=flatten_le (l:=rows.map rowText) (B:=25769803768) fun p hh=>(hp p hh).2
 have h2:=h.few
 rw [List.length_map] at h1
 unfold wrapT rowsText
 rw [if_pos rfl]
 refine ⟨((((Tame.lit rfl).app (.lit rfl)).app (Tame.flat fun q hq=>(hp q hq).1)).app (.lit rfl)).app (.lit rfl),?_⟩
 simp only [List.length_append]
 have e4:([10]:List UInt8).length=1:=rfl
 omega
theorem tableOut_ok (po:PO) (al bl:Bool) (tab:Nat→Int) {rows:List (List CA)} (h:Neat rows):Tame (tableOut po al bl tab rows)∧(tableOut po al bl tab rows).length≤4000000000000:=by
 unfold tableOut
 split
 ·exact rowsText_ok h
 ·have hok:=rowOut_ok (tab:=tab) h
  refine tableText_ok al bl _ ?_ fun p hp=>?_
  ·have h1:=rowsOut_len po (rows29 tab rows)
   have h2:=h.few
   have h3:(rows29 tab rows).length=rows.length:=by unfold rows29;rw [List.length_zipIdx,List.length_map]
   omega
  ·rcases rowsOut_sub po _ p hp with e|e
   ·rw [e];exact ⟨Nat.zero_le _,fun x hx=>by cases hx⟩
   ·have hm:p.1∈rows.map (rowOut tab):=List.fst_mem_of_mem_zipIdx e
    obtain ⟨r,hr,he⟩:=List.mem_map.1 hm
    refine ⟨by rw [← he];unfold rowOut;rw [List.length_map];exact (h.row r hr).2,fun x hx=>?_⟩
    obtain ⟨q1,q2⟩:=hok.2 _ hm x hx
    exact ⟨q1,fun y hy=>⟨(q2 y hy).1.1,(q2 y hy).1.2,(q2 y hy).2.2⟩⟩
def PO.with (po:PO) (also:World→Prop):PO:={ po with also:=also }
theorem PlugAt.with {w:World} {tp:Nat} {po:PO} (h:PlugAt w tp po) (also:World→Prop):PlugAt w tp (po.with also):=⟨h.span,h.lines,h.skip,h.promote,h.pres,h.pad⟩
theorem IsDoc.texts {gs:List (ByteArray×List (List CA))} {t:DT} (hd:IsDoc gs t) (hg:∀ g∈gs,GroupNm g.1) (hn:Neat (gs.flatMap (·.2))):DT.AllPL (fun i=>i.kind≠2∧i.TextOk) t.kds∧t.kds≠[]∧(gs.length≤3→t.all.length≤1000):=by
 obtain ⟨D,T,rfl,S,kids,rfl,h⟩:=hd
 have hel:∀ nm,(fun i:NI=>i.kind≠2∧i.TextOk) (elemNI nm):=fun nm=>⟨(by decide:(3:Nat)≠2),fun h=>absurd h (by decide:¬ (3:Nat)=1)⟩
 refine ⟨⟨⟨hel _,groups_allP h ⟨fun r hr x hx h0=>⟨(by decide:(1:Nat)≠2),fun _=>(hn.cell r hr x hx).2.2.2 h0⟩,fun _ _ _ _=>hel _,hel _⟩ fun _ _=>hel _⟩,trivial⟩,(fun h=>by cases h),fun hgl=>?_⟩
 have h1:=table_count h hgl hn
 rw [DT.all,List.length_cons,DT.allL_cons,DT.all,DT.allL,List.append_nil,List.length_cons]
 omega
theorem convDoc_calls {w:World} {C cm tp bs:Nat} {tab:Nat→Int} {po:PO} {al bl:Bool} (hq:ConvQ w.heap.size w C cm tp bs) (hp:PlugAt w tp po) (hpi:PadIs po.pad al bl) (hs:∀ c:Nat,c < 128→w.cell? ⟨0,c,none⟩=some (.int .u8 (tab c)))
  {gs:List (ByteArray×List (List CA))} {t:DT} (hh:HeadOk gs) (hg:∀ g∈gs,GroupNm g.1) (hgl:gs.length≤3) (hn:Neat (gs.flatMap (·.2))) (hd:IsDoc gs t) (hda:DocAt w t) (hnd:t.all.Nodup) (hlt:t.Lt w.heap.size):
  Calls Tryz.prog 27 #[.pointer (some ⟨C,0,none⟩),.pointer (some ⟨t.blk,0,none⟩),.slice none 0 0] w fun e w'=>(∃ A c,e=.returned (.tuple #[.slice A (postT tab (tableOut po al bl tab (gs.flatMap (·.2)))).length c,.nilIface])∧Kd.C (Kd.int .u8) w' A (bytesI (postT tab (tableOut po al bl tab (gs.flatMap (·.2))))).length (bytesI (postT tab (tableOut po al bl tab (gs.flatMap (·.2))))))∧Below w.heap.size w w':=by
 obtain ⟨h1,h2,h3⟩:=hd.texts hg hn
 have h4:=tableOut_ok po al bl tab hn
 refine convertNode_calls (po:=po.with fun w1=>DT.At w1 none none none t) hq (hp.with _) hs (fun w1 hb=>DT.At.keep hb hda.at_) hda hnd h1 h2 (h3 hgl) _ (fun N X hN=>?_) h4.1 h4.2
 exact rend_doc (po:=po.with fun w1=>DT.At w1 none none none t) hpi hh hg hgl hn hd (fun w h=>h) hnd (DT.Lt.more hN hlt)
end Go.Proofs.YtbheflncgmhadaaGreat.Hand
