/- The document of a table, as a tree. Conditions: those in each statement. -/
import Derived.Test.YtbheflncgmhadaaGreatXo
set_option linter.unusedVariables false
set_option linter.unusedSimpArgs false
set_option maxHeartbeats 40000000
set_option maxRecDepth 100000
namespace Go.Proofs.YtbheflncgmhadaaGreat.Hand
open Go.RowKit Go.Proofs.YtbheflncgmhadaaGreatW.PrintWords Go.Proofs.YtbheflncgmhadaaGreatW.PrintLast Go.Proofs.YtbheflncgmhadaaGreatW.PrintMore
structure CA where
 text:ByteArray
 head:Bool
 align:ByteArray
 cols:Int
 rows:Int
def elemNI (nm:ByteArray):NI:=⟨3,0,nm,.slice none 0 0⟩
def textNI (s:ByteArray):NI:=⟨1,0,s,.slice none 0 0⟩
def docNI:NI:=⟨2,0,⟨#[]⟩,.slice none 0 0⟩
def CA.nm (x:CA):ByteArray:=if x.head then nTh else nTd
def IsCell (x:CA) (t:DT):Prop:=∃ b kids,t=.node b (elemNI x.nm) kids∧((x.text.size=0∧kids=[])∨(x.text.size≠0∧∃ b',kids=[.node b' (textNI x.text) []]))
def IsRow (r:List CA) (t:DT):Prop:=∃ b kids,t=.node b (elemNI nTr) kids∧OfAll IsCell r kids
def GroupNm (nm:ByteArray):Prop:=nm=nThead∨nm=nTbody∨nm=nTfoot
def IsGroup (g:ByteArray×List (List CA)) (t:DT):Prop:=∃ b kids,t=.node b (elemNI g.1) kids∧OfAll IsRow g.2 kids
def IsTable (gs:List (ByteArray×List (List CA))) (t:DT):Prop:=∃ b kids,t=.node b (elemNI nTable) kids∧OfAll IsGroup gs kids
def IsDoc (gs:List (ByteArray×List (List CA))) (t:DT):Prop:=∃ b T,t=.node b docNI [T]∧IsTable gs T
theorem OfAll.mem {α:Type} {of:α→DT→Prop}:∀ {l:List α} {d:List DT},OfAll of l d→∀ t∈d,∃ x∈l,of x t
 |[],d,h,t,ht=>by have:d=[]:=h;subst this;cases ht
 |x::r,d,h,t,ht=>by
  obtain ⟨u,l',rfl,h1,h2⟩:=h
  rcases List.mem_cons.1 ht with rfl|ht
  ·exact ⟨x,List.mem_cons_self ..,h1⟩
  ·obtain ⟨y,hy,hh⟩:=OfAll.mem h2 t ht
   exact ⟨y,List.mem_cons_of_mem _ hy,hh⟩
theorem OfAll.len {α:Type} {of:α→DT→Prop}:∀ {l:List α} {d:List DT},OfAll of l d→d.length=l.length
 |[],d,h=>by have:d=[]:=h;subst this;rfl
 |x::r,d,h=>by obtain ⟨u,l',rfl,h1,h2⟩:=h;simp [OfAll.len h2]
theorem DT.AllPL_of {P:NI→Prop}:∀ {l:List DT},(∀ t∈l,t.AllP P)→DT.AllPL P l
 |[],_=>trivial
 |t::r,h=>⟨h t (List.mem_cons_self ..),DT.AllPL_of fun u hu=>h u (List.mem_cons_of_mem _ hu)⟩
theorem DT.ShapeL_of:∀ {l:List DT},(∀ t∈l,t.Shape)→DT.ShapeL l
 |[],_=>trivial
 |t::r,h=>⟨h t (List.mem_cons_self ..),DT.ShapeL_of fun u hu=>h u (List.mem_cons_of_mem _ hu)⟩
structure OnTable (P:NI→Prop) (rows:List (List CA)):Prop where
 text:∀ r∈rows,∀ x∈r,x.text.size≠0→P (textNI x.text)
 cell:∀ r∈rows,∀ x∈r,P (elemNI x.nm)
 row:P (elemNI nTr)
theorem OnTable.sub {P:NI→Prop} {rows rows':List (List CA)} (h:OnTable P rows) (hs:∀ r∈rows',r∈rows):OnTable P rows':=⟨fun r hr=>h.text r (hs r hr),fun r hr=>h.cell r (hs r hr),h.row⟩
theorem IsCell.allP {P:NI→Prop} {x:CA} {t:DT} (h:IsCell x t) (h1:x.text.size≠0→P (textNI x.text)) (h2:P (elemNI x.nm)):t.AllP P:=by
 obtain ⟨b,kids,rfl,h3⟩:=h
 refine ⟨h2,?_⟩
 rcases h3 with ⟨_,rfl⟩|⟨h4,b',rfl⟩
 ·trivial
 ·exact ⟨⟨h1 h4,trivial⟩,trivial⟩
theorem IsRow.allP {P:NI→Prop} {r:List CA} {t:DT} (h:IsRow r t) (hp:OnTable P [r]):t.AllP P:=by
 obtain ⟨b,kids,rfl,h3⟩:=h
 refine ⟨hp.row,DT.AllPL_of fun u hu=>?_⟩
 obtain ⟨x,hx,hc⟩:=h3.mem u hu
 exact hc.allP (hp.text r (List.mem_singleton.2 rfl) x hx) (hp.cell r (List.mem_singleton.2 rfl) x hx)
theorem IsGroup.allP {P:NI→Prop} {g:ByteArray×List (List CA)} {t:DT} (h:IsGroup g t) (hp:OnTable P g.2) (hg:P (elemNI g.1)):t.AllP P:=by
 obtain ⟨b,kids,rfl,h3⟩:=h
 refine ⟨hg,DT.AllPL_of fun u hu=>?_⟩
 obtain ⟨r,hr,hc⟩:=h3.mem u hu
 exact hc.allP (hp.sub fun r' hr'=>by rw [List.mem_singleton.1 hr'];exact hr)
theorem groups_allP {P:NI→Prop} {gs:List (ByteArray×List (List CA))} {kids:List DT} (h:OfAll IsGroup gs kids) (hp:OnTable P (gs.flatMap (·.2))) (hg:∀ g∈gs,P (elemNI g.1)):DT.AllPL P kids:=by
 refine DT.AllPL_of fun u hu=>?_
 obtain ⟨g,hgm,hc⟩:=h.mem u hu
 exact hc.allP (hp.sub fun r hr=>List.mem_flatMap.2 ⟨g,hgm,hr⟩) (hg g hgm)
theorem CA.plain (x:CA):(elemNI x.nm).Plain:=by
 unfold CA.nm
 cases x.head
 ·exact .td rfl rfl
 ·exact .th rfl rfl
theorem IsCell.kind {x:CA} {t:DT} (h:IsCell x t):∀ b i k,t=.node b i k→i.kind=3:=by
 obtain ⟨b,kids,rfl,_⟩:=h
 intro b' i' k' e
 cases e
 rfl
theorem IsRow.kind {r:List CA} {t:DT} (h:IsRow r t):∀ b i k,t=.node b i k→i.kind=3:=by
 obtain ⟨b,kids,rfl,_⟩:=h
 intro b' i' k' e
 cases e
 rfl
theorem IsGroup.kind {g:ByteArray×List (List CA)} {t:DT} (h:IsGroup g t):∀ b i k,t=.node b i k→i.kind=3:=by
 obtain ⟨b,kids,rfl,_⟩:=h
 intro b' i' k' e
 cases e
 rfl
theorem IsTable.kind {gs:List (ByteArray×List (List CA))} {t:DT} (h:IsTable gs t):∀ b i k,t=.node b i k→i.kind=3:=by
 obtain ⟨b,kids,rfl,_⟩:=h
 intro b' i' k' e
 cases e
 rfl
theorem kids_of {α:Type} {of:α→DT→Prop} (ho:∀ x t,of x t→∀ b i k,t=.node b i k→i.kind=3) {l:List α} {d:List DT} (h:OfAll of l d):Kids d:=
 .elems d fun b i k hm=>by
  obtain ⟨x,_,hx⟩:=h.mem _ hm
  exact ho x _ hx b i k rfl
theorem IsCell.shape {x:CA} {t:DT} (h:IsCell x t):t.Shape:=by
 obtain ⟨b,kids,rfl,h3⟩:=h
 rcases h3 with ⟨_,rfl⟩|⟨h4,b',rfl⟩
 ·exact ⟨x.plain,.elems _ (fun _ _ _ hm=>by cases hm),fun _=>rfl,trivial⟩
 ·exact ⟨x.plain,.text _ _ rfl,fun e=>absurd (show (3:Nat)=1 from e) (by decide),⟨.text rfl,.elems _ (fun _ _ _ hm=>by cases hm),fun _=>rfl,trivial⟩,trivial⟩
theorem IsRow.shape {r:List CA} {t:DT} (h:IsRow r t):t.Shape:=by
 obtain ⟨b,kids,rfl,h3⟩:=h
 refine ⟨.tr rfl rfl,kids_of (fun x t h=>h.kind) h3,fun e=>absurd (show (3:Nat)=1 from e) (by decide),DT.ShapeL_of fun u hu=>?_⟩
 obtain ⟨x,_,hc⟩:=h3.mem u hu
 exact hc.shape
theorem GroupNm.plain {nm:ByteArray} (h:GroupNm nm):(elemNI nm).Plain:=by
 rcases h with rfl|rfl|rfl
 ·exact .thead rfl rfl
 ·exact .tbody rfl rfl
 ·exact .tfoot rfl rfl
theorem IsGroup.shape {g:ByteArray×List (List CA)} {t:DT} (h:IsGroup g t) (hn:GroupNm g.1):t.Shape:=by
 obtain ⟨b,kids,rfl,h3⟩:=h
 refine ⟨hn.plain,kids_of (fun x t h=>h.kind) h3,fun e=>absurd (show (3:Nat)=1 from e) (by decide),DT.ShapeL_of fun u hu=>?_⟩
 obtain ⟨x,_,hc⟩:=h3.mem u hu
 exact hc.shape
theorem IsTable.shape {gs:List (ByteArray×List (List CA))} {t:DT} (h:IsTable gs t) (hn:∀ g∈gs,GroupNm g.1):t.Shape:=by
 obtain ⟨b,kids,rfl,h3⟩:=h
 refine ⟨.table rfl rfl,kids_of (fun x t h=>h.kind) h3,fun e=>absurd (show (3:Nat)=1 from e) (by decide),DT.ShapeL_of fun u hu=>?_⟩
 obtain ⟨x,hx,hc⟩:=h3.mem u hu
 exact hc.shape (hn x hx)
theorem IsDoc.shape {gs:List (ByteArray×List (List CA))} {t:DT} (h:IsDoc gs t) (hn:∀ g∈gs,GroupNm g.1):t.Shape:=by
 obtain ⟨b,T,rfl,h3⟩:=h
 refine ⟨.doc rfl,.elems _ fun b i k hm=>?_,fun e=>absurd (show (2:Nat)=1 from e) (by decide),h3.shape hn,trivial⟩
 rw [List.mem_singleton] at hm
 exact h3.kind b i k hm.symm
theorem IsCell.count {x:CA} {t:DT} (h:IsCell x t):t.all.length≤2:=by
 obtain ⟨b,kids,rfl,h3⟩:=h
 rcases h3 with ⟨_,rfl⟩|⟨h4,b',rfl⟩ <;> simp [DT.all,DT.allL]
theorem count_all {α:Type} {of:α→DT→Prop} {f:α→Nat} (ho:∀ x t,of x t→t.all.length≤f x):∀ {l:List α} {d:List DT},OfAll of l d→(DT.allL d).length≤(l.map f).sum
 |[],d,h=>by have:d=[]:=h;subst this;simp [DT.allL]
 |x::r,d,h=>by
  obtain ⟨u,l',rfl,h1,h2⟩:=h
  rw [DT.allL_cons,List.length_append,List.map_cons,List.sum_cons]
  exact Nat.add_le_add (ho x u h1) (count_all ho h2)
theorem sum_const {α:Type} (l:List α) (c:Nat):(l.map fun _=>c).sum=c * l.length:=by
 induction l with
 |nil=>simp
 |cons x r ih=>simp [ih,Nat.mul_add];omega
theorem IsRow.count {r:List CA} {t:DT} (h:IsRow r t):t.all.length≤1+2 * r.length:=by
 obtain ⟨b,kids,rfl,h3⟩:=h
 have:=count_all (f:=fun _=>2) (fun x t h=>h.count) h3
 rw [sum_const] at this
 rw [DT.all,List.length_cons]
 omega
def rowsSum (rows:List (List CA)):Nat:=(rows.map fun r=>1+2 * r.length).sum
theorem IsGroup.count {g:ByteArray×List (List CA)} {t:DT} (h:IsGroup g t):t.all.length≤1+rowsSum g.2:=by
 obtain ⟨b,kids,rfl,h3⟩:=h
 have:=count_all (f:=fun r=>1+2 * r.length) (fun x t h=>h.count) h3
 rw [DT.all,List.length_cons]
 unfold rowsSum
 omega
theorem groups_count:∀ {gs:List (ByteArray×List (List CA))} {d:List DT},OfAll IsGroup gs d→(DT.allL d).length≤gs.length+rowsSum (gs.flatMap (·.2))
 |[],d,h=>by have:d=[]:=h;subst this;simp [DT.allL]
 |x::r,d,h=>by
  obtain ⟨u,l',rfl,h1,h2⟩:=h
  have:=groups_count h2
  have:=h1.count
  rw [DT.allL_cons,List.length_append,List.flatMap_cons,List.length_cons]
  unfold rowsSum at *
  rw [List.map_append,List.sum_append]
  omega
theorem sel_none {Q:NI→Bool}:∀ t:DT,t.AllP (fun i=>Q i=false)→t.sel Q=[]:=by
 intro t
 induction t using DT.induct with
 |h b i kids IH=>
  rintro ⟨h1,h2⟩
  have hl:∀ l:List DT,(∀ t∈l,t.AllP (fun i=>Q i=false)→t.sel Q=[])→DT.AllPL (fun i=>Q i=false) l→DT.selL Q l=[]:=by
   intro l
   induction l with
   |nil=>intro _ _;rw [DT.selL]
   |cons t r ih=>rintro hI ⟨q1,q2⟩;rw [DT.selL,hI t (List.mem_cons_self ..) q1,ih (fun t ht=>hI t (List.mem_cons_of_mem _ ht)) q2];rfl
  rw [DT.sel,hl kids IH h2,h1]
  rfl
theorem selL_none {Q:NI→Bool}:∀ {l:List DT},DT.AllPL (fun i=>Q i=false) l→DT.selL Q l=[]
 |[],_=>by rw [DT.selL]
 |t::r,⟨h1,h2⟩=>by rw [DT.selL,sel_none t h1,selL_none h2];rfl
theorem cells_sel:∀ {r:List CA} {kids:List DT},OfAll IsCell r kids→DT.selL qCell kids=kids.map DT.blk
 |[],d,h=>by have:d=[]:=h;subst this;rw [DT.selL];rfl
 |x::r,d,h=>by
  obtain ⟨u,l',rfl,h1,h2⟩:=h
  rw [DT.selL,cells_sel h2,List.map_cons]
  obtain ⟨b,kids,rfl,h3⟩:=h1
  have hq:qCell (elemNI x.nm)=true:=by
   unfold CA.nm
   cases x.head <;> decide
  have ht:∀ s,qCell (textNI s)=false:=fun s=>by simp [qCell,textNI,NI.nm,nText,nTh,nTd]
  rcases h3 with ⟨_,rfl⟩|⟨h4,b',rfl⟩
  ·simp [DT.sel,DT.selL,hq,DT.blk]
  ·simp [DT.sel,DT.selL,hq,ht,DT.blk]
theorem KidsAt.mem {w:World}:∀ {l:List DT} {b:Nat} {prev:Option Nat},KidsAt w b prev l→∀ t∈l,∃ prev next,DT.At w (some b) prev next t
 |t::r,b,prev,⟨h1,h2⟩,u,hu=>by
  rcases List.mem_cons.1 hu with rfl|hu
  ·exact ⟨_,_,h1⟩
  ·exact KidsAt.mem h2 u hu
theorem nodup_sub:∀ {l:List DT},(DT.allL l).Nodup→∀ t∈l,t.all.Nodup
 |t::r,h,u,hu=>by
  rw [DT.allL_cons,List.nodup_append] at h
  rcases List.mem_cons.1 hu with rfl|hu
  ·exact h.1
  ·exact nodup_sub h.2.1 u hu
theorem len_sub:∀ {l:List DT},∀ t∈l,t.all.length≤(DT.allL l).length
 |t::r,u,hu=>by
  rw [DT.allL_cons,List.length_append]
  rcases List.mem_cons.1 hu with rfl|hu
  ·omega
  ·have:=len_sub u hu;omega
theorem blks_sub:∀ (l:List DT),(l.map DT.blk).Sublist (DT.allL l)
 |[]=>by rw [DT.allL];exact List.Sublist.slnil
 |t::r=>by
  rw [DT.allL_cons,List.map_cons]
  obtain ⟨b,i,k⟩:=t
  rw [DT.all]
  exact (blks_sub r).trans (List.sublist_append_right _ _) |>.cons_cons _
theorem groups_rows:∀ {gs:List (ByteArray×List (List CA))} {d:List DT},OfAll IsGroup gs d→OfAll IsRow (gs.flatMap (·.2)) (d.flatMap DT.kds)
 |[],d,h=>by have:d=[]:=h;subst this;rfl
 |x::r,d,h=>by
  obtain ⟨u,l',rfl,⟨b,k,rfl,h1⟩,h2⟩:=h
  have ih:=groups_rows h2
  rw [List.flatMap_cons,List.flatMap_cons]
  have app:∀ {l:List (List CA)} {k:List DT},OfAll IsRow l k→OfAll IsRow (l++r.flatMap (·.2)) (k++l'.flatMap DT.kds):=by
   intro l
   induction l with
   |nil=>intro k h;have:k=[]:=h;subst this;exact ih
   |cons y l ihl=>intro k h;obtain ⟨u,k',rfl,q1,q2⟩:=h;exact ⟨u,_,rfl,q1,ihl q2⟩
  exact app h1
theorem rows_sub:∀ (d:List DT),((d.flatMap DT.kds).map DT.blk).Sublist (DT.allL d)
 |[]=>by rw [DT.allL];exact List.Sublist.slnil
 |.node b i k::r=>by
  rw [List.flatMap_cons,List.map_append,DT.allL_cons,DT.all]
  exact ((blks_sub k).append (rows_sub r)).trans (List.sublist_cons_self _ _)
def cellsOf (r:List CA) (k:List DT):List (DT×List UInt8):=k.zip (r.map fun x=>x.text.data.toList)
theorem cellsOf_mem:∀ {r:List CA} {k:List DT},OfAll IsCell r k→∀ p∈cellsOf r k,p.1∈k∧∃ x∈r,IsCell x p.1∧p.2=x.text.data.toList
 |[],k,h,p,hp=>by have:k=[]:=h;subst this;cases hp
 |x::r,k,h,p,hp=>by
  obtain ⟨u,k',rfl,h1,h2⟩:=h
  have hp':p∈(u,x.text.data.toList)::cellsOf r k':=hp
  rcases List.mem_cons.1 hp' with rfl|hp'
  ·exact ⟨List.mem_cons_self ..,x,List.mem_cons_self ..,h1,rfl⟩
  ·obtain ⟨q1,y,q2,q3⟩:=cellsOf_mem h2 p hp'
   exact ⟨List.mem_cons_of_mem _ q1,y,List.mem_cons_of_mem _ q2,q3⟩
theorem cellsOf_blk:∀ {r:List CA} {k:List DT},OfAll IsCell r k→(cellsOf r k).map (fun p=>p.1.blk)=k.map DT.blk
 |[],k,h=>by have:k=[]:=h;subst this;rfl
 |x::r,k,h=>by
  obtain ⟨u,k',rfl,h1,h2⟩:=h
  show _::_=_::_
  rw [← cellsOf_blk h2];rfl
def rowOut (tab:Nat→Int) (r:List CA):List (List Int):=r.map fun x=>bytesI (trimBy (marked tab) x.text.data.toList)
theorem cellsOf_out (tab:Nat→Int):∀ {r:List CA} {k:List DT},OfAll IsCell r k→cellsOut tab (cellsOf r k)=rowOut tab r
 |[],k,h=>by have:k=[]:=h;subst this;rfl
 |x::r,k,h=>by
  obtain ⟨u,k',rfl,h1,h2⟩:=h
  show _::_=_::_
  rw [show r.map (fun x=>bytesI (trimBy (marked tab) x.text.data.toList))=rowOut tab r from rfl,← cellsOf_out tab h2];rfl
def rowPair (r:List CA) (t:DT):DT×List (DT×List UInt8):=(t,cellsOf r t.kds)
def rowPairs:List (List CA)→List DT→List (DT×List (DT×List UInt8))
 |r::rs,t::ts=>rowPair r t::rowPairs rs ts
 |_,_=>[]
theorem rowPairs_blk:∀ {rs:List (List CA)} {ts:List DT},OfAll IsRow rs ts→(rowPairs rs ts).map (fun r=>r.1.blk)=ts.map DT.blk
 |[],k,h=>by have:k=[]:=h;subst this;rfl
 |x::r,k,h=>by
  obtain ⟨u,k',rfl,h1,h2⟩:=h
  show _::_=_::_
  rw [← rowPairs_blk h2];rfl
theorem rowPairs_mem:∀ {rs:List (List CA)} {ts:List DT},OfAll IsRow rs ts→∀ p∈rowPairs rs ts,∃ r∈rs,∃ t∈ts,IsRow r t∧p=rowPair r t
 |[],k,h,p,hp=>by have:k=[]:=h;subst this;cases hp
 |x::r,k,h,p,hp=>by
  obtain ⟨u,k',rfl,h1,h2⟩:=h
  have hp':p∈rowPair x u::rowPairs r k':=hp
  rcases List.mem_cons.1 hp' with rfl|hp'
  ·exact ⟨x,List.mem_cons_self ..,u,List.mem_cons_self ..,h1,rfl⟩
  ·obtain ⟨y,q1,t,q2,q3⟩:=rowPairs_mem h2 p hp'
   exact ⟨y,List.mem_cons_of_mem _ q1,t,List.mem_cons_of_mem _ q2,q3⟩
theorem rowPair_out (tab:Nat→Int) {r:List CA} {t:DT} (h:IsRow r t):cellsOut tab (rowPair r t).2=rowOut tab r:=by
 obtain ⟨b,k,rfl,h⟩:=h
 exact cellsOf_out tab h
theorem rowPairs_in (tab:Nat→Int):∀ {rs:List (List CA)} {ts:List DT},OfAll IsRow rs ts→rowsIn0 tab (rowPairs rs ts)=rs.map (rowOut tab)
 |[],k,h=>by have:k=[]:=h;subst this;rfl
 |x::r,k,h=>by
  obtain ⟨u,k',rfl,h1,h2⟩:=h
  show cellsOut tab (rowPair x u).2::rowsIn0 tab (rowPairs r k')=_
  rw [rowPairs_in tab h2,rowPair_out tab h1];rfl
theorem rowPair_len {r:List CA} {t:DT} (h:IsRow r t):(rowPair r t).2.length=r.length:=by
 obtain ⟨b,k,rfl,h⟩:=h
 show (k.zip _).length=_
 rw [List.length_zip,List.length_map,h.len,Nat.min_self]
structure Neat (rows:List (List CA)):Prop where
 ne:rows≠[]
 few:rows.length≤12
 row:∀ r∈rows,r≠[]∧r.length≤12
 cell:∀ r∈rows,∀ x∈r,x.align.size=0∧x.cols≤1∧x.rows≤1∧(x.text.size≠0→TextOk x.text)
theorem Neat.wordy {rows:List (List CA)} (h:Neat rows) {r:List CA} (hr:r∈rows) {x:CA} (hx:x∈r):(∀ y∈x.text.data.toList,Wordy (y.toNat:Int))∧x.text.data.toList.length≤2147483647:=by
 have hc:=(h.cell r hr x hx).2.2.2
 by_cases h0:x.text.size=0
 ·have:x.text.data.toList=[]:=List.eq_nil_of_length_eq_zero (by simpa using h0)
  rw [this]
  exact ⟨fun y hy=>(by cases hy),Nat.zero_le _⟩
 ·have ht:=hc h0
  refine ⟨fun y hy=>?_,by simpa using ht.le⟩
  obtain ⟨i,hi,rfl⟩:=List.getElem_of_mem hy
  exact (TextOk.list ht i hi).1
theorem sum_le_mul (l:List (List CA)) (h:∀ r∈l,r.length≤12):rowsSum l≤25 * l.length:=by
 unfold rowsSum
 induction l with
 |nil=>simp
 |cons x r ih=>
  have h1:=ih (fun r' hr=>h r' (List.mem_cons_of_mem _ hr))
  have h2:=h x (List.mem_cons_self ..)
  rw [List.map_cons,List.sum_cons,List.length_cons]
  omega
theorem Neat.sum {rows:List (List CA)} (h:Neat rows):rowsSum rows≤300:=by
 have:=sum_le_mul rows (fun r hr=>(h.row r hr).2)
 have:=h.few
 omega
theorem elem_nm (nm:ByteArray):(elemNI nm).nm=nm:=rfl
theorem CA.nm_ne (x:CA):x.nm≠nText∧x.nm≠nTable∧x.nm≠nTr∧x.nm≠nThead:=by
 unfold CA.nm
 cases x.head <;> decide
theorem rends_of {α:Type} {of:α→DT→Prop} {R:DT→List UInt8→Prop} {f:α→List UInt8}:∀ {l:List α} {d:List DT},OfAll of l d→(∀ x∈l,∀ t∈d,of x t→R t (f x))→Rends R d (l.map f)
 |[],d,h,_=>by have:d=[]:=h;subst this;exact .nil
 |x::r,d,h,hi=>by
  obtain ⟨u,l',rfl,h1,h2⟩:=h
  exact .cons (hi x (List.mem_cons_self ..) u (List.mem_cons_self ..) h1) (rends_of h2 fun y hy t ht=>hi y (List.mem_cons_of_mem _ hy) t (List.mem_cons_of_mem _ ht))
section
variable {N X C cm tp bs:Nat} {tab:Nat→Int} {po:PO}
theorem rend_cell {x:CA} {t:DT} (h:IsCell x t) (hlt:t.Lt N) (hx:x.text.size≠0→TextOk x.text):Rend N X C cm tp bs tab po t x.text.data.toList:=by
 obtain ⟨b,kids,rfl,h3⟩:=h
 obtain ⟨n1,n2,n3,n4⟩:=x.nm_ne
 rcases h3 with ⟨h0,rfl⟩|⟨h4,b',rfl⟩
 ·have:=rend_plain (N:=N) (X:=X) (C:=C) (cm:=cm) (tp:=tp) (bs:=bs) (tab:=tab) (po:=po) b (elemNI x.nm) [] x.plain n1 n2 n3 hlt [] .nil (by decide)
  have e:x.text.data.toList=[]:=List.eq_nil_of_length_eq_zero (by simpa using h0)
  rw [e]
  exact this
 ·have:=rend_plain (N:=N) (X:=X) (C:=C) (cm:=cm) (tp:=tp) (bs:=bs) (tab:=tab) (po:=po) b (elemNI x.nm) [.node b' (textNI x.text) []] x.plain n1 n2 n3 hlt [x.text.data.toList] (.cons (rend_text b' (textNI x.text) rfl (hx h4)) .nil) (by simp)
  simpa using this
def rowText (r:List CA):List UInt8:=[10,10]++(r.map fun x=>x.text.data.toList).flatten++[10,10]
theorem rend_rowT {r:List CA} {t:DT} (h:IsRow r t) (hlt:t.Lt N) (hl:r.length≤12) (hx:∀ x∈r,x.text.size≠0→TextOk x.text):Rend N X C cm tp bs tab po t (rowText r):=by
 obtain ⟨b,kids,rfl,h3⟩:=h
 exact rend_row b (elemNI nTr) kids (.tr rfl rfl) rfl hlt _ (rends_of h3 fun x hxm t ht hc=>rend_cell hc (DT.LtL.mem hlt.2 t ht) (hx x hxm)) (by rw [h3.len];omega)
def rowsText (rows:List (List CA)):List UInt8:=(rows.map rowText).flatten
theorem rend_group {g:ByteArray×List (List CA)} {t:DT} (h:IsGroup g t) (hg:GroupNm g.1) (hlt:t.Lt N) (hl:g.2.length≤12) (hr:∀ r∈g.2,r.length≤12∧∀ x∈r,x.text.size≠0→TextOk x.text):Rend N X C cm tp bs tab po t (rowsText g.2):=by
 obtain ⟨b,kids,rfl,h3⟩:=h
 have hn:g.1≠nText∧g.1≠nTable∧g.1≠nTr:=by rcases hg with h|h|h <;> rw [h] <;> decide
 exact rend_plain b (elemNI g.1) kids hg.plain hn.1 hn.2.1 hn.2.2 hlt _ (rends_of h3 fun x hxm t ht hc=>rend_rowT hc (DT.LtL.mem hlt.2 t ht) (hr x hxm).1 (hr x hxm).2) (by rw [h3.len];omega)
theorem rowsText_flat:∀ (gs:List (ByteArray×List (List CA))),(gs.map fun g=>rowsText g.2).flatten=rowsText (gs.flatMap (·.2))
 |[]=>rfl
 |g::gs=>by
  rw [List.map_cons,List.flatten_cons,rowsText_flat gs,List.flatMap_cons]
  unfold rowsText
  rw [List.map_append,List.flatten_append]
theorem group_len:∀ (gs:List (ByteArray×List (List CA))),∀ g∈gs,g.2.length≤(gs.flatMap (·.2)).length
 |y::gs,g,hg=>by
  rw [List.flatMap_cons,List.length_append]
  rcases List.mem_cons.1 hg with rfl|hg
  ·omega
  ·have:=group_len gs g hg;omega
theorem fall_table {gs:List (ByteArray×List (List CA))} {q:Nat} {kids:List DT} (h:OfAll IsGroup gs kids) (hg:∀ g∈gs,GroupNm g.1) (hlt:(DT.node q (elemNI nTable) kids).Lt N) (hl:gs.length≤3) (hn:Neat (gs.flatMap (·.2))):FallDoes N X C cm tp bs tab po q (elemNI nTable) kids (wrapT nTable (rowsText (gs.flatMap (·.2)))):=by
 rw [← rowsText_flat]
 refine fallDoes q (elemNI nTable) kids (.table rfl rfl) (by decide) hlt _ (rends_of h fun g hgm t ht hc=>rend_group hc (hg g hgm) (DT.LtL.mem hlt.2 t ht) ?_ fun r hr=>?_) (by rw [h.len];omega)
 ·have hs:=group_len gs g hgm
  have:=hn.few
  omega
 ·have hm:=List.mem_flatMap.2 ⟨g,hgm,hr⟩
  exact ⟨(hn.row r hm).2,fun x hx=>(hn.cell r hm x hx).2.2.2⟩
theorem looked_row {w:World} {r:List CA} {t:DT} (h:IsRow r t) {par prev next:Option Nat} (hat:DT.At w par prev next t) (hnd:t.all.Nodup) (hlen:t.all.length≤999):∃ kids,t=.node t.blk (elemNI nTr) kids∧Looked w anyN t.blk (elemNI nTr) kids par prev next∧OfAll IsCell r kids:=by
 have hsh:=h.shape
 have hal:t.AllP anyN:=h.allP ⟨fun _ _ _ _ _=>trivial,fun _ _ _ _=>trivial,trivial⟩
 obtain ⟨b,kids,rfl,h3⟩:=h
 rw [DT.all] at hnd hlen
 exact ⟨kids,rfl,⟨hat,hsh,hal,hnd,by rw [List.length_cons] at hlen;omega⟩,h3⟩
theorem rowOk_of {w:World} {r:List CA} {t:DT} (h:IsRow r t) {par prev next:Option Nat} (hat:DT.At w par prev next t) (hnd:t.all.Nodup) (hlen:t.all.length≤999) (hlt:t.Lt N) (hx:∀ x∈r,(x.text.size≠0→TextOk x.text)∧(∀ y∈x.text.data.toList,Wordy (y.toNat:Int))∧x.text.data.toList.length≤2147483647):RowOk N X C cm tp bs tab po w (rowPair r t):=by
 obtain ⟨kids,ht,hlk,h3⟩:=looked_row h hat hnd hlen
 refine ⟨⟨elemNI nTr,kids,par,prev,next,ht,hlk,?_⟩,fun p hp=>?_⟩
 ·rw [cells_sel h3,show (rowPair r t).2=cellsOf r kids by unfold rowPair;rw [ht];rfl,cellsOf_blk h3]
 ·rw [show (rowPair r t).2=cellsOf r kids by unfold rowPair;rw [ht];rfl] at hp
  obtain ⟨p1,x,q1,q2,q3⟩:=cellsOf_mem h3 p hp
  have hl2:DT.LtL N kids:=by rw [ht] at hlt;exact hlt.2
  have hka:KidsAt w t.blk none kids:=by rw [ht] at hat;exact hat.2
  obtain ⟨pv',nx,ha⟩:=hka.mem p.1 p1
  refine ⟨?_,DT.LtL.mem hl2 _ p1,⟨_,_,_,ha⟩,?_,?_,?_⟩
  ·rw [q3];exact rend_cell q2 (DT.LtL.mem hl2 _ p1) (hx x q1).1
  ·obtain ⟨b,k,e,_⟩:=q2
   rw [e] at ha ⊢
   exact (At_fields ha).2.2.2.2.2.2.2.2
  ·rw [q3];exact (hx x q1).2.1
  ·rw [q3];exact (hx x q1).2.2
end
theorem CA.nm_cases (x:CA):x.nm=nTh∨x.nm=nTd:=by
 unfold CA.nm
 cases x.head
 ·exact .inr rfl
 ·exact .inl rfl
theorem text_nm (s:ByteArray):(textNI s).nm=nText:=rfl
theorem groups_no {gs:List (ByteArray×List (List CA))} {kids:List DT} (h:OfAll IsGroup gs kids) (n:ByteArray) (h1:n≠nText) (h2:n≠nTh) (h3:n≠nTd) (h4:n≠nTr) (hn:∀ g∈gs,g.1≠n):DT.selL (fun i=>decide (i.nm=n)) kids=[]:=by
 refine selL_none (groups_allP h ⟨fun _ _ x _ _=>?_,fun _ _ x _=>?_,?_⟩ fun g hg=>?_)
 ·rw [text_nm];exact decide_eq_false (fun e=>h1 e.symm)
 ·rw [elem_nm]
  rcases x.nm_cases with e|e <;> rw [e]
  ·exact decide_eq_false (fun e=>h2 e.symm)
  ·exact decide_eq_false (fun e=>h3 e.symm)
 ·rw [elem_nm];exact decide_eq_false (fun e=>h4 e.symm)
 ·rw [elem_nm];exact decide_eq_false (hn g hg)
theorem cells_nrm (H:Nat):∀ {r:List CA} {k:List DT},OfAll IsCell r k→DT.nrmL H k=[]
 |[],k,h=>by have:k=[]:=h;subst this;rw [DT.nrmL]
 |x::r,k,h=>by
  obtain ⟨u,k',rfl,⟨b,kk,rfl,h3⟩,h2⟩:=h
  have hc:¬ ((elemNI x.nm).nm=nTr∧b≠H):=fun e=>x.nm_ne.2.2.1 (by rw [← elem_nm x.nm];exact e.1)
  rw [DT.nrmL,cells_nrm H h2,DT.nrm,if_neg hc]
  rcases h3 with ⟨_,rfl⟩|⟨_,b',rfl⟩
  ·rw [DT.nrmL];rfl
  ·have ht:¬ ((textNI x.text).nm=nTr∧b'≠H):=fun e=>absurd e.1 (by rw [text_nm];decide)
   rw [DT.nrmL,DT.nrmL,DT.nrm,if_neg ht,DT.nrmL];rfl
theorem rows_nrm (H:Nat):∀ {rs:List (List CA)} {k:List DT},OfAll IsRow rs k→DT.nrmL H k=(k.map DT.blk).filter (fun b=>decide (b≠H))
 |[],k,h=>by have:k=[]:=h;subst this;rw [DT.nrmL];rfl
 |x::r,k,h=>by
  obtain ⟨u,k',rfl,⟨b,kk,rfl,h3⟩,h2⟩:=h
  rw [DT.nrmL,rows_nrm H h2,DT.nrm,cells_nrm H h3,List.map_cons,List.filter_cons]
  show (if (elemNI nTr).nm=nTr∧b≠H then [b] else [])++[]++_=if decide (b≠H)=true then b::_ else _
  by_cases hb:b=H
  ·rw [if_neg (fun h=>h.2 hb),if_neg (by simp [hb])];rfl
  ·rw [if_pos ⟨rfl,hb⟩,if_pos (by simp [hb])];rfl
theorem groups_nrm (H:Nat):∀ {gs:List (ByteArray×List (List CA))} {k:List DT},OfAll IsGroup gs k→(∀ g∈gs,GroupNm g.1)→DT.nrmL H k=((k.flatMap DT.kds).map DT.blk).filter (fun b=>decide (b≠H))
 |[],k,h,_=>by have:k=[]:=h;subst this;rw [DT.nrmL];rfl
 |x::r,k,h,hg=>by
  obtain ⟨u,k',rfl,⟨b,kk,rfl,h3⟩,h2⟩:=h
  have hn:¬ ((elemNI x.1).nm=nTr∧b≠H):=by
   rintro ⟨e,_⟩
   rw [elem_nm] at e
   rcases hg x (List.mem_cons_self ..) with h|h|h <;> rw [h] at e <;> exact absurd e (by decide)
  rw [DT.nrmL,groups_nrm H h2 (fun g hg'=>hg g (List.mem_cons_of_mem _ hg')),DT.nrm,if_neg hn,rows_nrm H h3,List.flatMap_cons,List.map_append,List.filter_append]
  rfl
theorem filter_others {b:Nat} {l:List Nat} (h:(b::l).Nodup):(b::l).filter (fun x=>decide (x≠b))=l:=by
 rw [List.nodup_cons] at h
 rw [List.filter_cons,if_neg (by simp)]
 rw [List.filter_eq_self]
 intro x hx
 exact decide_eq_true (fun e=>h.1 (e▸hx))
def HeadOk (gs:List (ByteArray×List (List CA))):Prop:=(∃ x0 r0 rest,gs=[(nTbody,(x0::r0)::rest)]∧x0.head=true)∨∃ r0 rest,gs=(nThead,[r0])::rest
section
variable {N X C cm tp bs:Nat} {tab:Nat→Int} {po:PO}
theorem header_ok {gs:List (ByteArray×List (List CA))} (hh:HeadOk gs) (hg:∀ g∈gs,GroupNm g.1) {S:Nat} {kids:List DT} (h:OfAll IsGroup gs kids) {t0:DT} {ts:List DT} (ht:kids.flatMap DT.kds=t0::ts) {w:World} {par prev next:Option Nat} (hl:Looked w anyN S (elemNI nTable) kids par prev next):
  Calls Tryz.prog 413 #[.pointer (some ⟨S,0,none⟩)] w fun e w2=>e=.returned (.pointer (some ⟨t0.blk,0,none⟩))∧Below w.heap.size w w2:=by
 rcases hh with ⟨x0,r0,rest,rfl,hx0⟩|⟨r0,rest,rfl⟩
 ·have hno:=groups_no h nThead (by decide) (by decide) (by decide) (by decide) (fun g hgm=>by rw [List.mem_singleton] at hgm;rw [hgm];show nTbody≠nThead;decide)
  obtain ⟨u,l',rfl,⟨b,kk,rfl,h3⟩,h2⟩:=h
  have:l'=[]:=h2
  subst this
  obtain ⟨t1,l1,rfl,⟨b1,k1,rfl,h5⟩,h4⟩:=h3
  obtain ⟨c0,l2,rfl,⟨b2,k2,rfl,h7⟩,h6⟩:=h5
  have e0:t0=.node b1 (elemNI nTr) (.node b2 (elemNI x0.nm) k2::l2):=by
   have:=congrArg List.head? ht
   exact (Option.some.inj this).symm
  subst e0
  have hnm:x0.nm=nTh:=by unfold CA.nm;rw [hx0];rfl
  have hK:=hl.at_.2
  have hb1:=hK.1.2.1
  have hb2:=hb1.2.1
  refine headerTh_calls hl (by rw [show DT.selL qThead _=[] from hno];rfl) b2 b1 ?_ (At_fields hb2).1
  have q1:qTh (elemNI nTbody)=false:=by decide
  have q2:qTh (elemNI nTr)=false:=by decide
  have q3:qTh (elemNI nTh)=true:=by decide
  simp [hnm,DT.selL,DT.sel,q1,q2,q3]
 ·obtain ⟨u,l',rfl,⟨b,kk,rfl,h3⟩,h2⟩:=h
  obtain ⟨t1,l1,rfl,ht1,h4⟩:=h3
  have:l1=[]:=h4
  subst this
  have e0:t0=t1:=by
   have:=congrArg List.head? ht
   exact (Option.some.inj this).symm
  subst e0
  have hK:=hl.at_.2.1
  have hnd:(b::DT.allL [t0]).Nodup:=by
   have h1:=(List.nodup_cons.1 hl.nodup).2
   rw [DT.allL_cons,List.nodup_append] at h1
   have:=h1.1
   rwa [DT.all] at this
  have hlen:(DT.allL [t0]).length≤999:=by
   have h1:=hl.len
   rw [DT.allL_cons,List.length_append,DT.all,List.length_cons] at h1
   omega
  have hall:(DT.node b (elemNI nThead) [t0]).AllP anyN:=(hl.all).2.1
  have hsh:(DT.node b (elemNI nThead) [t0]).Shape:=hl.shape.2.2.2.1
  refine headerThead_calls hl b t0.blk ?_ ⟨hK,hsh,hall,hnd,hlen⟩ ?_
  ·have q1:qThead (elemNI nThead)=true:=by decide
   simp [DT.selL,DT.sel,q1]
  ·obtain ⟨b1,k1,rfl,_⟩:=ht1
   have q1:qTr (elemNI nTr)=true:=by decide
   simp [DT.selL,DT.sel,q1,DT.blk]
theorem Neat.cellOk {rows:List (List CA)} (h:Neat rows) {r:List CA} (hr:r∈rows):∀ x∈r,(x.text.size≠0→TextOk x.text)∧(∀ y∈x.text.data.toList,Wordy (y.toNat:Int))∧x.text.data.toList.length≤2147483647:=
 fun x hx=>⟨(h.cell r hr x hx).2.2.2,(h.wordy hr hx).1,(h.wordy hr hx).2⟩
theorem rowOut_ok {rows:List (List CA)} (h:Neat rows):(∀ xs∈rows.map (rowOut tab),xs.length≤1000)∧∀ xs∈rows.map (rowOut tab),∀ x∈xs,x.length≤2147483647∧∀ y∈x,(0≤y∧y < 128)∧y≠10∧y≠7:=by
 refine ⟨fun xs hx=>?_,fun xs hx x hx2=>?_⟩
 ·obtain ⟨r,hr,rfl⟩:=List.mem_map.1 hx
  have:=(h.row r hr).2
  unfold rowOut
  rw [List.length_map]
  omega
 ·obtain ⟨r,hr,rfl⟩:=List.mem_map.1 hx
  obtain ⟨c,hc,rfl⟩:=List.mem_map.1 hx2
  obtain ⟨q1,q2⟩:=h.wordy hr hc
  refine ⟨by rw [bytesI_length];exact Nat.le_trans (trimBy_len _) q2,fun y hy=>?_⟩
  obtain ⟨z,hz,rfl⟩:=List.mem_map.1 hy
  have:=q1 z (trimBy_sub _ z hz)
  unfold Wordy Alnum at this
  omega
end
section
variable {N X C cm tp bs:Nat} {tab:Nat→Int} {po:PO}
theorem row_in {kids:List DT} {t:DT} (ht:t∈kids.flatMap DT.kds):∃ g∈kids,t∈g.kds:=by
 obtain ⟨g,h1,h2⟩:=List.mem_flatMap.1 ht
 exact ⟨g,h1,h2⟩
theorem row_at {w:World} {S:Nat} {kids:List DT} (h:KidsAt w S none kids) {t:DT} (ht:t∈kids.flatMap DT.kds):∃ par prev next,DT.At w par prev next t:=by
 obtain ⟨g,h1,h2⟩:=row_in ht
 obtain ⟨p,n,ha⟩:=h.mem g h1
 obtain ⟨b,i,k⟩:=g
 obtain ⟨p2,n2,hb⟩:=KidsAt.mem ha.2 t h2
 exact ⟨_,_,_,hb⟩
theorem row_nodup {kids:List DT} (h:(DT.allL kids).Nodup) {t:DT} (ht:t∈kids.flatMap DT.kds):t.all.Nodup:=by
 obtain ⟨g,h1,h2⟩:=row_in ht
 have:=nodup_sub h g h1
 obtain ⟨b,i,k⟩:=g
 rw [DT.all,List.nodup_cons] at this
 exact nodup_sub this.2 t h2
theorem row_len {kids:List DT} {t:DT} (ht:t∈kids.flatMap DT.kds):t.all.length≤(DT.allL kids).length:=by
 obtain ⟨g,h1,h2⟩:=row_in ht
 have:=len_sub g h1
 obtain ⟨b,i,k⟩:=g
 rw [DT.all,List.length_cons] at this
 have h3:t.all.length≤(DT.allL k).length:=len_sub t h2
 omega
theorem row_lt {kids:List DT} (h:DT.LtL N kids) {t:DT} (ht:t∈kids.flatMap DT.kds):t.Lt N:=by
 obtain ⟨g,h1,h2⟩:=row_in ht
 have:=DT.LtL.mem h g h1
 obtain ⟨b,i,k⟩:=g
 exact DT.LtL.mem this.2 t h2
theorem table_count {gs:List (ByteArray×List (List CA))} {kids:List DT} (h:OfAll IsGroup gs kids) (hgl:gs.length≤3) (hn:Neat (gs.flatMap (·.2))):(DT.allL kids).length≤303:=by
 have:=groups_count h
 have:=hn.sum
 omega
theorem tabAt_of {gs:List (ByteArray×List (List CA))} (hh:HeadOk gs) (hg:∀ g∈gs,GroupNm g.1) (hgl:gs.length≤3) (hn:Neat (gs.flatMap (·.2))) {D S:Nat} {kids:List DT} (h:OfAll IsGroup gs kids) (hnd:(DT.node D docNI [.node S (elemNI nTable) kids]).all.Nodup) (hlt:(DT.node D docNI [.node S (elemNI nTable) kids]).Lt N):
  ∃ hd rows,rowsIn0 tab (hd::rows)=(gs.flatMap (·.2)).map (rowOut tab)∧hd.2.length=((gs.flatMap (·.2)).headD []).length∧∀ w,DT.At w none none none (.node D docNI [.node S (elemNI nTable) kids])→TabAt N X C cm tp bs tab po w S (elemNI nTable) kids hd rows:=by
 have hR:=groups_rows h
 have hcnt:=table_count h hgl hn
 have hno:=groups_no h nTable (by decide) (by decide) (by decide) (by decide) (fun g hgm=>by rcases hg g hgm with e|e|e <;> rw [e] <;> decide)
 have hout:=rowOut_ok (tab:=tab) hn
 have hnd1:(S::DT.allL kids).Nodup:=by
  rw [DT.all,List.nodup_cons,DT.allL_cons,DT.all,DT.allL,List.append_nil] at hnd
  exact hnd.2
 have hnd2:=(List.nodup_cons.1 hnd1).2
 have hlt2:DT.LtL N kids:=hlt.2.1.2
 have hblk:((kids.flatMap DT.kds).map DT.blk).Nodup:=(rows_sub kids).nodup hnd2
 have hfew:=hn.few
 have hcell:=fun r hr=>hn.cellOk (r:=r) hr
 cases hrows:gs.flatMap (·.2) with
 |nil=>exact absurd hrows hn.ne
 |cons r0 rest=>
  rw [hrows] at hR hout hfew hcell
  obtain ⟨t0,ts,ht,h0,hrest⟩:=hR
  have hfull:OfAll IsRow (r0::rest) (t0::ts):=⟨t0,ts,rfl,h0,hrest⟩
  refine ⟨rowPair r0 t0,rowPairs rest ts,?_,?_,fun w hat=>?_⟩
  ·exact rowPairs_in tab hfull
  ·exact rowPair_len h0
  ·have hT:=hat.2.1
   have hshape:(DT.node S (elemNI nTable) kids).Shape:=(show IsTable gs (.node S (elemNI nTable) kids) from ⟨S,kids,rfl,h⟩).shape hg
   have hlook:∀ A:NI→Prop,(∀ nm,A (elemNI nm))→(∀ s,A (textNI s))→Looked w A S (elemNI nTable) kids (some D) none none:=fun A h1 h2=>⟨hT,hshape,⟨h1 _,groups_allP h ⟨fun _ _ _ _ _=>h2 _,fun _ _ _ _=>h1 _,h1 _⟩ fun _ _=>h1 _⟩,hnd1,by omega⟩
   have hlA:=hlook anyN (fun _=>trivial) (fun _=>trivial)
   have hrow:∀ (r:List CA),r∈r0::rest→∀ t,t∈t0::ts→IsRow r t→RowOk N X C cm tp bs tab po w (rowPair r t):=fun r hr t htm hrt=>by
    rw [← ht] at htm
    obtain ⟨p,pv',nx,ha⟩:=row_at hT.2 htm
    exact rowOk_of hrt ha (row_nodup hnd2 htm) (by have:=row_len htm;omega) (row_lt hlt2 htm) (hcell r hr)
   refine
    {
     lookA:=⟨_,_,_,hlA⟩
     lookC:=⟨_,_,_,hlook _ (fun _=>rfl) (fun _=>rfl)⟩
     attr:=(At_fields hT).2.2.2.2.2.2.2.2
     noTable:=by rw [show DT.selL qTable kids=[] from hno];rfl
     nm:=by rw [elem_nm];decide
     parent:=⟨D,_,_,_,_,_,_,hT,hat,.doc rfl,rfl⟩
     header:=fun w' hb=>header_ok hh hg h ht (hlA.keep hb)
     clear:=?_
     nrm:=?_
     hdr:=hrow r0 (List.mem_cons_self ..) t0 (List.mem_cons_self ..) h0
     ok:=fun p hp=>?_
     few:=⟨?_,?_⟩ }
   ·obtain ⟨p,pv',nx,ha⟩:=row_at hT.2 (t:=t0) (by rw [ht];exact List.mem_cons_self ..)
    obtain ⟨b,i,k⟩:=t0
    exact ⟨_,_,ha.1⟩
   ·rw [rowPairs_blk hrest,groups_nrm _ h hg,ht]
    rw [ht] at hblk
    exact filter_others hblk
   ·obtain ⟨r,hr,t,htm,hrt,rfl⟩:=rowPairs_mem hrest p hp
    exact hrow r (List.mem_cons_of_mem _ hr) t (List.mem_cons_of_mem _ htm) hrt
   ·have h1:=congrArg List.length (rowPairs_blk hrest)
    rw [List.length_map,List.length_map] at h1
    have h2:=hrest.len
    rw [List.length_cons] at hfew
    omega
   ·rw [show rowsIn0 tab (rowPair r0 t0::rowPairs rest ts)=(r0::rest).map (rowOut tab) from rowPairs_in tab hfull]
    exact hout
end
end Go.Proofs.YtbheflncgmhadaaGreat.Hand
