/- The law's builders, Tabled. Conditions: those in each statement. -/
import Derived.Test.YtbheflncgmhadaaGreatXw
import Derived.Deep.Slices
import Derived.ChangeArms
import Derived.WalkKit
import Derived.HandedShaped
import Derived.Deep.RegionLaw
import Derived.Test.YtbheflncgmhadaaGreatXj
import Derived.Test.YtbheflncgmhadaaGreatXt
import Derived.Deep.RegionHeld3
set_option linter.unusedVariables false
set_option linter.unusedSimpArgs false
set_option maxHeartbeats 40000000
set_option maxRecDepth 100000
namespace Go.Proofs.YtbheflncgmhadaaGreat.Hand
open Go.RowKit Go.Proofs.YtbheflncgmhadaaGreatW.PrintWords Go.Proofs.YtbheflncgmhadaaGreatW.PrintLast Go.Proofs.YtbheflncgmhadaaGreatW.PrintMore
open Go.Proofs.YtbheflncgmhadaaGreat.PzzFits10
open Go.ChangeShapes Go.WideShapes
theorem K_of_trod {α:Type} [Inhabited α] {H:Type} {enc:TypeId×Value→H} {P:Program} {W:World} {base:Nat} {sp:Nat→Bool} {held:Bool} {t e:TypeId} {fuel:Nat} {cs:List Value} {x:DataW H×List MemPlace} (d:Kd α) (ht:P.underlying t=some (.slice e)) (hs:P.cellsOf e=d.sz)
  (hel:∀ n cs x,cs.length=d.sz→DataW.trod enc P W base sp held n e cs=some x→∃ p,d.K W p cs) (h:DataW.trod enc P W base sp held fuel t cs=some x):∃ l:List α,(Kd.slice e d).K W l cs:=by
 rcases Go.Deep.open_slice ht h with ⟨rfl,_⟩|⟨a,len,cap,m,n,D,Pl,rfl,_,hl,hm,hmm,_,hx⟩
 ·exact ⟨[],none,0,rfl,Nat.le_refl _,rfl,Nat.zero_le _,fun h=>absurd h (Nat.lt_irrefl 0)⟩
 have hlm:len≤m:=by rw [hmm];split <;> omega
 have each:∀ i,i < len→∃ q:α×List Value,W.cells? base (a.add (i * P.cellsOf e)) (P.cellsOf e)=some q.2∧d.K W q.1 q.2:=fun i hi=>by
  obtain ⟨cs',h1,h2⟩:=hx i (by omega)
  have hlen:=(World.cells?_some h1).2.1
  obtain ⟨p,hp⟩:=hel n cs' _ (by rw [hlen,hs]) h2
  exact ⟨(p,cs'),h1,hp⟩
 obtain ⟨q,hq⟩:=Go.Deep.choose_lt each
 have hlen:((List.range len).map fun i=>(q i).1).length=len:=by simp
 refine ⟨(List.range len).map fun i=>(q i).1,some a,cap,by rw [hlen],by rw [hlen];exact hl,rfl,?_,fun _=>⟨a,rfl,fun j p hp=>?_⟩⟩
 ·rw [hlen]
  unfold maxLen at hm
  omega
 ·have hj:j < len:=by
   have:=(List.getElem?_eq_some_iff.1 hp).1
   rwa [hlen] at this
  have hpe:p=(q j).1:=by
   rw [List.getElem?_map,List.getElem?_range hj] at hp
   exact (Option.some.inj hp).symm
  subst hpe
  obtain ⟨h1,h2⟩:=hq j hj
  obtain ⟨_,hl2,hc⟩:=World.cells?_some h1
  refine ⟨(q j).2,by rw [hl2,hs],h2,fun i u hi=>?_⟩
  have hi2:i < P.cellsOf e:=by
   have:=(List.getElem?_eq_some_iff.1 hi).1
   omega
  have:=hc i hi2
  rw [Go.Deep.add_add,hi,hs] at this
  exact this
instance:Inhabited S27:=⟨⟨⟨#[]⟩,false,⟨#[]⟩,0,0⟩⟩
theorem fields27:(Tryz.prog.underlying 27).bind (fun d=>match d with|.struct fs=>some (fs.toList.map fun f=>(f.type,f.offset,Tryz.prog.cellsOf f.type))|_=>none)=some [(9,0,1),(4,1,1),(9,2,1),(3,3,1),(3,4,1)]:=by kernel_rfl
theorem cells27:Tryz.prog.cellsOf 27=5:=by kernel_rfl
theorem cells28:Tryz.prog.cellsOf 28=1:=by kernel_rfl
theorem open_cell {H:Type} {enc:TypeId×Value→H} {W:World} {base:Nat} {sp:Nat→Bool} {held:Bool} {fuel:Nat} {cs:List Value} {x:DataW H×List MemPlace} (h:DataW.trod enc Tryz.prog W base sp held fuel 27 cs=some x):∃ p:S27,k27.K W p cs:=by
 have hu:=fields27
 cases hd:Tryz.prog.underlying 27 with
 |none=>rw [hd] at hu;cases hu
 |some d=>
  rw [hd] at hu
  cases d with
  |struct fs=>
   have hu:fs.toList.map (fun f=>(f.type,f.offset,Tryz.prog.cellsOf f.type))=[(9,0,1),(4,1,1),(9,2,1),(3,3,1),(3,4,1)]:=Option.some.inj hu
   obtain ⟨xs,n,_,_,hlen,_,hf⟩:=DataW.trod_struct hd h
   rw [cells27] at hlen
   have at_:∀ (i:Nat) (ty off:Nat),(fs.toList.map (fun f=>(f.type,f.offset,Tryz.prog.cellsOf f.type)))[i]?=some (ty,off,1)→∃ y,DataW.trod enc Tryz.prog W base sp held n ty ((cs.drop off).take 1)=some y:=by
    intro i ty off hi
    rw [List.getElem?_map] at hi
    obtain ⟨f,hfi,he⟩:=Option.map_eq_some_iff.1 hi
    simp only [Prod.mk.injEq] at he
    obtain ⟨rfl,rfl,h1⟩:=he
    have hq:=hf i f (by simpa using hfi)
    rw [h1] at hq
    have hix:i < xs.length:=by
     have h2:=(List.getElem?_eq_some_iff.1 hfi).1
     have h3:fs.toList.length=fs.size:=Array.length_toList
     omega
    exact ⟨xs[i],by rw [hq,List.getElem?_eq_getElem hix]⟩
   rw [hu] at at_
   match cs,hlen with
   |[c0,c1,c2,c3,c4],_=>
    obtain ⟨y0,h0⟩:=at_ 0 _ _ rfl
    obtain ⟨y1,h1⟩:=at_ 1 _ _ rfl
    obtain ⟨y2,h2⟩:=at_ 2 _ _ rfl
    obtain ⟨y3,h3⟩:=at_ 3 _ _ rfl
    obtain ⟨y4,h4⟩:=at_ 4 _ _ rfl
    obtain ⟨a0,e0,_⟩:=DataW.trod_string Tryz.underlying9 h0
    obtain ⟨a1,e1,_⟩:=DataW.trod_bool Tryz.underlying4 h1
    obtain ⟨a2,e2,_⟩:=DataW.trod_string Tryz.underlying9 h2
    obtain ⟨a3,e3,_⟩:=DataW.trod_int Tryz.underlying3 h3
    obtain ⟨a4,e4,_⟩:=DataW.trod_int Tryz.underlying3 h4
    injection e0 with e0;injection e1 with e1;injection e2 with e2;injection e3 with e3;injection e4 with e4
    subst e0;subst e1;subst e2;subst e3;subst e4
    exact ⟨⟨a0,a1,a2,a3,a4⟩,k27_mk W ⟨a0,a1,a2,a3,a4⟩⟩
  |_=>cases hu
theorem open_rows {H:Type} {enc:TypeId×Value→H} {W:World} {base:Nat} {sp:Nat→Bool} {held:Bool} {v:Value} {d:DataW H} {ps:List MemPlace} (hv:v.cells=#[v]) (h:DataW.Trod enc Tryz.prog W base sp held 22 v d ps):
  ∃ (A:Option Addr) (c:Nat) (l:List (List S27)),v=.slice A l.length c∧l.length≤c∧Kd.C (Kd.slice 27 k27) W A l.length l:=by
 obtain ⟨fuel,h⟩:=h
 rw [hv] at h
 obtain ⟨l,A,c,he,h1,h2⟩:=K_of_trod (Kd.slice 27 k27) Tryz.underlying22 cells28 (fun n cs x _ hx=>K_of_trod k27 Tryz.underlying28 cells27 (fun n cs x _ hx=>open_cell hx) hx) h
 refine ⟨A,c,l,?_,h1,h2⟩
 injection he
end Go.Proofs.YtbheflncgmhadaaGreat.Hand
namespace Go.Proofs.YtbheflncgmhadaaGreat.Hand
open Go.RowKit
open Go.ChangeShapes Go.WideShapes
set_option maxRecDepth 1000000
theorem cells_u8 {P:Program} {w:World} {g n:Nat} {t u:TypeId} (h:w.ShapedOpen P) (hg:g < P.globals.size) (h0:((begin P (fun _ _=>0) default).world.heap[g]?.bind Obj.row?).map (fun x=>(x.1.size,x.2))=some (n,t))
  (hb:P.buildable t=true) (hc:P.cellTypes P.depth t=some (List.replicate n u)) (hu:P.underlying u=some (.int .u8)) (c:Nat) (hcn:c < n):∃ m,w.cell? ⟨g,c,none⟩=some (.int .u8 m):=by
 obtain ⟨⟨zero,t'⟩,h1,h2⟩:=Option.map_eq_some_iff.1 h0
 simp only [Prod.mk.injEq] at h2
 obtain ⟨hz,rfl⟩:=h2
 obtain ⟨cs,hh,hs,hr⟩:=h.1 g zero t' hg h1
 obtain ⟨ts,hts,_,hall⟩:=hr hb
 rw [hc] at hts
 cases hts
 have hlt:c < cs.size:=by omega
 obtain ⟨v,hv',hok⟩:=hall c cs[c] (by simp [hlt])
 have:v=u:=by
  rw [List.getElem?_replicate] at hv'
  split at hv'
  ·exact (Option.some.inj hv').symm
  ·cases hv'
 subst this
 have hcell:w.cell? ⟨g,c,none⟩=some cs[c]:=by simp [World.cell?,hh,hlt]
 rw [hcell]
 unfold Cell.ok at hok
 rw [hu] at hok
 cases hv:cs[c] <;> rw [hv] at hok <;> simp at hok
 case int k' n=>exact ⟨n,by rw [hok.1]⟩
theorem table_of {w:World} {g:Nat} (h:∀ c,c < 256→∃ m,w.cell? ⟨g,c,none⟩=some (.int .u8 m)):∃ tab:Nat→Int,∀ c:Nat,c < 128→w.cell? ⟨g,c,none⟩=some (.int .u8 (tab c)):=by
 classical
 refine ⟨fun c=>if hc:∃ m,w.cell? ⟨g,c,none⟩=some (.int .u8 m) then Classical.choose hc else 0,fun c hc=>?_⟩
 have hm:=h c (by omega)
 simp only [dif_pos hm]
 exact Classical.choose_spec hm
theorem globals_some:0 < Tryz.prog.globals.size:=of_decide_eq_true (by kernel_rfl)
theorem row0:((begin Tryz.prog (fun _ _=>0) default).world.heap[0]?.bind Obj.row?).map (fun x=>(x.1.size,x.2))=some (256,290):=by kernel_rfl
theorem build0:Tryz.prog.buildable 290=true:=by kernel_rfl
theorem cells0:Tryz.prog.cellTypes Tryz.prog.depth 290=some (List.replicate 256 5):=by kernel_rfl
theorem space_any (w:World) (h:w.ShapedOpen Tryz.prog):∃ tab:Nat→Int,∀ c:Nat,c < 128→w.cell? ⟨0,c,none⟩=some (.int .u8 (tab c)):=
 table_of (w:=w) (g:=0) (fun c hc=>cells_u8 h globals_some row0 build0 cells0 Tryz.underlying5 c hc)
theorem fields24:(Tryz.prog.underlying 24).bind (fun d=>match d with|.struct fs=>some (fs.toList.map fun f=>(f.type,f.offset,Tryz.prog.cellsOf f.type))|_=>none)=some [(3,0,1),(4,1,1),(4,2,1),(4,3,1),(4,4,1),(4,5,1)]:=by kernel_rfl
theorem cells24:Tryz.prog.cellsOf 24=6:=by kernel_rfl
theorem open_opts {H:Type} {enc:TypeId×Value→H} {W:World} {base:Nat} {sp:Nat→Bool} {v:Value} {d:DataW H} {ps:List MemPlace} (hval:Value.okWide Tryz.prog W .any base 24 v) (h:DataW.Trod enc Tryz.prog W 0 sp true 24 v d ps):
  ∃ (p:Int) (k m pr sk ps:Bool),v=.agg #[.int .i64 p,.bool k,.bool m,.bool pr,.bool sk,.bool ps]:=by
 have hu:=fields24
 cases hd:Tryz.prog.underlying 24 with
 |none=>rw [hd] at hu;cases hu
 |some d=>
  rw [hd] at hu
  cases d with
  |struct fs=>
   have hu:fs.toList.map (fun f=>(f.type,f.offset,Tryz.prog.cellsOf f.type))=[(3,0,1),(4,1,1),(4,2,1),(4,3,1),(4,4,1),(4,5,1)]:=Option.some.inj hu
   obtain ⟨arr,rfl,harr⟩:=okWide_struct hd hval
   obtain ⟨fuel,h⟩:=h
   obtain ⟨xs,n,_,_,hlen,_,hf⟩:=DataW.trod_struct hd h
   rw [cells24] at hlen
   have at_:∀ (i:Nat) (ty off:Nat),(fs.toList.map (fun f=>(f.type,f.offset,Tryz.prog.cellsOf f.type)))[i]?=some (ty,off,1)→∃ y,DataW.trod enc Tryz.prog W 0 sp true n ty ((arr.toList.drop off).take 1)=some y:=by
    intro i ty off hi
    rw [List.getElem?_map] at hi
    obtain ⟨f,hfi,he⟩:=Option.map_eq_some_iff.1 hi
    simp only [Prod.mk.injEq] at he
    obtain ⟨rfl,rfl,h1⟩:=he
    have hq:=hf i f (by simpa using hfi)
    rw [h1] at hq
    have hix:i < xs.length:=by
     have h2:=(List.getElem?_eq_some_iff.1 hfi).1
     have h3:fs.toList.length=fs.size:=Array.length_toList
     omega
    exact ⟨xs[i],by rw [← List.getElem?_eq_getElem hix];exact hq⟩
   rw [hu] at at_
   have hlen:arr.toList.length=6:=hlen
   obtain ⟨cs,hcs⟩:∃ cs,arr.toList=cs:=⟨_,rfl⟩
   rw [hcs] at at_ hlen
   match cs,hlen,hcs with
   |[c0,c1,c2,c3,c4,c5],_,hcs=>
    obtain ⟨y0,h0⟩:=at_ 0 _ _ rfl
    obtain ⟨y1,h1⟩:=at_ 1 _ _ rfl
    obtain ⟨y2,h2⟩:=at_ 2 _ _ rfl
    obtain ⟨y3,h3⟩:=at_ 3 _ _ rfl
    obtain ⟨y4,h4⟩:=at_ 4 _ _ rfl
    obtain ⟨y5,h5⟩:=at_ 5 _ _ rfl
    obtain ⟨a0,e0,_⟩:=DataW.trod_int Tryz.underlying3 h0
    obtain ⟨a1,e1,_⟩:=DataW.trod_bool Tryz.underlying4 h1
    obtain ⟨a2,e2,_⟩:=DataW.trod_bool Tryz.underlying4 h2
    obtain ⟨a3,e3,_⟩:=DataW.trod_bool Tryz.underlying4 h3
    obtain ⟨a4,e4,_⟩:=DataW.trod_bool Tryz.underlying4 h4
    obtain ⟨a5,e5,_⟩:=DataW.trod_bool Tryz.underlying4 h5
    injection e0 with e0;injection e1 with e1;injection e2 with e2;injection e3 with e3;injection e4 with e4;injection e5 with e5
    subst e0;subst e1;subst e2;subst e3;subst e4;subst e5
    exact ⟨a0,a1,a2,a3,a4,a5,congrArg Value.agg (Array.ext' hcs)⟩
  |_=>cases hu
end Go.Proofs.YtbheflncgmhadaaGreat.Hand
namespace Go.Proofs.YtbheflncgmhadaaGreat.Hand
open Go.RowKit Go.Proofs.YtbheflncgmhadaaGreatW.PrintWords Go.Proofs.YtbheflncgmhadaaGreatW.PrintLast Go.Proofs.YtbheflncgmhadaaGreatW.PrintMore
attribute [local go_sem] run_store_func'
theorem sizeNode:(Tryz.prog.info? 33).map (·.size)=some 5:=by kernel_rfl
theorem infoNode:(Tryz.prog.info? 33).map (fun i=>(i.zero,i.size,i.bytes))=some (some (.agg #[.int .i64 0,.string ⟨#[]⟩,.string ⟨#[]⟩,.slice none 0 0,.slice none 0 0]),5,88):=by kernel_rfl
theorem tag_calls (w:World) (nm:ByteArray) (A:Option Addr) (l c:Nat):
  Calls Tryz.prog 8 #[.string nm,.slice A l c] w fun e w'=>e=.returned (.agg #[.int .i64 0,.string nm,.string ⟨#[]⟩,.slice none 0 0,.slice A l c])∧Below w.heap.size w w':=by
 go_enter Tryz.func8,Tryz.ntmps8
 go_wp2
 refine bodyPost_ret (results_single rfl (.cell w.heap.size _ _ (0,0) _ rfl (alloc_new _ _) Tryz.underlying33 rfl sizeNode .nil)) rfl ⟨rfl,(Below.refl _ _).alloc (Nat.le_refl _) _⟩
theorem text_calls (w:World) (s:ByteArray):
  Calls Tryz.prog 21 #[.string s] w fun e w'=>e=.returned (.agg #[.int .i64 1,.string ⟨#[]⟩,.string s,.slice none 0 0,.slice none 0 0])∧Below w.heap.size w w':=by
 go_enter Tryz.func21,Tryz.ntmps21
 go_wp2
 refine bodyPost_ret (results_single rfl (.cell w.heap.size _ _ (0,0) _ rfl (alloc_new _ _) Tryz.underlying33 rfl sizeNode .nil)) rfl ⟨rfl,(Below.refl _ _).alloc (Nat.le_refl _) _⟩
theorem doc_calls (w:World) (A:Option Addr) (l c:Nat):
  Calls Tryz.prog 7 #[.slice A l c] w fun e w'=>e=.returned (.agg #[.int .i64 3,.string ⟨#[]⟩,.string ⟨#[]⟩,.slice none 0 0,.slice A l c])∧Below w.heap.size w w':=by
 go_enter Tryz.func7,Tryz.ntmps7
 go_wp2
 refine bodyPost_ret (results_single rfl (.cell w.heap.size _ _ (0,0) _ rfl (alloc_new _ _) Tryz.underlying33 rfl sizeNode .nil)) rfl ⟨rfl,(Below.refl _ _).alloc (Nat.le_refl _) _⟩
theorem R_laid {α:Type} {d:Kd α} {e:TypeId} {W:World} {base:Nat} {okp ok:Nat→Prop} {xs:List α} {inner:List Value} (hrep:Reps (d.M W base okp) d.sz xs inner) (hok:∀ k,okp k→ok k) (hfresh:ok W.heap.size) (hbase:base≤W.heap.size) (hm:xs.length≤9223372036854775807):
  d.R e (W.alloc (.cells inner.toArray e)) base ok (.slice (some ⟨W.heap.size,0,none⟩) xs.length xs.length) xs:=by
 refine ⟨fun k hk=>?_,inner,?_,?_⟩
 ·have:W.heap.size=k:=by simpa [Value.ownBlock] using hk
  subst this
  exact hfresh
 ·have h2:=World.ownsRow_lit (base:=base) (e:=e) (size:=d.sz) W inner.toArray xs.length hbase (by simpa [maxLen] using hm) (by simpa using hrep.1)
  simpa using h2
 ·refine hrep.imp_ (fun p c hp=>d.M_mono (fun k hk=>⟨hok k hk.1,fun he=>?_⟩) (Kd.M_below (d.M_bound hp) (below_alloc (Below.refl _ _) _)))
  have h3:k=W.heap.size:=by simpa [Value.ownBlock] using he
  have:=hk.2.2.1
  omega
theorem pnM {α:Type} {d:Kd α} {w:World} {base:Nat} {ok:Nat→Prop} {x:PN α} {v:Value} (h:d.R 33 w base ok v x.kids):(pnK d).M w base ok x (pnHead x v):=⟨v,rfl,v,rfl,h⟩
theorem text_R (w:World) (s:ByteArray):kd1.R 33 (w.alloc (.cells #[.int .i64 1,.string ⟨#[]⟩,.string s,.slice none 0 0,.slice none 0 0] 33)) w.heap.size (fun _=>True) (.slice (some ⟨w.heap.size,0,none⟩) 1 1) [textP s]:=by
 have h1:kd1.M w w.heap.size (fun _=>True) (textP s) (pnHead (textP s) (.slice none 0 0)):=pnM (Kd.R_nil _ _ _ _ _)
 have h2:Reps (kd1.M w w.heap.size (fun _=>True)) kd1.sz [textP s] (pnHead (textP s) (.slice none 0 0)):=by
  have:=(Reps.none (kd1.M w w.heap.size (fun _=>True)) kd1.sz).snoc h1 rfl
  simpa using this
 exact R_laid h2 (fun _ _=>trivial) trivial (Nat.le_refl _) (Nat.le_of_lt_succ (by simp))
theorem first_of_two (w:World) (X Y:Obj):((w.alloc X).alloc Y).heap[w.heap.size]?=some X:=by
 have e1:=alloc_size w X
 rw [Below.heap_alloc _ _ w.heap.size (by omega)]
 exact alloc_new _ _
theorem two_lt (w:World) (X Y:Obj):w.heap.size < ((w.alloc X).alloc Y).heap.size:=by
 rw [alloc_size,alloc_size];omega
theorem two_below (w:World) (X Y:Obj):Below w.heap.size w ((w.alloc X).alloc Y):=((Below.refl _ w).alloc (Nat.le_refl _) _).alloc (by rw [alloc_size];omega) _
theorem five_cells {w:World} {b:Nat} {a0 a1 a2 a3 a4:Value} {T:TypeId} (h:w.heap[b]?=some (.cells #[a0,a1,a2,a3,a4] T (0,0))):w.cell? ⟨b,0,none⟩=some a0∧w.cell? ⟨b,1,none⟩=some a1∧w.cell? ⟨b,2,none⟩=some a2∧w.cell? ⟨b,3,none⟩=some a3∧w.cell? ⟨b,4,none⟩=some a4:=by
 refine ⟨?_,?_,?_,?_,?_⟩ <;> simp [World.cell?,h]
theorem heap_past {w:World} {b:Nat} {x:Obj} (o:Obj) (h:w.heap[b]?=some x):(w.alloc o).heap[b]?=some x:=(Below.heap_alloc _ _ b (heap_lt h)).trans h
theorem second_of_two (w:World) (X Y:Obj):((w.alloc X).alloc Y).heap[w.heap.size+1]?=some Y:=by
 rw [← alloc_size w X];exact alloc_new _ _
theorem two_lt2 (w:World) (X Y:Obj):w.heap.size+1 < ((w.alloc X).alloc Y).heap.size:=by
 rw [alloc_size,alloc_size];omega
theorem frozen_none {w:World} {b:Nat} {cs:Array Value} {T:TypeId} (h:w.heap[b]?=some (.cells cs T (0,0))) (j:Nat):w.frozen? ⟨b,j,none⟩=false:=by simp [World.frozen?,h]
theorem set_five {w:World} {g:Nat} {a0 a1 a2 a3 a4:Value} {T:TypeId} (h:w.heap[g]?=some (.cells #[a0,a1,a2,a3,a4] T (0,0))) (b0 b1 b2 b3 b4:Value):
  (((((w.setCell ⟨g,0,none⟩ b0).setCell ⟨g,1,none⟩ b1).setCell ⟨g,2,none⟩ b2).setCell ⟨g,3,none⟩ b3).setCell ⟨g,4,none⟩ b4).heap[g]?=some (.cells #[b0,b1,b2,b3,b4] T (0,0)):=by
 have hb:=heap_lt h
 simp [World.setCell,Array.getElem?_modify,h]
theorem below_get {w w':World} {b:Nat} {x:Obj} (hb:Below w.heap.size w w') (h:w.heap[b]?=some x):w'.heap[b]?=some x:=(hb.block b (heap_lt h)).trans h
theorem heap_far {w:World} {b g j:Nat} {v:Value} {x:Obj} (h:w.heap[b]?=some x) (hne:b≠g):(w.setCell ⟨g,j,none⟩ v).heap[b]?=some x:=by
 simp [World.setCell,Array.getElem?_modify,h,Ne.symm hne]
theorem set_far {w:World} {b g j:Nat} {v:Value} (hne:b≠g):(w.setCell ⟨g,j,none⟩ v).heap[b]?=w.heap[b]?:=by
 simp [World.setCell,Array.getElem?_modify,Ne.symm hne]
theorem heap_four {w:World} {g:Nat} {a0 a1 a2 a3 a4 v:Value} {T:TypeId} (h:w.heap[g]?=some (.cells #[a0,a1,a2,a3,a4] T (0,0))):(w.setCell ⟨g,4,none⟩ v).heap[g]?=some (.cells #[a0,a1,a2,a3,v] T (0,0)):=by
 simp [World.setCell,Array.getElem?_modify,h]
def cellV (x:CA):Value:=.agg #[.string x.text,.bool x.head,.string x.align,.int .i64 x.cols,.int .i64 x.rows]
theorem cell_calls (w:World) (x:CA) (ha:x.align.size=0) (hc:x.cols≤1) (hr:x.rows≤1):
  Calls Tryz.prog 13 #[cellV x] w fun e w'=>(∃ v,e=.returned (.agg #[.int .i64 0,.string x.nm,.string ⟨#[]⟩,.slice none 0 0,v])∧kd1.R 33 w' w.heap.size (fun _=>True) v (cellP x).kids)∧Below w.heap.size w w':=by
 obtain ⟨t,h,al,c,r⟩:=x
 obtain rfl:al=⟨#[]⟩:=by
  cases al with
  |mk d=>exact congrArg ByteArray.mk (Array.eq_empty_of_size_eq_zero ha)
 have d1:decide (1 < c)=false:=decide_eq_false (by simpa using hc)
 have d2:decide (1 < r)=false:=decide_eq_false (by simpa using hr)
 have p1:(1 < c)=False:=eq_false (by simpa using hc)
 have p2:(1 < r)=False:=eq_false (by simpa using hr)
 clear ha hc hr
 unfold cellV
 dsimp only
 have CT:=am (fun (w:World)=>tag_calls w nTd none 0 0)
 have CX:=am (fun w=>text_calls w t)
 by_cases h0:t.size=0
 ·obtain rfl:t=⟨#[]⟩:=by
   cases t with
   |mk d=>exact congrArg ByteArray.mk (Array.eq_empty_of_size_eq_zero h0)
  cases h
  all_goals
   go_enter Tryz.func13,Tryz.ntmps13
   go_wp2_with (go_at_call 8;fail)
   refine (CT.out _).mono ?_
   rintro e w1 ⟨rfl,hb1⟩
   have hq:=(hb1.block _ (two_lt _ _ _)).trans (first_of_two _ _ _)
   have HQ:=am hq
   have f0:=fun o=>(five_cells (heap_past o hq)).1
   have f1:=fun o=>(five_cells (heap_past o hq)).2.1
   have f2:=fun o=>(five_cells (heap_past o hq)).2.2.1
   have f3:=fun o=>(five_cells (heap_past o hq)).2.2.2.1
   have f4:=fun o=>(five_cells (heap_past o hq)).2.2.2.2
   have hy:=(hb1.block _ (two_lt2 _ _ _)).trans (second_of_two _ _ _)
   have HY:=am hy
   have g0:=fun o=>(five_cells (heap_past o hy)).1
   have g1:=fun o=>(five_cells (heap_past o hy)).2.1
   have g2:=fun o=>(five_cells (heap_past o hy)).2.2.1
   have g3:=fun o=>(five_cells (heap_past o hy)).2.2.2.1
   have g4:=fun o=>(five_cells (heap_past o hy)).2.2.2.2
   have z0:=fun o=>frozen_none (heap_past o hy) 0
   have z1:=fun o=>frozen_none (heap_past o hy) 1
   have z2:=fun o=>frozen_none (heap_past o hy) 2
   have z3:=fun o=>frozen_none (heap_past o hy) 3
   have z4:=fun o=>frozen_none (heap_past o hy) 4
   clear hq hy
   have HB1:=am ((two_below _ _ _).trans (hb1.mono (two_below _ _ _).size))
   clear hb1
   go_wp2
   refine bodyPost_ret (results_single rfl (.cell (w.heap.size+1) _ _ (0,0) _ rfl (set_five (heap_past _ HY.out) _ _ _ _ _) Tryz.underlying33 rfl sizeNode .nil)) rfl ⟨⟨_,rfl,Kd.R_nil _ _ _ _ _⟩,?_⟩
   exact (((((HB1.out.alloc HB1.out.size _).setCell (Nat.le_succ _) _).setCell (Nat.le_succ _) _).setCell (Nat.le_succ _) _).setCell (Nat.le_succ _) _).setCell (Nat.le_succ _) _
 ·have hne:(t.toList==[])=false:=by
   rw [ByteArray.toList_eq]
   cases ht:t.data.toList with
   |nil=>exact absurd (show t.data.size=0 by rw [← Array.length_toList,ht];rfl) h0
   |cons a b=>rfl
  have hnn:(t=⟨#[]⟩)=False:=eq_false (fun e=>h0 (by rw [e];rfl))
  cases h
  all_goals
   go_enter Tryz.func13,Tryz.ntmps13
   go_wp2_with (go_at_call 8;fail)
   refine (CT.out _).mono ?_
   rintro e w1 ⟨rfl,hb1⟩
   have hq:=below_get hb1 (first_of_two _ _ _)
   have HQ:=am hq
   have HY:=am (below_get hb1 (second_of_two _ _ _))
   have f0:=fun o=>(five_cells (heap_past o hq)).1
   have f1:=fun o=>(five_cells (heap_past o hq)).2.1
   have HB1:=am ((two_below _ _ _).trans (hb1.mono (two_below _ _ _).size))
   clear hb1 hq
   go_wp2_with (go_at_call 21;fail)
   refine (CX.out _).mono ?_
   rintro e w2 ⟨rfl,hb2⟩
   have hn:=below_get hb2 (alloc_new _ _)
   have hq:=below_get hb2 (heap_past _ HQ.out)
   have hy:=below_get hb2 (heap_past _ HY.out)
   have n1:w.heap.size≠w1.heap.size:=by have:=heap_lt HQ.out;omega
   have n2:w.heap.size+1≠w1.heap.size:=by have:=heap_lt HY.out;omega
   have n4:=fun o=>(five_cells (heap_past o hn)).2.2.2.2
   have zn4:=fun o=>frozen_none (heap_past o hn) 4
   have q2:=fun o v=>(five_cells (heap_far (j:=4) (v:=v) (heap_past o hq) n1)).2.2.1
   have q3:=fun o v=>(five_cells (heap_far (j:=4) (v:=v) (heap_past o hq) n1)).2.2.2.1
   have q4:=fun o v=>(five_cells (heap_far (j:=4) (v:=v) (heap_past o hq) n1)).2.2.2.2
   have g0:=fun o v=>(five_cells (heap_far (j:=4) (v:=v) (heap_past o hy) n2)).1
   have g1:=fun o v=>(five_cells (heap_far (j:=4) (v:=v) (heap_past o hy) n2)).2.1
   have g2:=fun o v=>(five_cells (heap_far (j:=4) (v:=v) (heap_past o hy) n2)).2.2.1
   have g3:=fun o v=>(five_cells (heap_far (j:=4) (v:=v) (heap_past o hy) n2)).2.2.2.1
   have g4:=fun o v=>(five_cells (heap_far (j:=4) (v:=v) (heap_past o hy) n2)).2.2.2.2
   have z0:=fun o v=>frozen_none (heap_far (j:=4) (v:=v) (heap_past o hy) n2) 0
   have z1:=fun o v=>frozen_none (heap_far (j:=4) (v:=v) (heap_past o hy) n2) 1
   have z2:=fun o v=>frozen_none (heap_far (j:=4) (v:=v) (heap_past o hy) n2) 2
   have z3:=fun o v=>frozen_none (heap_far (j:=4) (v:=v) (heap_past o hy) n2) 3
   have z4:=fun o v=>frozen_none (heap_far (j:=4) (v:=v) (heap_past o hy) n2) 4
   have b0:=fun o v=>(five_cells (heap_four (v:=v) (heap_past o hn))).1
   have b1:=fun o v=>(five_cells (heap_four (v:=v) (heap_past o hn))).2.1
   have b2:=fun o v=>(five_cells (heap_four (v:=v) (heap_past o hn))).2.2.1
   have b3:=fun o v=>(five_cells (heap_four (v:=v) (heap_past o hn))).2.2.2.1
   have b4:=fun o v=>(five_cells (heap_four (v:=v) (heap_past o hn))).2.2.2.2
   have HYY:=am hy
   have HN1:=am n2
   have HB2:=am ((HB1.out.alloc HB1.out.size _).trans (hb2.mono (HB1.out.alloc HB1.out.size _).size))
   have HSZ:=am (show w1.heap.size < w2.heap.size from heap_lt hn)
   have HW1:=am HB1.out.size
   clear hb2 hn hq hy n1 n2 f0 f1
   go_wp2
   refine bodyPost_ret (results_single rfl (.cell (w.heap.size+1) _ _ (0,0) _ rfl (set_five (heap_far (heap_past _ HYY.out) HN1.out) _ _ _ _ _) Tryz.underlying33 rfl sizeNode .nil)) rfl ⟨⟨_,rfl,?_⟩,?_⟩
   ·have hk:∀ hd:Bool,(cellP ⟨t,hd,⟨#[]⟩,c,r⟩).kids=[textP t]:=fun _=>if_neg h0
    rw [hk]
    refine Kd.R_mono (Kd.R_lower (Kd.R_step (Kd.R_mono (Kd.R_bound (text_R w2 t)) (ok':=fun k=>w2.heap.size≤k) fun k hk=>hk.2.1) fun k hk _=>?_) (Nat.le_trans HW1.out (Nat.le_of_lt HSZ.out))) (fun _ _=>trivial)
    have h1:=heap_lt HYY.out
    have h2:=HSZ.out
    rw [set_far (by omega),set_far (by omega),set_far (by omega),set_far (by omega),set_far (by omega),set_far (by omega)]
   ·exact ((((((HB2.out.alloc HB2.out.size _).setCell HW1.out _).setCell (Nat.le_succ _) _).setCell (Nat.le_succ _) _).setCell (Nat.le_succ _) _).setCell (Nat.le_succ _) _).setCell (Nat.le_succ _) _
end Go.Proofs.YtbheflncgmhadaaGreat.Hand
namespace Go.Proofs.YtbheflncgmhadaaGreat.Hand
open Go.RowKit Go.Proofs.YtbheflncgmhadaaGreatW.PrintWords Go.Proofs.YtbheflncgmhadaaGreatW.PrintLast Go.Proofs.YtbheflncgmhadaaGreatW.PrintMore
open Go.Proofs.YtbheflncgmhadaaGreat.PzzFits10
attribute [local go_sem] run_store_func'
theorem box_size (w:World) (o:Obj):w.heap.size≤(w.alloc o).drew.heap.size:=(below_drew ((Below.refl _ w).alloc (Nat.le_refl _) o)).size
theorem box_then {w w2:World} {o:Obj} (h:Below (w.alloc o).drew.heap.size (w.alloc o).drew w2):Below w.heap.size w w2:=(below_drew ((Below.refl _ w).alloc (Nat.le_refl _) o)).trans (h.mono (box_size w o))
theorem rows_calls (w:World) (A:Option Addr) (c:Nat) (l:List (List S27)) (hr:Kd.C (Kd.slice 27 k27) w A l.length l) (hc:l.length≤c) (hn:NeatS l):
  Calls Tryz.prog 6 #[.slice A l.length c] w fun e w'=>(∃ v,e=.returned v∧kd3.R 33 w' w.heap.size (fun _=>True) v ((cas l).map rowP))∧Below w.heap.size w w':=by
 have HR:=am hr
 have HN:=am hn
 have HL:=am hn.few
 have CT:=am (fun (w:World)=>tag_calls w nTr none 0 0)
 clear hr hn
 go_enter Tryz.func6,Tryz.ntmps6
 go_wp2
 go_loopg [3,11] l.length (fun gf v3 v11 wx=>∃ (i:Nat),v11=.int .i64 (i:Int)∧Aside0 (i≤l.length∧l.length - i=gf)∧Aside0 (kd3.R 33 wx w.heap.size (fun _=>True) v3 ((cas (l.take i)).map rowP))∧Aside0 (Below w.heap.size w wx))
 case atStart=>exact ⟨0,rfl,⟨by omega,by omega⟩,⟨Kd.R_nil _ _ _ _ _⟩,⟨Below.refl _ _⟩⟩
 case round=>
  obtain ⟨i,rfl,HP,HO,HB⟩:=hrel
  by_cases hi:i < l.length
  ·have hpp:=eq_true hi
   have hlt:decide ((i:Int) < (l.length:Int))=true:=decide_eq_true (by omega)
   obtain ⟨ad,A0,c0,rfl,k1,k2,k3⟩:=at_L4 (Kd.C_below HR.out HB.out) (i:Int) (by omega) (by omega)
   rw [Int.toNat_natCast] at k1
   obtain ⟨r,hrr⟩:∃ r,rd_L4 l (i:Int)=r:=⟨_,rfl⟩
   rw [hrr] at k1 k2 k3
   have K3:=am k3
   clear k3
   go_wp2_with (go_at_call 8;fail)
   refine (CT.out _).mono ?_
   rintro e w1 ⟨rfl,hb1⟩
   have HB1:=am (hb1.alloc hb1.size (.cells #[.int .i64 0,.string nTr,.string ⟨#[]⟩,.slice none 0 0,.slice none 0 0] 33))
   have HW1:=am hb1.size
   have HRN:=am (show ∀ x∈r,CellFine x from fun x hx=>HN.out.cell r (by
    rw [← hrr]
    unfold rd_L4
    rw [Int.toNat_natCast,List.getD_eq_getElem?_getD,List.getElem?_eq_getElem hi]
    exact List.getElem_mem hi) x hx)
   obtain ⟨tb,htb⟩:∃ tb,w1.heap.size=tb:=⟨_,rfl⟩
   have HTB:=am htb
   rw [htb] at HW1
   clear htb
   have HRL:=am (show r.length≤12 from (HN.out.row r (by
    rw [← hrr]
    unfold rd_L4
    rw [Int.toNat_natCast,List.getD_eq_getElem?_getD,List.getElem?_eq_getElem hi]
    exact List.getElem_mem hi)).2)
   have HRR:=am hrr
   obtain ⟨wo,hwo⟩:∃ wo,wr=wo:=⟨_,rfl⟩
   obtain ⟨B0,hB0⟩:∃ B0,wr.heap.size=B0:=⟨_,rfl⟩
   have HWO:=am hwo
   have HBB:=am hB0
   have HWL:=am (show w.heap.size≤B0 from by rw [← hB0];exact HB.out.size)
   have HBo:=am (show Below w.heap.size w wo from by rw [← hwo];exact HB.out)
   have HOB:=am (show ∀ w',Below B0 wo w'→kd3.R 33 w' w.heap.size (fun _=>True) u3 ((cas (l.take i)).map rowP) from fun w' hb=>by rw [← hB0,← hwo] at hb;exact Kd.R_below HO.out hb)
   have HOL:=am (show ∀ k,u3.ownBlock=some k→k < B0 from fun k hk=>by rw [← hB0];exact Kd.R_lt HO.out k hk)
   have HXL:=am (show (((cas (l.take i)).map rowP).length+1) * 88≤140737488355328 by
    have:=HL.out
    simp only [List.length_map,List.length_take]
    omega)
   have HI:=am hi
   have HTL:=am (show (cas (l.take (i+1))).map rowP=(cas (l.take i)).map rowP++[rowP (car r)] by
    have h1:l.take (i+1)=l.take i++[r]:=by
     rw [List.take_succ_eq_append_getElem hi,← hrr]
     unfold rd_L4
     rw [Int.toNat_natCast,List.getD_eq_getElem?_getD,List.getElem?_eq_getElem hi];rfl
    rw [h1]
    simp only [cas,List.map_append,List.map_cons,List.map_nil])
   have HWB:=am (show B0≤tb from by rw [← hB0];exact HW1.out)
   rw [hB0,hwo] at HB1
   have KB:=am (show ∀ w',Below B0 wo w'→Kd.C k27 w' A0 r.length r from fun w' hb=>by rw [← hB0,← hwo] at hb;exact Kd.C_below K3.out hb)
   clear hb1 hrr hi hwo hB0
   go_wp2
   rw [HTB.out]
   go_loopg [18] r.length (fun gf v18 wx=>∃ (j:Nat) (v:Value),v18=.int .i64 (j:Int)∧Aside0 (j≤r.length∧r.length - j=gf)∧Aside0 (wx.heap[tb]?=some (.cells #[.int .i64 0,.string nTr,.string ⟨#[]⟩,.slice none 0 0,v] 33 (0,0)))∧Aside0 (kd2.R 33 wx B0 (fun k=>k≠tb) v ((car (r.take j)).map cellP))∧Aside0 (Below B0 wo wx))
   case atStart=>exact ⟨0,_,rfl,⟨by omega,by omega⟩,⟨by rw [← HTB.out];exact alloc_new _ _⟩,⟨Kd.R_nil _ _ _ _ _⟩,HB1⟩
   case round=>
    obtain ⟨j,v,rfl,HPj,HT,HV,HBj⟩:=hrel
    obtain ⟨Av,cv,hv⟩:=Kd.R_slice HV.out
    obtain ⟨lv,hlv⟩:∃ lv,((car (r.take j)).map cellP).length=lv:=⟨_,rfl⟩
    rw [hlv] at hv
    subst hv
    clear hlv
    by_cases hj:j < r.length
    ·have hpp:=eq_true hj
     have hlt:decide ((j:Int) < (r.length:Int))=true:=decide_eq_true (by omega)
     obtain ⟨ad2,rfl,f0,f1,f2,f3,f4⟩:=at_T27 (KB.out _ HBj.out) (j:Int) (by omega) (by omega)
     rw [Int.toNat_natCast] at f0 f1 f2 f3 f4
     obtain ⟨x,hx⟩:∃ x,rd_T27 r (j:Int)=x:=⟨_,rfl⟩
     rw [hx] at f0 f1 f2 f3 f4
     have hxr:r[j]=x:=by
      rw [← hx]
      unfold rd_T27
      rw [Int.toNat_natCast,List.getD_eq_getElem?_getD,List.getElem?_eq_getElem hj];rfl
     have HTK:=am (show (car (r.take (j+1))).map cellP=(car (r.take j)).map cellP++[cellP (ca x)] by
      rw [List.take_succ_eq_append_getElem hj,hxr];simp [car])
     have hfine:=HRN.out x (by rw [← hxr];exact List.getElem_mem hj)
     have CC:=am (fun (w:World)=>cell_calls w (ca x) hfine.1 hfine.2.1 hfine.2.2.1)
     have HB0:=am (show B0≤wr.heap.size by rw [← HBB.out,HWO.out];exact HBj.out.size)
     have HLX:=am (show (((car (r.take j)).map cellP).length+1) * 88≤140737488355328 by
      have:=HRL.out
      simp only [List.length_map,List.length_take]
      omega)
     have HFR:=am (show ∀ k,wr.heap.size≤k→k≠tb from fun k hk=>by have:=heap_lt HT.out;omega)
     have HOK:=am (show ∀ k,wr.heap.size≤k→k≠tb∧some k≠(Value.slice Av lv cv).ownBlock from fun k hk=>⟨HFR.out k hk,fun e=>by have:=Kd.R_lt HV.out k e.symm;omega⟩)
     have HBT:=am (show B0≤tb from HWB.out)
     have HNT:=am (show some tb≠(Value.slice Av lv cv).ownBlock from fun e=>HV.out.1 tb e.symm rfl)
     have t4:=fun o=>(five_cells (heap_past o HT.out)).2.2.2.2
     have HJ:=am hj
     clear hj hx hxr hfine
     go_wp2_with (go_at_call 13;fail)
     have mixed:Tryz.prog.follows .mixedOrders=true:=by kernel_rfl
     go_region_law (first|(refine goes_ Tryz.func13 (by kernel_rfl) rfl #[.agg #[.string x.f0,.bool x.f1,.string x.f2,.int .i64 x.f3,.int .i64 x.f4]] (by rfl) rfl rfl (by first|rfl|simp [Act.eval,Act.put]) ?_;refine (CC.out _).mono ?_;rintro e w2 ⟨⟨v2,rfl,hR2⟩,hb2⟩;refine ⟨_,rfl,?_⟩;have hbw:=box_then hb2;have HBW:=am hbw;have HRC:=am (Kd.R_mono (Kd.R_bound hR2) (ok':=fun k=>wr.heap.size≤k) (fun k hk=>Nat.le_trans (box_size wr _) hk.2.1));have HTw:=am (below_get hbw HT.out);have t4b:=(five_cells HTw.out).2.2.2.2;have t4c:=fun o=>(five_cells (heap_past o HTw.out)).2.2.2.2;clear hR2 hb2 hbw)|(refine Kd.R_append_step kd2 (w0:=wo) B0 (by rfl) (.tmp 23) (.tmp 26) 29 33 (.agg #[.int .i64 0,.string ⟨#[]⟩,.string ⟨#[]⟩,.slice none 0 0,.slice none 0 0]) 88 rfl Tryz.underlying29 infoNode rfl (by decide) (by decide) (.slice Av lv cv) ((car (r.take j)).map cellP) (cellP (ca x)) (pnHead (cellP (ca x)) v2) (fun k=>k≠tb) (fun k=>wr.heap.size≤k) (by simp [Act.eval,Act.put]) (by simp [Act.eval,Act.put]) (pnM (Kd.R_lower HRC.out (Nat.le_trans HB0.out (box_size _ _)))) HOK.out (fun k hk=>HFR.out k (Nat.le_trans HBW.out.size hk)) (Kd.R_below HV.out HBW.out) (HBj.out.trans (HBW.out.mono HB0.out)) (Nat.le_trans HB0.out HBW.out.size) HLX.out ?_;intro v3 w3 hr3 hb3 hg3 hat3;obtain ⟨A3,c3,hv3⟩:=Kd.R_slice hr3;obtain ⟨l3,hl3⟩:∃ l3,((car (r.take j)).map cellP++[cellP (ca x)]).length=l3:=⟨_,rfl⟩;rw [hl3] at hv3;subst hv3;clear hl3;have HR3:=am hr3;have HB3:=am hb3;have HT3:=am (show w3.heap[tb]?=some (.cells #[.int .i64 0,.string nTr,.string ⟨#[]⟩,.slice none 0 0,.slice Av lv cv] 33 (0,0)) from (hg3.block tb (heap_lt HTw.out) HNT.out).trans HTw.out);have c4:=(five_cells HT3.out).2.2.2.2;have z4:=frozen_none HT3.out 4;clear hr3 hb3 hg3 hat3))
     all_goals
      go_wp2
      go_roundg (r.length - (j+1))
      case measure=>have:=HPj.out;have:=HJ.out;omega
      case rel=>
       have hw1:wrap64 ((j:Int)+1)=((j+1:Nat):Int):=by have:=HRL.out;have:=HJ.out;unfold wrap64;omega
       refine ⟨j+1,_,by rw [hw1],⟨by have:=HPj.out;have:=HJ.out;omega⟩,⟨heap_four HT3.out⟩,⟨?_⟩,⟨HB3.out.setCell HBT.out _⟩⟩
       rw [HTK.out]
       exact Kd.R_step HR3.out (fun k hk _=>set_far hk)
    ·have hlt:decide ((j:Int) < (r.length:Int))=false:=decide_eq_false (by omega)
     have hpp:=eq_false hj
     have hjr:j=r.length:=by have:=HPj.out;omega
     have hk:(car (r.take j)).map cellP=(rowP (car r)).kids:=by rw [hjr,List.take_length];rfl
     have hv2:=HV.out
     rw [hk] at hv2
     have HM:=am (pnM (x:=rowP (car r)) (Kd.R_lower (Kd.R_mono (Kd.R_bound hv2) (ok':=fun k=>B0≤k) (fun k hk=>hk.2.1)) HWL.out))
     have HOj:=am (HOB.out _ HBj.out)
     have HOK:=am (show ∀ k,B0≤k→True∧some k≠u3.ownBlock from fun k hk=>⟨trivial,fun e=>by have:=HOL.out k e.symm;omega⟩)
     have HBw:=am (HBo.out.trans (HBj.out.mono HWL.out))
     obtain ⟨t0,t1,t2,t3,t4⟩:=five_cells HT.out
     clear hj hjr hk hv2
     go_wp2_with (at_builtin;refine Kd.R_append kd3 (w0:=w) w.heap.size rfl (.tmp _) (.tmp _) 29 33 (.agg #[.int .i64 0,.string ⟨#[]⟩,.string ⟨#[]⟩,.slice none 0 0,.slice none 0 0]) 88 rfl Tryz.underlying29 infoNode rfl (by decide) (by decide) u3 ((cas (l.take i)).map rowP) (rowP (car r)) [.int .i64 0,.string nTr,.string ⟨#[]⟩,.slice none 0 0,.slice Av lv cv] (fun _=>True) (fun k=>B0≤k) rfl rfl HM.out HOK.out (fun _ _=>trivial) HOj.out HBw.out (below_size HBw.out) HXL.out ?_;intro v1 w4 ho1 hb1 hg1 hat1;have HR4:=am ho1;have HB4:=am hb1;clear ho1 hb1 hg1 hat1)
     go_roundg (l.length - (i+1))
     case measure=>have:=HP.out;have:=HI.out;omega
     case rel=>
      have hw1:wrap64 ((i:Int)+1)=((i+1:Nat):Int):=by have:=HL.out;have:=HI.out;unfold wrap64;omega
      refine ⟨i+1,by rw [hw1],⟨by have:=HP.out;have:=HI.out;omega⟩,⟨?_⟩,HB4⟩
      rw [HTL.out]
      exact HR4.out
  ·have hlt:decide ((i:Int) < (l.length:Int))=false:=decide_eq_false (by omega)
   have hpp:=eq_false hi
   have hil:i=l.length:=by have:=HP.out;omega
   have HO1:=HO.out
   rw [hil,List.take_length] at HO1
   have HO2:=am HO1
   clear hi HO1
   go_wp2
   go_ret
   exact ⟨⟨_,rfl,HO2.out⟩,HB.out⟩
theorem two_step {w w1:World} {o:Obj} (h:Below (w.alloc o).heap.size (w.alloc o) w1):Below w.heap.size w w1:=((Below.refl _ w).alloc (Nat.le_refl _) o).trans (h.mono ((Below.refl _ w).alloc (Nat.le_refl _) o).size)
theorem C_reps {α:Type} {d:Kd α} {w:World} {e:TypeId} {fr:Nat×Nat} {b:Nat} {xs:List α} {inner:List Value} (hb:w.heap[b]?=some (.cells inner.toArray e fr)) (h:Reps (d.K w) d.sz xs inner) (hm:xs.length≤9223372036854775807):d.C w (some ⟨b,0,none⟩) xs.length xs:=by
 refine ⟨rfl,hm,fun _=>⟨_,rfl,fun j p hj=>?_⟩⟩
 have hp:=h.2 j p hj
 refine ⟨_,d.K_len hp,hp,fun i u hi=>?_⟩
 have hi2:i < d.sz:=by
  have:=(List.getElem?_eq_some_iff.1 hi).1
  rwa [d.K_len hp] at this
 rw [List.getElem?_take,if_pos hi2,List.getElem?_drop] at hi
 rw [Addr.add_lit,Nat.zero_add]
 simpa [World.cell?,hb] using hi
theorem pnKK {α:Type} {d:Kd α} {w:World} {x:PN α} {A:Option Addr} {c:Nat} (hc:x.kids.length≤c) (h:d.C w A x.kids.length x.kids):(pnK d).K w x (pnHead x (.slice A x.kids.length c)):=⟨_,rfl,A,c,rfl,hc,h⟩
theorem C_one {α:Type} {d:Kd α} {w:World} {e:TypeId} {fr:Nat×Nat} {b:Nat} {x:α} {cs:List Value} (hb:w.heap[b]?=some (.cells cs.toArray e fr)) (h:d.K w x cs):d.C w (some ⟨b,0,none⟩) 1 [x]:=by
 have:=(Reps.none (d.K w) d.sz).snoc h (d.K_len h)
 exact C_reps (xs:=[x]) (inner:=cs) hb (by simpa using this) (Nat.le_of_lt_succ (by simp))
theorem C_three {α:Type} {d:Kd α} {w:World} {e:TypeId} {fr:Nat×Nat} {q:Nat} {x y z:α} {a b c:List Value} (hb:w.heap[q]?=some (.cells (a++(b++c)).toArray e fr)) (h:d.K w x a) (k:d.K w y b) (m:d.K w z c):d.C w (some ⟨q,0,none⟩) 3 [x,y,z]:=by
 have:=(((Reps.none (d.K w) d.sz).snoc h (d.K_len h)).snoc k (d.K_len k)).snoc m (d.K_len m)
 exact C_reps (xs:=[x,y,z]) (inner:=a++(b++c)) hb (by simpa using this) (Nat.le_of_lt_succ (by simp))
abbrev docV (kb:Nat):Value:=.agg #[.int .i64 3,.string ⟨#[]⟩,.string ⟨#[]⟩,.slice none 0 0,.slice (some ⟨kb,0,none⟩) 1 1]
abbrev DocK (w:World) (gs:List (ByteArray×List (List CA))) (kb:Nat):Prop:=kd6.K w (docP gs) (pnHead (docP gs) (.slice (some ⟨kb,0,none⟩) 1 1))
theorem doc_K {w:World} {gs:List (ByteArray×List (List CA))} {A:Option Addr} {c b:Nat} {fr:Nat×Nat} (hc:gs.length≤c) (h:kd4.C w A gs.length (gs.map groupP)) (hb:w.heap[b]?=some (.cells (pnHead (tableP gs) (.slice A gs.length c)).toArray 33 fr)):
  kd6.K w (docP gs) (pnHead (docP gs) (.slice (some ⟨b,0,none⟩) 1 1)):=by
 have hl:(tableP gs).kids.length=gs.length:=List.length_map ..
 have h5:kd5.K w (tableP gs) (pnHead (tableP gs) (.slice A gs.length c)):=by
  have:=pnKK (x:=tableP gs) (A:=A) (c:=c) (by rw [hl];exact hc) (by rw [hl];exact h)
  rwa [hl] at this
 exact pnKK (x:=docP gs) (A:=some ⟨b,0,none⟩) (c:=1) (Nat.le_refl _) (C_one hb h5)
theorem table_calls (w:World) (A:Option Addr) (c:Nat) (l:List (List S27)) (hr:Kd.C (Kd.slice 27 k27) w A l.length l) (hc:l.length≤c) (hn:NeatS l):
  Calls Tryz.prog 10 #[.slice A l.length c] w fun e w'=>(∃ kb,e=.returned (docV kb)∧DocK w' (oneG (cas l)) kb)∧Below w.heap.size w w':=by
 have CR:=am (fun (w':World) (hb:Below w.heap.size w w')=>rows_calls w' A c l (Kd.C_below hr hb) hc hn)
 have CT:=am (fun (w:World) nm A l c=>tag_calls w nm A l c)
 have CD:=am (fun (w:World) A l c=>doc_calls w A l c)
 clear hr hc hn
 go_enter Tryz.func10,Tryz.ntmps10
 go_wp2_with (go_at_call 6;fail)
 refine (CR.out _ ((Below.refl _ _).alloc (Nat.le_refl _) _)).mono ?_
 rintro e w1 ⟨⟨v,rfl,hR⟩,hb1⟩
 obtain ⟨A1,c1,hv⟩:=Kd.R_slice hR
 obtain ⟨n,hn⟩:∃ n,((cas l).map rowP).length=n:=⟨_,rfl⟩
 rw [hn] at hv
 subst hv
 have HLN:=am hn
 clear hn
 have HR1:=am hR
 have HB1:=am hb1
 have HX1:=am (below_get hb1 (alloc_new _ _))
 clear hR hb1 CR
 go_wp2_with (go_at_call 8;fail)
 refine (CT.out _ _ _ _ _).mono ?_
 rintro e w2 ⟨rfl,hb2⟩
 have HB2:=am hb2
 clear hb2
 go_wp2_with (go_at_call 8;fail)
 refine (CT.out _ _ _ _ _).mono ?_
 rintro e w3 ⟨rfl,hb3⟩
 have HB3:=am hb3
 clear hb3
 go_wp2_with (go_at_call 7;fail)
 refine (CD.out _ _ _ _).mono ?_
 rintro e w4 ⟨rfl,hb4⟩
 have hX:=below_get hb4 (heap_past (.cells #[.int .i64 0,.string nTable,.string ⟨#[]⟩,.slice none 0 0,.slice (some ⟨w2.heap.size,0,none⟩) 1 1] 33) (below_get HB3.out (heap_past (.cells #[.int .i64 0,.string nTbody,.string ⟨#[]⟩,.slice none 0 0,.slice A1 n c1] 33) (below_get HB2.out HX1.out))))
 have HX:=am hX
 have HA:=am (below_get hb4 (heap_past (.cells #[.int .i64 0,.string nTable,.string ⟨#[]⟩,.slice none 0 0,.slice (some ⟨w2.heap.size,0,none⟩) 1 1] 33) (below_get HB3.out (alloc_new w2 (.cells #[.int .i64 0,.string nTbody,.string ⟨#[]⟩,.slice none 0 0,.slice A1 n c1] 33)))))
 have HT:=am (below_get hb4 (alloc_new w3 (.cells #[.int .i64 0,.string nTable,.string ⟨#[]⟩,.slice none 0 0,.slice (some ⟨w2.heap.size,0,none⟩) 1 1] 33)))
 have HRR:=am (Kd.R_below (Kd.R_below (Kd.R_below (Kd.R_below (Kd.R_below HR1.out HB2.out) ((Below.refl _ w2).alloc (Nat.le_refl _) _)) HB3.out) ((Below.refl _ w3).alloc (Nat.le_refl _) _)) hb4)
 have b1:=(two_step HB1.out)
 have b2:=b1.trans (HB2.out.mono b1.size)
 have b3:=(b2.alloc b2.size (.cells #[.int .i64 0,.string nTbody,.string ⟨#[]⟩,.slice none 0 0,.slice A1 n c1] 33))
 have b4:=b3.trans (HB3.out.mono b3.size)
 have b5:=(b4.alloc b4.size (.cells #[.int .i64 0,.string nTable,.string ⟨#[]⟩,.slice none 0 0,.slice (some ⟨w2.heap.size,0,none⟩) 1 1] 33))
 have HBB:=am (b5.trans (hb4.mono b5.size))
 have HS2:=am (show w.heap.size < w2.heap.size from heap_lt (below_get HB2.out HX1.out))
 have HS3:=am (show w.heap.size < w3.heap.size from heap_lt (below_get HB3.out (heap_past _ (below_get HB2.out HX1.out))))
 obtain ⟨g0,g1,g2,g3,g4⟩:=five_cells hX
 have z0:=frozen_none hX 0
 have z1:=frozen_none hX 1
 have z2:=frozen_none hX 2
 have z3:=frozen_none hX 3
 have z4:=frozen_none hX 4
 clear hb4 hX b1 b2 b3 b4 b5
 go_wp2
 refine bodyPost_ret (results_single rfl (.cell w.heap.size _ _ (0,0) _ rfl (set_five HX.out _ _ _ _ _) Tryz.underlying33 rfl sizeNode .nil)) rfl ⟨⟨_,rfl,?_⟩,?_⟩
 ·obtain ⟨F,hF⟩:∃ F,((((w4.setCell ⟨w.heap.size,0,none⟩ (.int .i64 3)).setCell ⟨w.heap.size,1,none⟩ (.string ⟨#[]⟩)).setCell ⟨w.heap.size,2,none⟩ (.string ⟨#[]⟩)).setCell ⟨w.heap.size,3,none⟩ (.slice none 0 0)).setCell ⟨w.heap.size,4,none⟩ (.slice (some ⟨w3.heap.size,0,none⟩) 1 1)=F:=⟨_,rfl⟩
  rw [hF]
  have hfar:∀ (k:Nat),k≠w.heap.size→F.heap[k]?=w4.heap[k]?:=fun k hk=>by
   rw [← hF,set_far hk,set_far hk,set_far hk,set_far hk,set_far hk]
  have hR:=Kd.R_step (Kd.R_mono (Kd.R_bound HRR.out) (ok':=fun k=>k≠w.heap.size) (fun k hk=>by
   have:=hk.2.1
   rw [alloc_size] at this
   omega)) (fun k hk _=>hfar k hk)
  obtain ⟨hlen,hle,hC⟩:=Kd.R_reads' hR
  have hg:kd4.K F (groupP (nTbody,cas l)) (pnHead (groupP (nTbody,cas l)) (.slice A1 n c1)):=by
   have h1:=pnKK (d:=kd3) (w:=F) (x:=groupP (nTbody,cas l)) (A:=A1) (c:=c1) (by rw [show (groupP (nTbody,cas l)).kids.length=n from HLN.out];exact hle) (by rw [show (groupP (nTbody,cas l)).kids.length=n from HLN.out,hlen];exact hC)
   rwa [show (groupP (nTbody,cas l)).kids.length=n from HLN.out] at h1
  exact doc_K (gs:=oneG (cas l)) (Nat.le_refl _) (C_one ((hfar _ (by have:=HS2.out;omega)).trans HA.out) hg) ((hfar _ (by have:=HS3.out;omega)).trans HT.out)
 ·exact ((((HBB.out.setCell (Nat.le_refl _) _).setCell (Nat.le_refl _) _).setCell (Nat.le_refl _) _).setCell (Nat.le_refl _) _).setCell (Nat.le_refl _) _
end Go.Proofs.YtbheflncgmhadaaGreat.Hand
namespace Go.Proofs.YtbheflncgmhadaaGreat.Hand
open Go.RowKit Go.Proofs.YtbheflncgmhadaaGreatW.PrintWords Go.Proofs.YtbheflncgmhadaaGreatW.PrintLast Go.Proofs.YtbheflncgmhadaaGreatW.PrintMore
attribute [local go_sem] run_store_func'
theorem newBase_any (w:World):Calls Tryz.prog 17 #[] w fun e w'=>∃ bs,e=.returned (.iface 71 (.pointer (some ⟨bs,0,none⟩)))∧w.heap.size≤bs∧w'.heap[bs]?=some (.cells #[] 70 (0,0))∧Below w.heap.size w w':=by
 go_enter Tryz.func17,Tryz.ntmps17
 go_wp2
 go_ret
 exact ⟨_,rfl,Nat.le_refl _,alloc_new _ _,(Below.refl _ _).alloc (Nat.le_refl _) _⟩
theorem withPlugins_any (w:World) (A:Option Addr) (l c:Nat):Calls Tryz.prog 25 #[.slice A l c] w fun e w'=>∃ r,e=.returned (.func (.func 39) #[] #[.pointer (some ⟨r,0,none⟩)])∧w.heap.size≤r∧w'.heap[r]?=some (.cells #[.slice A l c] 50 (0,0))∧Below w.heap.size w w':=by
 have hmf:∀ (fn:Fn) (first cap:Array Value) (w:World),(Instr.makeFunc fn first cap).run Tryz.prog w=.ok (.func fn first cap) w:=fun _ _ _ _=>rfl
 go_enter Tryz.func25,Tryz.ntmps25
 go_wp2
 go_ret
 exact ⟨_,rfl,Nat.le_refl _,alloc_new _ _,(Below.refl _ _).alloc (Nat.le_refl _) _⟩
def litT (b:ByteArray):Vx.Txt:=[.lit b.data.toList]
theorem den_lit (b:ByteArray):Vx.den Vx.atomsN (litT b)=b.data.toList:=by simp [litT,Vx.den]
theorem bytes_eq {a b:ByteArray} (h:a.data.toList=b.data.toList):a=b:=by
 cases a;cases b
 exact congrArg ByteArray.mk (Array.ext' h)
theorem tp_sits {w:World} {tp:Nat} {sp nl pd:ByteArray} {sk pr ps:Bool} (h:w.heap[tp]?=some (tpObj sp nl sk pr ps pd)):Vx.Sits w [] tp 168 (Vx.tpCells (litT sp) (litT nl) (litT pd) sk pr ps):=
 ⟨_,h,_,_,rfl,rfl,_,_,rfl,⟨sp,rfl,(den_lit sp).symm⟩,_,_,rfl,⟨nl,rfl,(den_lit nl).symm⟩,_,_,rfl,rfl,_,_,rfl,rfl,_,_,rfl,rfl,_,_,rfl,⟨pd,rfl,(den_lit pd).symm⟩,rfl⟩
theorem sits_plug {w:World} {tp:Nat} {po:PO} (h:Vx.Sits w [] tp 168 (Vx.tpCells (litT po.span) (litT po.lines) (litT po.pad) po.skip po.promote po.pres)):PlugAt w tp po:=by
 obtain ⟨c,h0,v0,r0,e0,_,v1,r1,rfl,⟨s1,rfl,q1⟩,v2,r2,rfl,⟨s2,rfl,q2⟩,v3,r3,rfl,p3,v4,r4,rfl,p4,v5,r5,rfl,p5,v6,r6,rfl,⟨s6,rfl,q6⟩,h7⟩:=h
 have h7:r6=[]:=h7
 have p3:v3=.bool po.skip:=p3
 have p4:v4=.bool po.promote:=p4
 have p5:v5=.bool po.pres:=p5
 subst h7;subst p3;subst p4;subst p5
 obtain rfl:s1=po.span:=bytes_eq (q1.trans (den_lit _))
 obtain rfl:s2=po.lines:=bytes_eq (q2.trans (den_lit _))
 obtain rfl:s6=po.pad:=bytes_eq (q6.trans (den_lit _))
 have hc:c=#[v0,.string po.span,.string po.lines,.bool po.skip,.bool po.promote,.bool po.pres,.string po.pad]:=Array.ext' e0
 subst hc
 exact ⟨by simp [World.cell?,h0],by simp [World.cell?,h0],by simp [World.cell?,h0],by simp [World.cell?,h0],by simp [World.cell?,h0],by simp [World.cell?,h0]⟩
theorem Sits_get {w w':World} {b:Nat} {e:TypeId} {cs:List Vx.LV} (hb:∀ x,w.heap[b]?=some x→w'.heap[b]?=some x) (h:Vx.Sits w [] b e cs):Vx.Sits w' [] b e cs:=by
 obtain ⟨c,h1,h2⟩:=h
 exact ⟨c,hb _ h1,h2⟩
theorem PlugAt.keep {w w':World} {tp:Nat} {po:PO} (hb:Below w.heap.size w w') (h:PlugAt w tp po):PlugAt w' tp po:=⟨cell_keep hb h.span,cell_keep hb h.lines,cell_keep hb h.skip,cell_keep hb h.promote,cell_keep hb h.pres,cell_keep hb h.pad⟩
structure GsOk (gs:List (ByteArray×List (List CA))):Prop where
 head:HeadOk gs
 nm:∀ g∈gs,GroupNm g.1
 few:gs.length≤3
 neat:Neat (gs.flatMap (·.2))
theorem converted_calls {w0 w:World} (h0:Below w0.heap.size w0 w) {gs:List (ByteArray×List (List CA))} {kb:Nat} (hK:DocK w0 gs kb) (hG:GsOk gs) {tab:Nat→Int} (hs:∀ c:Nat,c < 128→w0.cell? ⟨0,c,none⟩=some (.int .u8 (tab c)))
  {po:PO} {al bl:Bool} {cm tp bs r3:Nat} (hcm:Vx.Sits w [] cm 82 Vx.cmCells) (htp:w.heap[tp]?=some (tpObj po.span po.lines po.skip po.promote po.pres po.pad)) (hbs:w.heap[bs]?=some (.cells #[] 70 (0,0)))
  (hr3:w.heap[r3]?=some (.cells #[.iface 71 (.pointer (some ⟨bs,0,none⟩)),.iface 83 (.pointer (some ⟨cm,0,none⟩)),.iface 166 (.pointer (some ⟨tp,0,none⟩))] 46 (0,0)))
  (hlow:w0.heap.size≤cm∧w0.heap.size≤tp∧w0.heap.size≤bs∧w0.heap.size≤r3) (hd:[cm,tp,bs,r3].Nodup) (hpi:PadIs po.pad al bl):
  Calls Tryz.prog 16 #[docV kb,.bool false,.slice (some ⟨r3,0,none⟩) 3 3] w fun e w'=>e=.returned (.tuple #[.string ⟨(postT tab (tableOut po al bl tab (gs.flatMap (·.2)))).toArray⟩,.bool true])∧Below w0.heap.size w0 w':=by
 have H0:=am h0
 have HK:=am hK
 have HG:=am hG
 have HS:=am hs
 have HCM:=am hcm
 have HTP:=am htp
 have HBS:=am hbs
 have HR3:=am hr3
 have HLOW:=am hlow
 have HND:=am hd
 have HPI:=am hpi
 have CW:=am (fun (w:World) A l c=>withPlugins_any w A l c)
 have mixed:Tryz.prog.follows .mixedOrders=true:=by kernel_rfl
 clear h0 hK hs hcm htp hbs hr3 hlow hd hpi hG
 go_enter Tryz.func16,Tryz.ntmps16
 go_wp2_with (go_at_call 25;fail)
 refine (CW.out _ _ _ _).mono ?_
 rintro e w1 ⟨r4,rfl,hr4,hx4,hb1⟩
 obtain ⟨W,hW⟩:∃ W,w1.alloc (.cells #[.func (.func 39) #[] #[.pointer (some ⟨r4,0,none⟩)]] 58)=W:=⟨_,rfl⟩
 have lift:∀ {b:Nat} {x:Obj},w.heap[b]?=some x→W.heap[b]?=some x:=fun h=>by rw [← hW];exact heap_past _ (below_get hb1 (heap_past _ h))
 have hb0:=two_step hb1
 have hbW:Below w.heap.size w W:=by rw [← hW];exact hb0.alloc hb0.size _
 have HBW:=am (H0.out.trans (hbW.mono H0.out.size))
 have hnb:W.heap[w.heap.size]?=some (.cells #[.int .i64 3,.string ⟨#[]⟩,.string ⟨#[]⟩,.slice none 0 0,.slice (some ⟨kb,0,none⟩) 1 1] 33 (0,0)):=by rw [← hW];exact heap_past _ (below_get hb1 (alloc_new _ _))
 have h4W:W.heap[r4]?=some (.cells #[.slice (some ⟨r3,0,none⟩) 3 3] 50 (0,0)):=by rw [← hW];exact heap_past _ hx4
 have h5W:W.heap[w1.heap.size]?=some (.cells #[.func (.func 39) #[] #[.pointer (some ⟨r4,0,none⟩)]] 58 (0,0)):=by rw [← hW];exact alloc_new _ _
 have h4:w.heap.size+1≤r4:=by rw [alloc_size] at hr4;exact hr4
 have h5:r4 < w1.heap.size:=heap_lt hx4
 obtain ⟨l1,l2,l3,l4⟩:=HLOW.out
 have c1:cm < w.heap.size:=by obtain ⟨c,h,_⟩:=HCM.out;exact heap_lt h
 have c2:=heap_lt HTP.out
 have c3:=heap_lt HBS.out
 have c4:=heap_lt HR3.out
 have CC:=am (Vx.newConverter_calls (w:=W) (base:=w0.heap.size) (nb:=w.heap.size) (kb:=kb) (Sits_get (fun _=>lift) HCM.out) (tp_sits (lift HTP.out)) (lift HBS.out) (lift HR3.out) h4W h5W hnb ⟨l1,l2,l3,l4,by have:=H0.out.size;omega,by have:=H0.out.size;omega,H0.out.size⟩ (by
  have:=HND.out
  simp only [List.nodup_cons,List.mem_cons,List.not_mem_nil,or_false,not_or,not_false_eq_true,List.nodup_nil,and_true] at this ⊢
  omega))
 clear lift hb0 hbW hnb h4W h5W h4 h5 l1 l2 l3 l4 c1 c2 c3 c4 hb1 hx4 hr4
 go_wp2_with (go_at_call 24;fail)
 clear hW
 refine CC.out.mono ?_
 rintro e w2 ⟨C,rfl,hb2,hsz,hq,hst,hnb⟩
 have HB2:=am (HBW.out.trans hb2)
 have HQ:=am hq
 have HST:=am hst
 obtain ⟨n0,n1,n2,n3,n4⟩:=five_cells hnb
 have CM:=am (made_doc_calls w2 gs HG.out.nm _ (kd6.K_below HB2.out HK.out))
 clear hb2 hq hst hnb hsz CC
 go_wp2_with (go_at_call 28;fail)
 refine CM.out.mono ?_
 rintro e w3 ⟨t,rfl,hdoc,hda,hnd,hlt,hb3⟩
 have HB3:=am (HB2.out.trans (hb3.mono HB2.out.size))
 have CN:=am (convDoc_calls (w:=w3) (po:=po) (al:=al) (bl:=bl) (tab:=tab) (C:=C) (cm:=cm) (tp:=tp) (bs:=bs) (fun w' hb=>HQ.out w' (hb3.trans (hb.mono hb3.size))) ((sits_plug HST.out).keep hb3) HPI.out (fun c hc=>cell_keep HB3.out (HS.out c hc)) HG.out.head HG.out.nm HG.out.few HG.out.neat hdoc hda hnd hlt)
 clear hdoc hda hnd hlt hb3 CM n0 n1 n2 n3 n4
 go_wp2_with (go_at_call 27;fail)
 refine CN.out.mono ?_
 rintro e w4 ⟨⟨A,c,rfl,hC⟩,hb4⟩
 have HB4:=am (HB3.out.trans (hb4.mono HB3.out.size))
 obtain ⟨txt,htxt⟩:∃ txt,postT tab (tableOut po al bl tab (gs.flatMap (·.2)))=txt:=⟨_,rfl⟩
 rw [htxt] at hC ⊢
 have HTX:=am htxt
 have hcv:=string_of_reads (P:=Tryz.prog) (w:=w4.drew) (c:=c) Tryz.underlying62 Tryz.underlying5 Tryz.underlying9 (Kd.reads_of_C (d:=(0:Int)) hC)
 rw [show strOfNums (bytesI txt)=⟨txt.toArray⟩ from strOf_bytesI ⟨txt.toArray⟩,bytesI_length] at hcv
 clear hC hb4 htxt CN
 go_wp2
 go_region
 all_goals
  go_wp2
  go_ret2
  rw [HTX.out]
  exact ⟨rfl,below_drew HB4.out⟩
structure SaveFor (w w':World) (S:Nat→Prop):Prop where
 os:w'.os=w.os
 tape:w'.tape=w.tape
 output:w'.output=w.output
 size:w.heap.size≤w'.heap.size
 block:∀ k,k < w.heap.size→¬ S k→w'.heap[k]?=w.heap[k]?
def optsV (p:Int) (k m pr sk ps:Bool):Value:=.agg #[.int .i64 p,.bool k,.bool m,.bool pr,.bool sk,.bool ps]
abbrev poOf (p:Int) (k m pr sk ps:Bool):PO:=⟨if m then bMirror else bEmpty,if k then bPreserve else bEmpty,sk,pr,ps,padOut p,fun _=>True⟩
theorem padIs (p:Int):∃ al bl,PadIs (padOut p) al bl:=by
 unfold padOut
 split
 ·exact ⟨_,_,.inr (.inl ⟨rfl,rfl,rfl⟩)⟩
 ·split
  ·exact ⟨_,_,.inr (.inr ⟨rfl,rfl,rfl⟩)⟩
  ·exact ⟨_,_,.inl ⟨rfl,rfl,rfl⟩⟩
theorem opts_cells {w:World} {b:Nat} {a0 a1 a2 a3 a4 a5:Value} {T:TypeId} (h:w.heap[b]?=some (.cells #[a0,a1,a2,a3,a4,a5] T (0,0))):w.cell? ⟨b,0,none⟩=some a0∧w.cell? ⟨b,1,none⟩=some a1∧w.cell? ⟨b,2,none⟩=some a2∧w.cell? ⟨b,3,none⟩=some a3∧w.cell? ⟨b,4,none⟩=some a4∧w.cell? ⟨b,5,none⟩=some a5:=by
 refine ⟨?_,?_,?_,?_,?_,?_⟩ <;> simp [World.cell?,h]
theorem below_two {N:Nat} {w w1 w2:World} (h:Below N w w1) (k:Below w1.heap.size w1 w2) (hN:N≤w.heap.size):Below N w w2:=h.trans (k.mono (Nat.le_trans hN h.size))
theorem conv_any {w wA wB wC:World} {gs:List (ByteArray×List (List CA))} {kb bs cm tp:Nat} {p:Int} {k m pr sk ps al bl:Bool} {tab:Nat→Int} (kA:Below w.drew.heap.size w.drew wA) (kB:Below wA.heap.size wA wB) (kC:Below wB.heap.size wB wC) (hK:DocK w gs kb) (hG:GsOk gs) (hs:∀ c:Nat,c < 128→w.cell? ⟨0,c,none⟩=some (.int .u8 (tab c))) (hpi:PadIs (padOut p) al bl)
  (hbs:w.drew.heap.size≤bs) (hA:wA.heap[bs]?=some (.cells #[] 70 (0,0))) (hcm:wA.heap.size≤cm) (hB:Vx.Sits wB [] cm 82 Vx.cmCells) (htp:wB.heap.size≤tp) (hC:wC.heap[tp]?=some (tpObj (if m then bMirror else bEmpty) (if k then bPreserve else bEmpty) sk pr ps (padOut p))):
  Calls Tryz.prog 16 #[docV kb,.bool false,.slice (some ⟨wC.heap.size,0,none⟩) 3 3] (wC.alloc (.cells #[.iface 71 (.pointer (some ⟨bs,0,none⟩)),.iface 83 (.pointer (some ⟨cm,0,none⟩)),.iface 166 (.pointer (some ⟨tp,0,none⟩))] 46)) fun e w'=>e=.returned (.tuple #[.string ⟨(postT tab (tableOut (poOf p k m pr sk ps) al bl tab (gs.flatMap (·.2)))).toArray⟩,.bool true])∧Below w.heap.size w w':=by
 have h1:Below w.heap.size w wA:=(below_drew (Below.refl w.heap.size w)).trans kA
 have h2:=below_two h1 kB (Nat.le_refl _)
 have h3:=below_two h2 kC (Nat.le_refl _)
 have h4:=h3.alloc h3.size (.cells #[.iface 71 (.pointer (some ⟨bs,0,none⟩)),.iface 83 (.pointer (some ⟨cm,0,none⟩)),.iface 166 (.pointer (some ⟨tp,0,none⟩))] 46)
 have hbs:w.heap.size≤bs:=hbs
 have c1:=heap_lt hA
 have c2:cm < wB.heap.size:=by obtain ⟨c,h,_⟩:=hB;exact heap_lt h
 have c3:=heap_lt hC
 have s1:=h1.size
 have s2:=kB.size
 have s3:=kC.size
 exact converted_calls (po:=poOf p k m pr sk ps) h4 hK hG hs (Sits_get (fun _ h=>heap_past _ (below_get kC h)) hB) (heap_past _ hC) (heap_past _ (below_get kC (below_get kB hA))) (alloc_new _ _) ⟨by omega,by omega,by omega,by omega⟩ (by
  simp only [List.nodup_cons,List.mem_cons,List.not_mem_nil,or_false,not_or,not_false_eq_true,List.nodup_nil,and_true]
  omega) hpi
theorem keep_all {w w':World} {pn po:Nat} {a0 a1 a2 a3 a4 b0 b1 b2 b3 b4 b5:Value} (hb:Below w.heap.size w w') (h:w.cell? ⟨pn,0,none⟩=some a0∧w.cell? ⟨pn,1,none⟩=some a1∧w.cell? ⟨pn,2,none⟩=some a2∧w.cell? ⟨pn,3,none⟩=some a3∧w.cell? ⟨pn,4,none⟩=some a4∧w.cell? ⟨po,0,none⟩=some b0∧w.cell? ⟨po,1,none⟩=some b1∧w.cell? ⟨po,2,none⟩=some b2∧w.cell? ⟨po,3,none⟩=some b3∧w.cell? ⟨po,4,none⟩=some b4∧w.cell? ⟨po,5,none⟩=some b5):
  w'.cell? ⟨pn,0,none⟩=some a0∧w'.cell? ⟨pn,1,none⟩=some a1∧w'.cell? ⟨pn,2,none⟩=some a2∧w'.cell? ⟨pn,3,none⟩=some a3∧w'.cell? ⟨pn,4,none⟩=some a4∧w'.cell? ⟨po,0,none⟩=some b0∧w'.cell? ⟨po,1,none⟩=some b1∧w'.cell? ⟨po,2,none⟩=some b2∧w'.cell? ⟨po,3,none⟩=some b3∧w'.cell? ⟨po,4,none⟩=some b4∧w'.cell? ⟨po,5,none⟩=some b5:=by
 obtain ⟨h0,h1,h2,h3,h4,h5,h6,h7,h8,h9,h10⟩:=h
 exact ⟨cell_keep hb h0,cell_keep hb h1,cell_keep hb h2,cell_keep hb h3,cell_keep hb h4,cell_keep hb h5,cell_keep hb h6,cell_keep hb h7,cell_keep hb h8,cell_keep hb h9,cell_keep hb h10⟩
theorem cell_far2 {w:World} {b g j:Nat} {v x:Value} (hne:b≠g) (h:w.cell? ⟨b,j,none⟩=some x):(w.setCell ⟨g,0,none⟩ v).cell? ⟨b,j,none⟩=some x:=by
 rw [World.cell?_of_block (set_far hne)];exact h
theorem keep_far {w:World} {pn po g:Nat} {v a0 a1 a2 a3 a4 b0 b1 b2 b3 b4 b5:Value} (q1:pn≠g) (q2:po≠g) (h:w.cell? ⟨pn,0,none⟩=some a0∧w.cell? ⟨pn,1,none⟩=some a1∧w.cell? ⟨pn,2,none⟩=some a2∧w.cell? ⟨pn,3,none⟩=some a3∧w.cell? ⟨pn,4,none⟩=some a4∧w.cell? ⟨po,0,none⟩=some b0∧w.cell? ⟨po,1,none⟩=some b1∧w.cell? ⟨po,2,none⟩=some b2∧w.cell? ⟨po,3,none⟩=some b3∧w.cell? ⟨po,4,none⟩=some b4∧w.cell? ⟨po,5,none⟩=some b5):
  (w.setCell ⟨g,0,none⟩ v).cell? ⟨pn,0,none⟩=some a0∧(w.setCell ⟨g,0,none⟩ v).cell? ⟨pn,1,none⟩=some a1∧(w.setCell ⟨g,0,none⟩ v).cell? ⟨pn,2,none⟩=some a2∧(w.setCell ⟨g,0,none⟩ v).cell? ⟨pn,3,none⟩=some a3∧(w.setCell ⟨g,0,none⟩ v).cell? ⟨pn,4,none⟩=some a4∧(w.setCell ⟨g,0,none⟩ v).cell? ⟨po,0,none⟩=some b0∧(w.setCell ⟨g,0,none⟩ v).cell? ⟨po,1,none⟩=some b1∧(w.setCell ⟨g,0,none⟩ v).cell? ⟨po,2,none⟩=some b2∧(w.setCell ⟨g,0,none⟩ v).cell? ⟨po,3,none⟩=some b3∧(w.setCell ⟨g,0,none⟩ v).cell? ⟨po,4,none⟩=some b4∧(w.setCell ⟨g,0,none⟩ v).cell? ⟨po,5,none⟩=some b5:=by
 obtain ⟨h0,h1,h2,h3,h4,h5,h6,h7,h8,h9,h10⟩:=h
 exact ⟨cell_far2 q1 h0,cell_far2 q1 h1,cell_far2 q1 h2,cell_far2 q1 h3,cell_far2 q1 h4,cell_far2 q2 h5,cell_far2 q2 h6,cell_far2 q2 h7,cell_far2 q2 h8,cell_far2 q2 h9,cell_far2 q2 h10⟩
theorem ne_of_heap {w:World} {a b:Nat} {x y:Obj} (h:w.heap[a]?=some x) (k:w.heap[b]?=some y) (hne:x≠y):a≠b:=fun e=>hne (by subst e;rw [h] at k;exact Option.some.inj k)
theorem tabled1_calls {w:World} {pn po pt pk:Nat} {gs:List (ByteArray×List (List CA))} {kb:Nat} (hn0:w.heap[pn]?=some (.cells #[.int .i64 3,.string ⟨#[]⟩,.string ⟨#[]⟩,.slice none 0 0,.slice (some ⟨kb,0,none⟩) 1 1] 33 (0,0)))
  (hK:DocK w gs kb) (hG:GsOk gs) {p:Int} {k m pr sk ps:Bool} (ho:w.heap[po]?=some (.cells #[.int .i64 p,.bool k,.bool m,.bool pr,.bool sk,.bool ps] 24 (0,0)))
  (ht:w.heap[pt]?=some (.cells #[.string ⟨#[]⟩] 9 (0,0))) (hk:w.heap[pk]?=some (.cells #[.bool false] 4 (0,0))) (hne:pt≠pk) {tab:Nat→Int} (hs:∀ c:Nat,c < 128→w.cell? ⟨0,c,none⟩=some (.int .u8 (tab c)))
  {al bl:Bool} (hpi:PadIs (padOut p) al bl):
  Calls Tryz.prog 15 #[.pointer (some ⟨pn,0,none⟩),.pointer (some ⟨po,0,none⟩),.pointer (some ⟨pt,0,none⟩),.pointer (some ⟨pk,0,none⟩)] w fun e w'=>(∃ x,e=.returned x)∧w'.heap[pt]?=some (.cells #[.string ⟨(postT tab (tableOut (poOf p k m pr sk ps) al bl tab (gs.flatMap (·.2)))).toArray⟩] 9 (0,0))∧w'.heap[pk]?=some (.cells #[.bool true] 4 (0,0))∧SaveFor w w' (fun k=>k=pt∨k=pk):=by
 have HN0:=am hn0
 have HK:=am hK
 have HO:=am ho
 have HT:=am ht
 have HKK:=am hk
 have HNE:=am hne
 have HS:=am hs
 have HPI:=am hpi
 have HG:=am hG
 obtain ⟨n0,n1,n2,n3,n4⟩:=five_cells hn0
 obtain ⟨o0,o1,o2,o3,o4,o5⟩:=opts_cells ho
 have q1:=ne_of_heap hn0 ht (by simp)
 have q2:=ne_of_heap ho ht (by simp)
 have q3:=ne_of_heap hn0 hk (by simp)
 have q4:=ne_of_heap ho hk (by simp)
 clear hn0 hK ho ht hk hne hs hpi hG
 have hS0:=And.intro n0 (And.intro n1 (And.intro n2 (And.intro n3 (And.intro n4 (And.intro o0 (And.intro o1 (And.intro o2 (And.intro o3 (And.intro o4 o5)))))))))
 have mixed:Tryz.prog.follows .mixedOrders=true:=by kernel_rfl
 go_enter Tryz.func15,Tryz.ntmps15
 go_wp2
 go_region_held3 (fun w'=>w'.cell? ⟨pn,0,none⟩=some (.int .i64 3)∧w'.cell? ⟨pn,1,none⟩=some (.string ⟨#[]⟩)∧w'.cell? ⟨pn,2,none⟩=some (.string ⟨#[]⟩)∧w'.cell? ⟨pn,3,none⟩=some (.slice none 0 0)∧w'.cell? ⟨pn,4,none⟩=some (.slice (some ⟨kb,0,none⟩) 1 1)∧w'.cell? ⟨po,0,none⟩=some (.int .i64 p)∧w'.cell? ⟨po,1,none⟩=some (.bool k)∧w'.cell? ⟨po,2,none⟩=some (.bool m)∧w'.cell? ⟨po,3,none⟩=some (.bool pr)∧w'.cell? ⟨po,4,none⟩=some (.bool sk)∧w'.cell? ⟨po,5,none⟩=some (.bool ps)) (first|go_keep|exact keep_far (by assumption) (by assumption) (by assumption)|exact keep_all (by assumption) (by assumption)) (first|(go_at_call 17;refine (newBase_any _).mono ?_;rintro e wA ⟨bs,rfl,hbs,hA,kA⟩)|(go_at_call 18;refine (Vx.newCommonmark_calls _).mono ?_;rintro e wB ⟨cm,rfl,kB,hcm,hcl,hB⟩)|(go_at_call 19;refine (tables_calls _ p k m pr sk ps).mono ?_;rintro e wC ⟨tp,rfl,htp,hC,kC⟩)|(go_at_call 16;refine (conv_any kA kB kC HK.out HG.out HS.out HPI.out hbs hA hcm hB htp hC).mono ?_;rintro e wD ⟨rfl,kD⟩;have HKD:=am kD;have t0:=heap_cell (below_get kD HT.out);have tz:=heap_frozen (below_get kD HT.out);have s0:=fun v=>heap_cell (heap_far (j:=0) (v:=v) (below_get kD HKK.out) (Ne.symm HNE.out));have sz:=fun v=>heap_frozen (heap_far (j:=0) (v:=v) (below_get kD HKK.out) (Ne.symm HNE.out))))
 go_wp2
 go_end0
 have hp:=below_get HKD.out HT.out
 have hq:=below_get HKD.out HKK.out
 refine ⟨⟨_,rfl⟩,heap_far (heap_set hp) HNE.out,heap_set (heap_far hq (Ne.symm HNE.out)),⟨HKD.out.os,HKD.out.tape,HKD.out.output,?_,fun k hk hne=>?_⟩⟩
 ·have:=HKD.out.size
  simpa [World.setCell] using this
 ·rw [set_far (fun e=>hne (.inr e)),set_far (fun e=>hne (.inl e))]
  exact HKD.out.block k hk
structure FourLaid (w W:World) (a b c d:Obj):Prop where
 below:Below w.heap.size w W
 size:W.heap.size=w.heap.size+1+1+1+1
 a:W.heap[w.heap.size]?=some a
 b:W.heap[w.heap.size+1]?=some b
 c:W.heap[w.heap.size+1+1]?=some c
 d:W.heap[w.heap.size+1+1+1]?=some d
theorem four_laid (w:World) {W:World} (a b c d:Obj) (h:(((w.alloc a).alloc b).alloc c).alloc d=W):FourLaid w W a b c d:=by
 subst h
 have e1:=alloc_size w a
 have e2:=alloc_size (w.alloc a) b
 have e3:=alloc_size ((w.alloc a).alloc b) c
 have e4:=alloc_size (((w.alloc a).alloc b).alloc c) d
 have b1:=(Below.refl w.heap.size w).alloc (Nat.le_refl _) a
 have b2:=b1.alloc b1.size b
 have b3:=b2.alloc b2.size c
 refine ⟨b3.alloc b3.size d,by omega,heap_past _ (heap_past _ (heap_past _ (alloc_new _ _))),?_,?_,?_⟩
 ·rw [← e1];exact heap_past _ (heap_past _ (alloc_new _ _))
 ·rw [← e1,← e2];exact heap_past _ (alloc_new _ _)
 ·rw [← e1,← e2,← e3];exact alloc_new _ _
theorem tabled_calls {w:World} {gs:List (ByteArray×List (List CA))} {kb:Nat} (hK:DocK w gs kb) (hG:GsOk gs) {p:Int} {k m pr sk ps:Bool} {tab:Nat→Int} (hs:∀ c:Nat,c < 128→w.cell? ⟨0,c,none⟩=some (.int .u8 (tab c))) {al bl:Bool} (hpi:PadIs (padOut p) al bl):
  Calls Tryz.prog 9 #[docV kb,optsV p k m pr sk ps] w fun e w'=>e=.returned (.tuple #[.string ⟨(postT tab (tableOut (poOf p k m pr sk ps) al bl tab (gs.flatMap (·.2)))).toArray⟩,.bool true])∧Below w.heap.size w w':=by
 have HK:=am hK
 have HS:=am hs
 have HPI:=am hpi
 have HG:=am hG
 have hmf:∀ (fn:Fn) (first cap:Array Value) (w:World),(Instr.makeFunc fn first cap).run Tryz.prog w=.ok (.func fn first cap) w:=fun _ _ _ _=>rfl
 unfold optsV
 clear hK hs hpi hG
 go_enter Tryz.func9,Tryz.ntmps9
 go_wp2_with (go_at_call 14;fail)
 obtain ⟨W,hW⟩:∃ W,((((w.alloc (.cells #[.int .i64 3,.string ⟨#[]⟩,.string ⟨#[]⟩,.slice none 0 0,.slice (some ⟨kb,0,none⟩) 1 1] 33)).alloc (.cells #[.int .i64 p,.bool k,.bool m,.bool pr,.bool sk,.bool ps] 24)).alloc (.cells #[.string ⟨#[]⟩] 9)).alloc (.cells #[.bool false] 4))=W:=⟨_,rfl⟩
 have hF:=four_laid w _ _ _ _ hW
 rw [hW]
 have HF:=am hF
 have CG:=am (guarded_calls 15 #[] #[.pointer (some ⟨w.heap.size,0,none⟩),.pointer (some ⟨w.heap.size+1,0,none⟩),.pointer (some ⟨w.heap.size+1+1,0,none⟩),.pointer (some ⟨w.heap.size+1+1+1,0,none⟩)] W
  (fun w'=>w'.heap[w.heap.size+1+1]?=some (.cells #[.string ⟨(postT tab (tableOut (poOf p k m pr sk ps) al bl tab (gs.flatMap (·.2)))).toArray⟩] 9 (0,0))∧w'.heap[w.heap.size+1+1+1]?=some (.cells #[.bool true] 4 (0,0))∧SaveFor W w' (fun k=>k=w.heap.size+1+1∨k=w.heap.size+1+1+1))
  (enters_ Tryz.func15 (by kernel_rfl) rfl _ _) (by
   have hb:Below w.heap.size w (W.alloc (.cells #[.bool false] 4)):=hF.below.alloc hF.below.size _
   refine (tabled1_calls (heap_past _ hF.a) (kd6.K_below hb HK.out) HG.out (heap_past _ hF.b) (heap_past _ hF.c) (heap_past _ hF.d) (by omega) (fun c hc=>cell_keep hb (HS.out c hc)) HPI.out).mono ?_
   rintro e w' ⟨h1,h2,h3,h4⟩
   have hsz:=hF.size
   refine ⟨h1,?_,h2,h3,⟨h4.os,h4.tape,h4.output,?_,fun k hk hne=>?_⟩⟩
   ·rw [h4.block W.heap.size (by rw [alloc_size];omega) (by omega)]
    exact alloc_new _ _
   ·have:=h4.size
    rw [alloc_size] at this
    omega
   ·rw [h4.block k (by rw [alloc_size];omega) hne]
    exact Below.heap_alloc _ _ k hk))
 clear hW hF
 refine CG.out.mono ?_
 rintro e w3 ⟨rfl,w2,⟨h1,h2,h3⟩,hb⟩
 have c1:=heap_cell (below_get hb h1)
 have c2:=heap_cell (below_get hb h2)
 have HBB:=am (show Below w.heap.size w w3 from ⟨hb.os.trans (h3.os.trans HF.out.below.os),hb.tape.trans (h3.tape.trans HF.out.below.tape),hb.output.trans (h3.output.trans HF.out.below.output),Nat.le_trans HF.out.below.size (Nat.le_trans h3.size hb.size),fun k hk=>by
  have hsz:=HF.out.size
  have:=h3.size
  rw [hb.block k (by omega),h3.block k (by omega) (by omega)]
  exact HF.out.below.block k hk⟩)
 clear h1 h2 h3 hb CG
 have mixed:Tryz.prog.follows .mixedOrders=true:=by kernel_rfl
 go_wp2
 go_region
 all_goals
  go_wp2
  go_ret2
  exact ⟨rfl,below_drew HBB.out⟩
end Go.Proofs.YtbheflncgmhadaaGreat.Hand
