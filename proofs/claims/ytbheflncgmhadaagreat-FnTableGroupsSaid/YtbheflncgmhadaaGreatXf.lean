/- The passes over a tree ahead of rendering. Conditions: those in each statement. -/
import Derived.Test.YtbheflncgmhadaaGreatXe
import Derived.Defers
set_option linter.unusedVariables false
set_option linter.unusedSimpArgs false
set_option maxHeartbeats 40000000
set_option maxRecDepth 100000
namespace Go.Proofs.YtbheflncgmhadaaGreat.Hand
open Go.RowKit Go.Proofs.YtbheflncgmhadaaGreatW.PrintWords Go.Proofs.YtbheflncgmhadaaGreatW.PrintLast Go.Proofs.YtbheflncgmhadaaGreatW.PrintMore
attribute [local go_sem] run_store_func'
theorem structure_calls (w:World) (i:NI) (hp:i.Plain):
  Calls Tryz.prog 273 #[.string i.nm] w fun e w'=>e=.returned (.string (if i.kind=1 then ⟨#[105,110,108,105,110,101]⟩ else if i.kind=2 then ⟨#[99,111,110,116,97,105,110,101,114,95,98,108,111,99,107]⟩ else ⟨#[]⟩))∧w'=w:=by
 have hk:=hp.kind
 cases hp <;> simp_all only [NI.nm,nText,nDoc,nTable,nThead,nTbody,nTfoot,nTr,nTd,nTh] <;> simp only [if_true,if_false,reduceIte,Nat.reduceEqDiff] <;> go_enter Tryz.func273,Tryz.ntmps273 <;> go_wp2 <;> go_ret <;> exact ⟨rfl,rfl⟩
theorem kids_mem {w:World} {b:Nat}:∀ {l:List DT} {prev:Option Nat},KidsAt w b prev l→∀ t∈l,∃ pr nx,DT.At w (some b) pr nx t
 |t::r,prev,⟨h1,h2⟩,u,hu=>by
  rcases List.mem_cons.1 hu with rfl|hu
  ·exact ⟨_,_,h1⟩
  ·exact kids_mem h2 u hu
def leafD (Bc B:Nat) (t:DT):Deferred:={ target:=.fn (.func 272) #[.pointer (some ⟨Bc,0,none⟩),.pointer (some ⟨B,0,none⟩)],args:=#[.pointer (some ⟨t.blk,0,none⟩),.bool false,.bool false] }
def LeafOk (t:DT):Prop:=∀ (w:World) (par prev next:Option Nat) (Bc B:Nat),DT.At w par prev next t→t.Shape→w.cell? ⟨B,0,none⟩=some (.func (.func 272) #[] #[.pointer (some ⟨Bc,0,none⟩),.pointer (some ⟨B,0,none⟩)]) →
 CallsD Tryz.prog 272 #[.pointer (some ⟨t.blk,0,none⟩),.bool false,.bool false,.pointer (some ⟨Bc,0,none⟩),.pointer (some ⟨B,0,none⟩)] .returning w fun e u w'=>u=.returning∧(e=.returned (.tuple #[])∧Below w.heap.size w w')
theorem leaf_leaves (tmps:Array Value):∀ (l:List DT) (w0 w:World) (Bc B:Nat),Below w0.heap.size w0 w→w0.cell? ⟨B,0,none⟩=some (.func (.func 272) #[] #[.pointer (some ⟨Bc,0,none⟩),.pointer (some ⟨B,0,none⟩)]) →
  (∀ t∈l,∃ par prev next,DT.At w0 (some par) prev next t∧t.Shape∧LeafOk t)→Leaves Tryz.prog Tryz.f272 tmps (fun e w'=>e=.returned (.tuple #[])∧Below w0.heap.size w0 w') (l.map (leafD Bc B)) .returning w
 |[],w0,w,Bc,B,hb,_,_=>⟨.tuple #[],by simp [results,Tryz.results272,go_sem],rfl,hb⟩
 |t::r,w0,w,Bc,B,hb,hc,h=>by
  obtain ⟨par,prev,next,ha,hs,hok⟩:=h t (List.mem_cons_self ..)
  refine leaves_cons (f:=272) (args:=#[.pointer (some ⟨t.blk,0,none⟩),.bool false,.bool false,.pointer (some ⟨Bc,0,none⟩),.pointer (some ⟨B,0,none⟩)]) (by simp) (by simp [go_sem]) ?_
  refine (hok w (some par) prev next Bc B (DT.At.keep hb ha) hs (cell_keep hb hc)).mono ?_
  rintro e u w1 ⟨rfl,rfl,hw⟩
  exact leaf_leaves tmps r w0 w1 Bc B (hb.trans (hw.mono hb.size)) hc fun t ht=>h t (List.mem_cons_of_mem _ ht)
theorem leaf_ok (t:DT):LeafOk t:=by
 induction t using DT.induct with
 |h b i kids hik=>
 intro w par prev next Bc B h hs hc
 have IH:=am hik
 have HC:=am hc
 have CN:=am (name_calls w b i kids par prev next h hs.1)
 have CS:=am (structure_calls w i hs.1)
 have HK:=am h.2
 have HM:=am (kids_mem h.2)
 have HS:=am hs.2.2.2
 have HT:=am hs.2.2.1
 have f1:=(At_fields h).2.1
 have hk:=hs.1.kind
 clear h hik hs hc
 show CallsD Tryz.prog 272 #[.pointer (some ⟨b,0,none⟩),.bool false,.bool false,.pointer (some ⟨Bc,0,none⟩),.pointer (some ⟨B,0,none⟩)] .returning w _
 refine callsD_of_wp_defers Tryz.func272 rfl ?_
 simp only [Tryz.ntmps272,List.size_toArray,List.length_cons,List.length_nil,Nat.reduceAdd,Nat.reduceSub,Array.replicate_succ,Array.replicate_zero,List.push_toArray,List.append_toArray,List.nil_append,List.cons_append]
 rcases hk with hk|hk|hk
 ·go_wp2_with (go_at_call 72;fail)
  refine CN.out.mono ?_
  rintro e w1 ⟨rfl,hw⟩
  rw [hw]
  clear hw
  go_wp2_with (go_at_call 273;fail)
  refine CS.out.mono ?_
  rintro e w1 ⟨rfl,hw⟩
  rw [hw]
  clear hw
  simp only [hk]
  go_wp2
  have hkd:=HT.out hk
  subst hkd
  have e:pv (firstB [])=.pointer none:=rfl
  rw [e]
  refine wp_loop_once ?_
  go_wp2
  exact leaf_leaves _ [] w w Bc B (Below.refl _ _) HC.out (fun t ht=>by cases ht)
 ·go_wp2_with (go_at_call 72;fail)
  refine CN.out.mono ?_
  rintro e w1 ⟨rfl,hw⟩
  rw [hw]
  clear hw
  go_wp2_with (go_at_call 273;fail)
  refine CS.out.mono ?_
  rintro e w1 ⟨rfl,hw⟩
  rw [hw]
  clear hw
  simp only [hk]
  go_wp2
  refine wp_loop (fun a u=>∃ (dn rest:List DT) (u50 u51 u52 u53 u54 u55 u56 u57 u58 u59:Value) (pr:Option Nat),a={ tmps:=#[.pointer (some ⟨b,0,none⟩),.bool false,.bool false,.pointer (some ⟨Bc,0,none⟩),.pointer (some ⟨B,0,none⟩),undef,undef,undef,.string (NI.nm i),.string ⟨#[99,111,110,116,97,105,110,101,114,95,98,108,111,99,107]⟩,undef,undef,pv (firstB rest),.pointer (some ⟨b,0,none⟩),.string (NI.nm i),.string (NI.nm i),.string ⟨#[99,111,110,116,97,105,110,101,114,95,98,108,111,99,107]⟩,.string ⟨#[99,111,110,116,97,105,110,101,114,95,98,108,111,99,107]⟩,.bool true,.bool true,undef,undef,.bool true,.bool true,.bool false,.bool false,.bool false,.bool false,.bool false,undef,undef,undef,undef,undef,undef,undef,undef,undef,undef,undef,undef,undef,.string ⟨#[99,111,110,116,97,105,110,101,114,95,98,108,111,99,107]⟩,.bool false,.string ⟨#[99,111,110,116,97,105,110,101,114,95,98,108,111,99,107]⟩,.bool false,.pointer (some ⟨b,0,none⟩),.pointer (some ⟨b,0,none⟩),.pointer (some ⟨b,1,none⟩),pv (firstB kids),u50,u51,u52,u53,u54,u55,u56,u57,u58,u59],defers:=(dn.map (leafD Bc B)).reverse }∧Aside0 (u=w)∧Aside0 (kids=dn++rest)∧Aside0 (KidsAt w b pr rest)) (fun a _=>kids.length - a.defers.length) ⟨[],kids,undef,undef,undef,undef,undef,undef,undef,undef,undef,undef,none,rfl,⟨rfl⟩,⟨rfl⟩,HK⟩ ?_
  rintro a u ⟨dn,rest,u50,u51,u52,u53,u54,u55,u56,u57,u58,u59,pr,rfl,HU,HD,HKr⟩
  obtain rfl:=HU.out
  clear HU
  cases rest with
  |nil=>
   have e:pv (firstB [])=.pointer none:=rfl
   rw [e]
   go_wp2
   have hd:=HD.out
   rw [List.append_nil] at hd
   subst hd
   show Leaves Tryz.prog Tryz.f272 _ _ (List.map (leafD Bc B) kids).reverse .returning u
   rw [← List.map_reverse]
   exact leaf_leaves _ kids.reverse u u Bc B (Below.refl _ _) HC.out fun t ht=>by
    obtain ⟨pr,nx,h⟩:=HM.out t (List.mem_reverse.1 ht)
    exact ⟨b,pr,nx,h,HS.out.mem t (List.mem_reverse.1 ht),IH.out t (List.mem_reverse.1 ht)⟩
  |cons t r=>
   have e:pv (firstB (t::r))=.pointer (some ⟨t.blk,0,none⟩):=rfl
   rw [e]
   obtain ⟨ht,hr⟩:=HKr.out
   have f4:u.cell? ⟨t.blk,4,none⟩=some (pv (firstB r)):=At_next ht
   have hBc:=HC.out
   go_wp2
   have hl:(List.map (leafD Bc B) (dn++[t])).reverse=leafD Bc B t::(List.map (leafD Bc B) dn).reverse:=by simp
   have hk2:kids.length - (leafD Bc B t::(List.map (leafD Bc B) dn).reverse).length < kids.length - (List.map (leafD Bc B) dn).reverse.length:=by
    have:=congrArg List.length HD.out
    simp at this ⊢
    omega
   refine ⟨⟨dn++[t],r,_,_,_,_,_,_,_,_,_,_,some t.blk,by rw [hl];rfl,⟨by first|rfl|trivial⟩,⟨by rw [HD.out,List.append_assoc];rfl⟩,⟨hr⟩⟩,hk2⟩
 ·go_wp2_with (go_at_call 72;fail)
  refine CN.out.mono ?_
  rintro e w1 ⟨rfl,hw⟩
  rw [hw]
  clear hw
  go_wp2_with (go_at_call 273;fail)
  refine CS.out.mono ?_
  rintro e w1 ⟨rfl,hw⟩
  rw [hw]
  clear hw
  simp only [hk]
  go_wp2
  refine wp_loop (fun a u=>∃ (dn rest:List DT) (u50 u51 u52 u53 u54 u55 u56 u57 u58 u59:Value) (pr:Option Nat),a={ tmps:=#[.pointer (some ⟨b,0,none⟩),.bool false,.bool false,.pointer (some ⟨Bc,0,none⟩),.pointer (some ⟨B,0,none⟩),undef,undef,undef,.string (NI.nm i),.string ⟨#[]⟩,undef,undef,pv (firstB rest),.pointer (some ⟨b,0,none⟩),.string (NI.nm i),.string (NI.nm i),.string ⟨#[]⟩,.string ⟨#[]⟩,.bool false,.bool false,.string ⟨#[]⟩,.bool false,.bool false,.bool false,undef,undef,undef,undef,.bool false,undef,undef,undef,undef,undef,undef,undef,undef,undef,undef,undef,undef,undef,.string ⟨#[]⟩,.bool false,.string ⟨#[]⟩,.bool false,.pointer (some ⟨b,0,none⟩),.pointer (some ⟨b,0,none⟩),.pointer (some ⟨b,1,none⟩),pv (firstB kids),u50,u51,u52,u53,u54,u55,u56,u57,u58,u59],defers:=(dn.map (leafD Bc B)).reverse }∧Aside0 (u=w)∧Aside0 (kids=dn++rest)∧Aside0 (KidsAt w b pr rest)) (fun a _=>kids.length - a.defers.length) ⟨[],kids,undef,undef,undef,undef,undef,undef,undef,undef,undef,undef,none,rfl,⟨rfl⟩,⟨rfl⟩,HK⟩ ?_
  rintro a u ⟨dn,rest,u50,u51,u52,u53,u54,u55,u56,u57,u58,u59,pr,rfl,HU,HD,HKr⟩
  obtain rfl:=HU.out
  clear HU
  cases rest with
  |nil=>
   have e:pv (firstB [])=.pointer none:=rfl
   rw [e]
   go_wp2
   have hd:=HD.out
   rw [List.append_nil] at hd
   subst hd
   show Leaves Tryz.prog Tryz.f272 _ _ (List.map (leafD Bc B) kids).reverse .returning u
   rw [← List.map_reverse]
   exact leaf_leaves _ kids.reverse u u Bc B (Below.refl _ _) HC.out fun t ht=>by
    obtain ⟨pr,nx,h⟩:=HM.out t (List.mem_reverse.1 ht)
    exact ⟨b,pr,nx,h,HS.out.mem t (List.mem_reverse.1 ht),IH.out t (List.mem_reverse.1 ht)⟩
  |cons t r=>
   have e:pv (firstB (t::r))=.pointer (some ⟨t.blk,0,none⟩):=rfl
   rw [e]
   obtain ⟨ht,hr⟩:=HKr.out
   have f4:u.cell? ⟨t.blk,4,none⟩=some (pv (firstB r)):=At_next ht
   have hBc:=HC.out
   go_wp2
   have hl:(List.map (leafD Bc B) (dn++[t])).reverse=leafD Bc B t::(List.map (leafD Bc B) dn).reverse:=by simp
   have hk2:kids.length - (leafD Bc B t::(List.map (leafD Bc B) dn).reverse).length < kids.length - (List.map (leafD Bc B) dn).reverse.length:=by
    have:=congrArg List.length HD.out
    simp at this ⊢
    omega
   refine ⟨⟨dn++[t],r,_,_,_,_,_,_,_,_,_,_,some t.blk,by rw [hl];rfl,⟨by first|rfl|trivial⟩,⟨by rw [HD.out,List.append_assoc];rfl⟩,⟨hr⟩⟩,hk2⟩
theorem leaf_calls (w:World) (t:DT) (par prev next:Option Nat) (Bc B:Nat) (h:DT.At w par prev next t) (hs:t.Shape) (hc:w.cell? ⟨B,0,none⟩=some (.func (.func 272) #[] #[.pointer (some ⟨Bc,0,none⟩),.pointer (some ⟨B,0,none⟩)])):
  Calls Tryz.prog 272 #[.pointer (some ⟨t.blk,0,none⟩),.bool false,.bool false,.pointer (some ⟨Bc,0,none⟩),.pointer (some ⟨B,0,none⟩)] w fun e w'=>e=.returned (.tuple #[])∧Below w.heap.size w w':=by
 obtain ⟨b,i,kids⟩:=t
 have hik:∀ t∈kids,LeafOk t:=fun t _=>leaf_ok t
 have IH:=am hik
 have HC:=am hc
 have CN:=am (name_calls w b i kids par prev next h hs.1)
 have CS:=am (structure_calls w i hs.1)
 have HK:=am h.2
 have HM:=am (kids_mem h.2)
 have HS:=am hs.2.2.2
 have HT:=am hs.2.2.1
 have f1:=(At_fields h).2.1
 have hk:=hs.1.kind
 clear h hik hs hc
 show Calls Tryz.prog 272 #[.pointer (some ⟨b,0,none⟩),.bool false,.bool false,.pointer (some ⟨Bc,0,none⟩),.pointer (some ⟨B,0,none⟩)] w _
 go_enter_defers Tryz.func272,Tryz.ntmps272
 rcases hk with hk|hk|hk
 ·go_wp2_with (go_at_call 72;fail)
  refine CN.out.mono ?_
  rintro e w1 ⟨rfl,hw⟩
  rw [hw]
  clear hw
  go_wp2_with (go_at_call 273;fail)
  refine CS.out.mono ?_
  rintro e w1 ⟨rfl,hw⟩
  rw [hw]
  clear hw
  simp only [hk]
  go_wp2
  have hkd:=HT.out hk
  subst hkd
  have e:pv (firstB [])=.pointer none:=rfl
  rw [e]
  refine wp_loop_once ?_
  go_wp2
  exact leaf_leaves _ [] w w Bc B (Below.refl _ _) HC.out (fun t ht=>by cases ht)
 ·go_wp2_with (go_at_call 72;fail)
  refine CN.out.mono ?_
  rintro e w1 ⟨rfl,hw⟩
  rw [hw]
  clear hw
  go_wp2_with (go_at_call 273;fail)
  refine CS.out.mono ?_
  rintro e w1 ⟨rfl,hw⟩
  rw [hw]
  clear hw
  simp only [hk]
  go_wp2
  refine wp_loop (fun a u=>∃ (dn rest:List DT) (u50 u51 u52 u53 u54 u55 u56 u57 u58 u59:Value) (pr:Option Nat),a={ tmps:=#[.pointer (some ⟨b,0,none⟩),.bool false,.bool false,.pointer (some ⟨Bc,0,none⟩),.pointer (some ⟨B,0,none⟩),undef,undef,undef,.string (NI.nm i),.string ⟨#[99,111,110,116,97,105,110,101,114,95,98,108,111,99,107]⟩,undef,undef,pv (firstB rest),.pointer (some ⟨b,0,none⟩),.string (NI.nm i),.string (NI.nm i),.string ⟨#[99,111,110,116,97,105,110,101,114,95,98,108,111,99,107]⟩,.string ⟨#[99,111,110,116,97,105,110,101,114,95,98,108,111,99,107]⟩,.bool true,.bool true,undef,undef,.bool true,.bool true,.bool false,.bool false,.bool false,.bool false,.bool false,undef,undef,undef,undef,undef,undef,undef,undef,undef,undef,undef,undef,undef,.string ⟨#[99,111,110,116,97,105,110,101,114,95,98,108,111,99,107]⟩,.bool false,.string ⟨#[99,111,110,116,97,105,110,101,114,95,98,108,111,99,107]⟩,.bool false,.pointer (some ⟨b,0,none⟩),.pointer (some ⟨b,0,none⟩),.pointer (some ⟨b,1,none⟩),pv (firstB kids),u50,u51,u52,u53,u54,u55,u56,u57,u58,u59],defers:=(dn.map (leafD Bc B)).reverse }∧Aside0 (u=w)∧Aside0 (kids=dn++rest)∧Aside0 (KidsAt w b pr rest)) (fun a _=>kids.length - a.defers.length) ⟨[],kids,undef,undef,undef,undef,undef,undef,undef,undef,undef,undef,none,rfl,⟨rfl⟩,⟨rfl⟩,HK⟩ ?_
  rintro a u ⟨dn,rest,u50,u51,u52,u53,u54,u55,u56,u57,u58,u59,pr,rfl,HU,HD,HKr⟩
  obtain rfl:=HU.out
  clear HU
  cases rest with
  |nil=>
   have e:pv (firstB [])=.pointer none:=rfl
   rw [e]
   go_wp2
   have hd:=HD.out
   rw [List.append_nil] at hd
   subst hd
   show Leaves Tryz.prog Tryz.f272 _ _ (List.map (leafD Bc B) kids).reverse .returning u
   rw [← List.map_reverse]
   exact leaf_leaves _ kids.reverse u u Bc B (Below.refl _ _) HC.out fun t ht=>by
    obtain ⟨pr,nx,h⟩:=HM.out t (List.mem_reverse.1 ht)
    exact ⟨b,pr,nx,h,HS.out.mem t (List.mem_reverse.1 ht),IH.out t (List.mem_reverse.1 ht)⟩
  |cons t r=>
   have e:pv (firstB (t::r))=.pointer (some ⟨t.blk,0,none⟩):=rfl
   rw [e]
   obtain ⟨ht,hr⟩:=HKr.out
   have f4:u.cell? ⟨t.blk,4,none⟩=some (pv (firstB r)):=At_next ht
   have hBc:=HC.out
   go_wp2
   have hl:(List.map (leafD Bc B) (dn++[t])).reverse=leafD Bc B t::(List.map (leafD Bc B) dn).reverse:=by simp
   have hk2:kids.length - (leafD Bc B t::(List.map (leafD Bc B) dn).reverse).length < kids.length - (List.map (leafD Bc B) dn).reverse.length:=by
    have:=congrArg List.length HD.out
    simp at this ⊢
    omega
   refine ⟨⟨dn++[t],r,_,_,_,_,_,_,_,_,_,_,some t.blk,by rw [hl];rfl,⟨by first|rfl|trivial⟩,⟨by rw [HD.out,List.append_assoc];rfl⟩,⟨hr⟩⟩,hk2⟩
 ·go_wp2_with (go_at_call 72;fail)
  refine CN.out.mono ?_
  rintro e w1 ⟨rfl,hw⟩
  rw [hw]
  clear hw
  go_wp2_with (go_at_call 273;fail)
  refine CS.out.mono ?_
  rintro e w1 ⟨rfl,hw⟩
  rw [hw]
  clear hw
  simp only [hk]
  go_wp2
  refine wp_loop (fun a u=>∃ (dn rest:List DT) (u50 u51 u52 u53 u54 u55 u56 u57 u58 u59:Value) (pr:Option Nat),a={ tmps:=#[.pointer (some ⟨b,0,none⟩),.bool false,.bool false,.pointer (some ⟨Bc,0,none⟩),.pointer (some ⟨B,0,none⟩),undef,undef,undef,.string (NI.nm i),.string ⟨#[]⟩,undef,undef,pv (firstB rest),.pointer (some ⟨b,0,none⟩),.string (NI.nm i),.string (NI.nm i),.string ⟨#[]⟩,.string ⟨#[]⟩,.bool false,.bool false,.string ⟨#[]⟩,.bool false,.bool false,.bool false,undef,undef,undef,undef,.bool false,undef,undef,undef,undef,undef,undef,undef,undef,undef,undef,undef,undef,undef,.string ⟨#[]⟩,.bool false,.string ⟨#[]⟩,.bool false,.pointer (some ⟨b,0,none⟩),.pointer (some ⟨b,0,none⟩),.pointer (some ⟨b,1,none⟩),pv (firstB kids),u50,u51,u52,u53,u54,u55,u56,u57,u58,u59],defers:=(dn.map (leafD Bc B)).reverse }∧Aside0 (u=w)∧Aside0 (kids=dn++rest)∧Aside0 (KidsAt w b pr rest)) (fun a _=>kids.length - a.defers.length) ⟨[],kids,undef,undef,undef,undef,undef,undef,undef,undef,undef,undef,none,rfl,⟨rfl⟩,⟨rfl⟩,HK⟩ ?_
  rintro a u ⟨dn,rest,u50,u51,u52,u53,u54,u55,u56,u57,u58,u59,pr,rfl,HU,HD,HKr⟩
  obtain rfl:=HU.out
  clear HU
  cases rest with
  |nil=>
   have e:pv (firstB [])=.pointer none:=rfl
   rw [e]
   go_wp2
   have hd:=HD.out
   rw [List.append_nil] at hd
   subst hd
   show Leaves Tryz.prog Tryz.f272 _ _ (List.map (leafD Bc B) kids).reverse .returning u
   rw [← List.map_reverse]
   exact leaf_leaves _ kids.reverse u u Bc B (Below.refl _ _) HC.out fun t ht=>by
    obtain ⟨pr,nx,h⟩:=HM.out t (List.mem_reverse.1 ht)
    exact ⟨b,pr,nx,h,HS.out.mem t (List.mem_reverse.1 ht),IH.out t (List.mem_reverse.1 ht)⟩
  |cons t r=>
   have e:pv (firstB (t::r))=.pointer (some ⟨t.blk,0,none⟩):=rfl
   rw [e]
   obtain ⟨ht,hr⟩:=HKr.out
   have f4:u.cell? ⟨t.blk,4,none⟩=some (pv (firstB r)):=At_next ht
   have hBc:=HC.out
   go_wp2
   have hl:(List.map (leafD Bc B) (dn++[t])).reverse=leafD Bc B t::(List.map (leafD Bc B) dn).reverse:=by simp
   have hk2:kids.length - (leafD Bc B t::(List.map (leafD Bc B) dn).reverse).length < kids.length - (List.map (leafD Bc B) dn).reverse.length:=by
    have:=congrArg List.length HD.out
    simp at this ⊢
    omega
   refine ⟨⟨dn++[t],r,_,_,_,_,_,_,_,_,_,_,some t.blk,by rw [hl];rfl,⟨by first|rfl|trivial⟩,⟨by rw [HD.out,List.append_assoc];rfl⟩,⟨hr⟩⟩,hk2⟩
def MapQuiet (N:Nat) (w:World) (C off mt:Nat) (ks:Value→Prop):Prop:=∀ w1,Below N w w1→∃ mb,w1.cell? ⟨C,off,none⟩=some (.map (some mb))∧∀ k,ks k→∃ v,(Instr.lookup mt (.map (some mb)) k true).run Tryz.prog w1=.ok (.tuple #[v,.bool false]) w1
theorem MapQuiet.keep {N:Nat} {w w1:World} {C off mt:Nat} {ks:Value→Prop} (h:MapQuiet N w C off mt ks) (hb:Below N w w1):MapQuiet N w1 C off mt ks:=fun w2 hb2=>h w2 (hb.trans hb2)
def tagNames (k:Value):Prop:=∃ i:NI,i.Plain∧k=.string i.nm
theorem isBlockName_calls (w:World) (i:NI) (hp:i.Plain):
  Calls Tryz.prog 147 #[.string i.nm] w fun e w'=>e=.returned (.bool (decide (i.nm=nTable)))∧w'=w:=by
 rcases hp.cases with e|e|e|e|e|e|e|e|e <;> rw [e] <;> go_enter Tryz.func147,Tryz.ntmps147 <;> go_wp2 <;> go_ret <;> exact ⟨rfl,rfl⟩
theorem isInlineName_calls (w:World) (i:NI) (hp:i.Plain):
  Calls Tryz.prog 474 #[.string i.nm] w fun e w'=>e=.returned (.bool (decide (i.nm=nText)))∧w'=w:=by
 rcases hp.cases with e|e|e|e|e|e|e|e|e <;> rw [e] <;> go_enter Tryz.func474,Tryz.ntmps474 <;> go_wp2 <;> go_ret <;> exact ⟨rfl,rfl⟩
def tagOf (nm:ByteArray):Value:=if nm=nTable then .tuple #[.string ⟨#[98,108,111,99,107]⟩,.bool true] else if nm=nText then .tuple #[.string ⟨#[105,110,108,105,110,101]⟩,.bool true] else .tuple #[.string ⟨#[]⟩,.bool false]
theorem tagOf_two (nm:ByteArray):∃ t b,tagOf nm=.tuple #[.string t,.bool b]:=by
 unfold tagOf
 split
 ·exact ⟨_,_,rfl⟩
 ·split <;> exact ⟨_,_,rfl⟩
theorem getTagType_calls (N:Nat) (w:World) (C:Nat) (i:NI) (hp:i.Plain) (h:MapQuiet N w C 8 97 tagNames):
  Calls Tryz.prog 470 #[.pointer (some ⟨C,0,none⟩),.string i.nm] w fun e w'=>e=.returned (tagOf i.nm)∧w'=w:=by
 obtain ⟨mb,hm,hl⟩:=h w (Below.refl _ _)
 obtain ⟨v,hl⟩:=hl _ ⟨i,hp,rfl⟩
 have C1:=am (isBlockName_calls w i hp)
 have C2:=am (isInlineName_calls w i hp)
 have HN:=am hp.cases
 clear h hp
 go_enter Tryz.func470,Tryz.ntmps470
 go_wp2_with (go_at_call 147;fail)
 refine C1.out.mono ?_
 rintro e w1 ⟨rfl,hw⟩
 rw [hw]
 clear hw
 by_cases h1:i.nm=nTable
 ·rw [decide_eq_true h1]
  go_wp2
  go_ret2
  exact ⟨by rw [tagOf,if_pos h1];rfl,rfl⟩
 ·rw [decide_eq_false h1]
  go_wp2_with (go_at_call 474;fail)
  refine C2.out.mono ?_
  rintro e w1 ⟨rfl,hw⟩
  rw [hw]
  clear hw
  by_cases h2:i.nm=nText
  ·rw [decide_eq_true h2]
   go_wp2
   go_ret2
   exact ⟨by rw [tagOf,if_neg h1,if_pos h2];rfl,rfl⟩
  ·rw [decide_eq_false h2]
   go_wp2
   go_ret2
   exact ⟨by rw [tagOf,if_neg h1,if_neg h2];rfl,rfl⟩
theorem ctxTagType_calls (N:Nat) (w:World) (X C:Nat) (i:NI) (hp:i.Plain) (hx:w.cell? ⟨X,1,none⟩=some (.pointer (some ⟨C,0,none⟩))) (h:MapQuiet N w C 8 97 tagNames):
  Calls Tryz.prog 463 #[.pointer (some ⟨X,0,none⟩),.string i.nm] w fun e w'=>e=.returned (tagOf i.nm)∧w'=w:=by
 have C1:=am (getTagType_calls N w C i hp h)
 obtain ⟨t,bb,ht⟩:=tagOf_two i.nm
 rw [ht] at C1 ⊢
 clear h hp ht
 go_enter Tryz.func463,Tryz.ntmps463
 go_wp2_with (go_at_call 470;fail)
 refine C1.out.mono ?_
 rintro e w1 ⟨rfl,hw⟩
 rw [hw]
 clear hw
 go_wp2
 go_ret2
 exact ⟨rfl,rfl⟩
theorem tagOf_not {nm:ByteArray} {t:ByteArray} {bb:Bool} (h:tagOf nm=.tuple #[.string t,.bool bb]):(t.toList==[114,101,109,111,118,101])=false:=by
 unfold tagOf at h
 split at h
 ·injection h with h;injection h with h;injection h with h _;injection h with h;subst h;rw [ByteArray.toList_eq];rfl
 ·split at h
  ·injection h with h;injection h with h;injection h with h _;injection h with h;subst h;rw [ByteArray.toList_eq];rfl
  ·injection h with h;injection h with h;injection h with h _;injection h with h;subst h;rw [ByteArray.toList_eq];rfl
def remD (Bc B:Nat) (t:DT):Deferred:={ target:=.fn (.func 142) #[.pointer (some ⟨Bc,0,none⟩),.pointer (some ⟨B,0,none⟩)],args:=#[.pointer (some ⟨t.blk,0,none⟩)] }
structure RemAt (N X C Bc B:Nat) (w:World):Prop where
 fin:w.cell? ⟨B,0,none⟩=some (.func (.func 142) #[] #[.pointer (some ⟨Bc,0,none⟩),.pointer (some ⟨B,0,none⟩)])
 box:w.cell? ⟨Bc,0,none⟩=some (.iface 187 (.pointer (some ⟨X,0,none⟩)))
 ctx:w.cell? ⟨X,1,none⟩=some (.pointer (some ⟨C,0,none⟩))
 tag:MapQuiet N w C 8 97 tagNames
 le:N≤w.heap.size
theorem RemAt.keep {N X C Bc B:Nat} {w w1:World} (h:RemAt N X C Bc B w) (hb:Below w.heap.size w w1):RemAt N X C Bc B w1:=⟨cell_keep hb h.fin,cell_keep hb h.box,cell_keep hb h.ctx,h.tag.keep (hb.mono h.le),Nat.le_trans h.le hb.size⟩
def RemOk (N X C:Nat) (t:DT):Prop:=∀ (w:World) (par prev next:Option Nat) (Bc B:Nat),DT.At w par prev next t→t.Shape→RemAt N X C Bc B w →
 CallsD Tryz.prog 142 #[.pointer (some ⟨t.blk,0,none⟩),.pointer (some ⟨Bc,0,none⟩),.pointer (some ⟨B,0,none⟩)] .returning w fun e u w'=>u=.returning∧(e=.returned (.tuple #[])∧Below w.heap.size w w')
theorem rem_leaves (N X C:Nat) (tmps:Array Value):∀ (l:List DT) (w0 w:World) (Bc B:Nat),Below w0.heap.size w0 w→RemAt N X C Bc B w0 →
  (∀ t∈l,∃ par prev next,DT.At w0 (some par) prev next t∧t.Shape∧RemOk N X C t)→Leaves Tryz.prog Tryz.f142 tmps (fun e w'=>e=.returned (.tuple #[])∧Below w0.heap.size w0 w') (l.map (remD Bc B)) .returning w
 |[],w0,w,Bc,B,hb,_,_=>⟨.tuple #[],by simp [results,Tryz.results142,go_sem],rfl,hb⟩
 |t::r,w0,w,Bc,B,hb,hc,h=>by
  obtain ⟨par,prev,next,ha,hs,hok⟩:=h t (List.mem_cons_self ..)
  refine leaves_cons (f:=142) (args:=#[.pointer (some ⟨t.blk,0,none⟩),.pointer (some ⟨Bc,0,none⟩),.pointer (some ⟨B,0,none⟩)]) (by simp) (by simp [go_sem]) ?_
  refine (hok w (some par) prev next Bc B (DT.At.keep hb ha) hs (hc.keep hb)).mono ?_
  rintro e u w1 ⟨rfl,rfl,hw⟩
  exact rem_leaves N X C tmps r w0 w1 Bc B (hb.trans (hw.mono hb.size)) hc fun t ht=>h t (List.mem_cons_of_mem _ ht)
theorem rem_ok (N X C:Nat) (t:DT):RemOk N X C t:=by
 induction t using DT.induct with
 |h b i kids hik=>
 intro w par prev next Bc B h hs hc
 have IH:=am hik
 have HC:=am hc
 have CN:=am (name_calls w b i kids par prev next h hs.1)
 have CS:=am (ctxTagType_calls N w X C i hs.1 hc.ctx hc.tag)
 obtain ⟨t,bb,ht⟩:=tagOf_two i.nm
 have hrm:=tagOf_not ht
 rw [ht] at CS
 have HK:=am h.2
 have HM:=am (kids_mem h.2)
 have HS:=am hs.2.2.2
 have f1:=(At_fields h).2.1
 have hbc:=hc.box
 clear h hik hs hc ht
 show CallsD Tryz.prog 142 #[.pointer (some ⟨b,0,none⟩),.pointer (some ⟨Bc,0,none⟩),.pointer (some ⟨B,0,none⟩)] .returning w _
 refine callsD_of_wp_defers Tryz.func142 rfl ?_
 simp only [Tryz.ntmps142,List.size_toArray,List.length_cons,List.length_nil,Nat.reduceAdd,Nat.reduceSub,Array.replicate_succ,Array.replicate_zero,List.push_toArray,List.append_toArray,List.nil_append,List.cons_append]
 go_wp2_with (go_at_call 72;fail)
 refine CN.out.mono ?_
 rintro e w1 ⟨rfl,hw⟩
 rw [hw]
 clear hw
 go_wp2_with (go_at_call 463;fail)
 refine CS.out.mono ?_
 rintro e w1 ⟨rfl,hw⟩
 rw [hw]
 clear hw
 go_wp2
 refine wp_loop (fun a u=>∃ (dn rest:List DT) (u24 u25 u26 u27 u28 u29 u30 u31:Value) (pr:Option Nat),a={ tmps:=#[.pointer (some ⟨b,0,none⟩),.pointer (some ⟨Bc,0,none⟩),.pointer (some ⟨B,0,none⟩),undef,.string (NI.nm i),.string t,.bool bb,pv (firstB rest),.pointer (some ⟨b,0,none⟩),.string (NI.nm i),.tuple #[.string t,.bool bb],.iface 187 (.pointer (some ⟨X,0,none⟩)),.string (NI.nm i),.tuple #[.string t,.bool bb],.string t,.bool bb,.string t,.bool false,undef,undef,.pointer (some ⟨b,0,none⟩),.pointer (some ⟨b,0,none⟩),.pointer (some ⟨b,1,none⟩),pv (firstB kids),u24,u25,u26,u27,u28,u29,u30,u31],defers:=(dn.map (remD Bc B)).reverse }∧Aside0 (u=w)∧Aside0 (kids=dn++rest)∧Aside0 (KidsAt w b pr rest)) (fun a _=>kids.length - a.defers.length) ⟨[],kids,undef,undef,undef,undef,undef,undef,undef,undef,none,rfl,⟨rfl⟩,⟨rfl⟩,HK⟩ ?_
 rintro a u ⟨dn,rest,u24,u25,u26,u27,u28,u29,u30,u31,pr,rfl,HU,HD,HKr⟩
 obtain rfl:=HU.out
 clear HU
 cases rest with
 |nil=>
  have e:pv (firstB [])=.pointer none:=rfl
  rw [e]
  go_wp2
  have hd:=HD.out
  rw [List.append_nil] at hd
  subst hd
  show Leaves Tryz.prog Tryz.f142 _ _ (List.map (remD Bc B) kids).reverse .returning u
  rw [← List.map_reverse]
  exact rem_leaves N X C _ kids.reverse u u Bc B (Below.refl _ _) HC.out fun t ht=>by
   obtain ⟨pr,nx,h⟩:=HM.out t (List.mem_reverse.1 ht)
   exact ⟨b,pr,nx,h,HS.out.mem t (List.mem_reverse.1 ht),IH.out t (List.mem_reverse.1 ht)⟩
 |cons k r=>
  have e:pv (firstB (k::r))=.pointer (some ⟨k.blk,0,none⟩):=rfl
  rw [e]
  obtain ⟨ht,hr⟩:=HKr.out
  have f4:u.cell? ⟨k.blk,4,none⟩=some (pv (firstB r)):=At_next ht
  have hBf:=HC.out.fin
  go_wp2
  have hl:(List.map (remD Bc B) (dn++[k])).reverse=remD Bc B k::(List.map (remD Bc B) dn).reverse:=by simp
  have hk2:kids.length - (remD Bc B k::(List.map (remD Bc B) dn).reverse).length < kids.length - (List.map (remD Bc B) dn).reverse.length:=by
   have:=congrArg List.length HD.out
   simp at this ⊢
   omega
  refine ⟨⟨dn++[k],r,_,_,_,_,_,_,_,_,some k.blk,by rw [hl];rfl,⟨by first|rfl|trivial⟩,⟨by rw [HD.out,List.append_assoc];rfl⟩,⟨hr⟩⟩,hk2⟩
theorem rem_calls (N X C:Nat) (w:World) (t:DT) (par prev next:Option Nat) (Bc B:Nat) (h:DT.At w par prev next t) (hs:t.Shape) (hc:RemAt N X C Bc B w):
  Calls Tryz.prog 142 #[.pointer (some ⟨t.blk,0,none⟩),.pointer (some ⟨Bc,0,none⟩),.pointer (some ⟨B,0,none⟩)] w fun e w'=>e=.returned (.tuple #[])∧Below w.heap.size w w':=by
 obtain ⟨b,i,kids⟩:=t
 have hik:∀ t∈kids,RemOk N X C t:=fun t _=>rem_ok N X C t
 have IH:=am hik
 have HC:=am hc
 have CN:=am (name_calls w b i kids par prev next h hs.1)
 have CS:=am (ctxTagType_calls N w X C i hs.1 hc.ctx hc.tag)
 obtain ⟨t,bb,ht⟩:=tagOf_two i.nm
 have hrm:=tagOf_not ht
 rw [ht] at CS
 have HK:=am h.2
 have HM:=am (kids_mem h.2)
 have HS:=am hs.2.2.2
 have f1:=(At_fields h).2.1
 have hbc:=hc.box
 clear h hik hs hc ht
 show Calls Tryz.prog 142 #[.pointer (some ⟨b,0,none⟩),.pointer (some ⟨Bc,0,none⟩),.pointer (some ⟨B,0,none⟩)] w _
 go_enter_defers Tryz.func142,Tryz.ntmps142
 go_wp2_with (go_at_call 72;fail)
 refine CN.out.mono ?_
 rintro e w1 ⟨rfl,hw⟩
 rw [hw]
 clear hw
 go_wp2_with (go_at_call 463;fail)
 refine CS.out.mono ?_
 rintro e w1 ⟨rfl,hw⟩
 rw [hw]
 clear hw
 go_wp2
 refine wp_loop (fun a u=>∃ (dn rest:List DT) (u24 u25 u26 u27 u28 u29 u30 u31:Value) (pr:Option Nat),a={ tmps:=#[.pointer (some ⟨b,0,none⟩),.pointer (some ⟨Bc,0,none⟩),.pointer (some ⟨B,0,none⟩),undef,.string (NI.nm i),.string t,.bool bb,pv (firstB rest),.pointer (some ⟨b,0,none⟩),.string (NI.nm i),.tuple #[.string t,.bool bb],.iface 187 (.pointer (some ⟨X,0,none⟩)),.string (NI.nm i),.tuple #[.string t,.bool bb],.string t,.bool bb,.string t,.bool false,undef,undef,.pointer (some ⟨b,0,none⟩),.pointer (some ⟨b,0,none⟩),.pointer (some ⟨b,1,none⟩),pv (firstB kids),u24,u25,u26,u27,u28,u29,u30,u31],defers:=(dn.map (remD Bc B)).reverse }∧Aside0 (u=w)∧Aside0 (kids=dn++rest)∧Aside0 (KidsAt w b pr rest)) (fun a _=>kids.length - a.defers.length) ⟨[],kids,undef,undef,undef,undef,undef,undef,undef,undef,none,rfl,⟨rfl⟩,⟨rfl⟩,HK⟩ ?_
 rintro a u ⟨dn,rest,u24,u25,u26,u27,u28,u29,u30,u31,pr,rfl,HU,HD,HKr⟩
 obtain rfl:=HU.out
 clear HU
 cases rest with
 |nil=>
  have e:pv (firstB [])=.pointer none:=rfl
  rw [e]
  go_wp2
  have hd:=HD.out
  rw [List.append_nil] at hd
  subst hd
  show Leaves Tryz.prog Tryz.f142 _ _ (List.map (remD Bc B) kids).reverse .returning u
  rw [← List.map_reverse]
  exact rem_leaves N X C _ kids.reverse u u Bc B (Below.refl _ _) HC.out fun t ht=>by
   obtain ⟨pr,nx,h⟩:=HM.out t (List.mem_reverse.1 ht)
   exact ⟨b,pr,nx,h,HS.out.mem t (List.mem_reverse.1 ht),IH.out t (List.mem_reverse.1 ht)⟩
 |cons k r=>
  have e:pv (firstB (k::r))=.pointer (some ⟨k.blk,0,none⟩):=rfl
  rw [e]
  obtain ⟨ht,hr⟩:=HKr.out
  have f4:u.cell? ⟨k.blk,4,none⟩=some (pv (firstB r)):=At_next ht
  have hBf:=HC.out.fin
  go_wp2
  have hl:(List.map (remD Bc B) (dn++[k])).reverse=remD Bc B k::(List.map (remD Bc B) dn).reverse:=by simp
  have hk2:kids.length - (remD Bc B k::(List.map (remD Bc B) dn).reverse).length < kids.length - (List.map (remD Bc B) dn).reverse.length:=by
   have:=congrArg List.length HD.out
   simp at this ⊢
   omega
  refine ⟨⟨dn++[k],r,_,_,_,_,_,_,_,_,some k.blk,by rw [hl];rfl,⟨by first|rfl|trivial⟩,⟨by rw [HD.out,List.append_assoc];rfl⟩,⟨hr⟩⟩,hk2⟩
mutual
def DT.Lt (N:Nat):DT→Prop
 |.node b _ kids=>b < N∧DT.LtL N kids
def DT.LtL (N:Nat):List DT→Prop
 |[]=>True
 |t::r=>t.Lt N∧DT.LtL N r
end
theorem DT.LtL.mem {N:Nat}:∀ {l:List DT},DT.LtL N l→∀ t∈l,t.Lt N
 |t::r,⟨h1,h2⟩,u,hu=>by
  rcases List.mem_cons.1 hu with rfl|hu
  ·exact h1
  ·exact DT.LtL.mem h2 u hu
mutual
theorem DT.At.keepN {N:Nat} {w w':World} (h:Below N w w'):∀ {t:DT} {par prev next:Option Nat},t.Lt N→DT.At w par prev next t→DT.At w' par prev next t
 |.node b i kids,par,prev,next,⟨l1,l2⟩,⟨h1,h2⟩=>⟨by rw [h.block b l1];exact h1,KidsAt.keepN h l2 h2⟩
theorem KidsAt.keepN {N:Nat} {w w':World} (h:Below N w w'):∀ {l:List DT} {par:Nat} {prev:Option Nat},DT.LtL N l→KidsAt w par prev l→KidsAt w' par prev l
 |[],_,_,_,_=>trivial
 |t::r,par,prev,⟨l1,l2⟩,⟨h1,h2⟩=>⟨DT.At.keepN h l1 h1,KidsAt.keepN h l2 h2⟩
end
mutual
theorem DT.At.lt {w:World}:∀ {t:DT} {par prev next:Option Nat},DT.At w par prev next t→t.Lt w.heap.size
 |.node b i kids,par,prev,next,⟨h1,h2⟩=>⟨(Array.getElem?_eq_some_iff.1 h1).1,KidsAt.lt h2⟩
theorem KidsAt.lt {w:World}:∀ {l:List DT} {par:Nat} {prev:Option Nat},KidsAt w par prev l→DT.LtL w.heap.size l
 |[],_,_,_=>trivial
 |t::r,par,prev,⟨h1,h2⟩=>⟨DT.At.lt h1,KidsAt.lt h2⟩
end
theorem heap_cell {w:World} {b:Nat} {v:Value} {T:TypeId} (h:w.heap[b]?=some (.cells #[v] T (0,0))):w.cell? ⟨b,0,none⟩=some v:=by simp [World.cell?,h]
theorem heap_frozen {w:World} {b:Nat} {v:Value} {T:TypeId} (h:w.heap[b]?=some (.cells #[v] T (0,0))):w.frozen? ⟨b,0,none⟩=false:=by simp [World.frozen?,h]
theorem heap_lt {w:World} {b:Nat} {o:Obj} (h:w.heap[b]?=some o):b < w.heap.size:=(Array.getElem?_eq_some_iff.1 h).1
theorem heap_set {w:World} {b:Nat} {v u:Value} {T:TypeId} (h:w.heap[b]?=some (.cells #[v] T (0,0))):(w.setCell ⟨b,0,none⟩ u).heap[b]?=some (.cells #[u] T (0,0)):=by
 have hb:=heap_lt h
 simp [World.setCell,Array.getElem?_modify,h]
theorem DT.allL_append:∀ (a c:List DT),DT.allL (a++c)=DT.allL a++DT.allL c
 |[],c=>by rw [DT.allL];rfl
 |t::r,c=>by rw [List.cons_append,DT.allL_cons,DT.allL_cons,DT.allL_append r c,List.append_assoc]
theorem box_stays {w w1:World} {N:Nat} {ok:Nat→Prop} {Bx:Nat} {u v:Value} {L:List Nat} {T:TypeId} (hbx:w.heap[Bx]?=some (.cells #[u] T (0,0))) (hR:Kd.R ptrK 67 w N ok v L) (hne:67≠T) (hg:w.grownBy w1 v.ownBlock):w1.heap[Bx]?=some (.cells #[u] T (0,0)):=by
 rw [hg.block Bx (heap_lt hbx) (Kd.R_ne hR hbx hne)];exact hbx
theorem allNodes1_calls (N:Nat) (t:DT):∀ (w:World) (par prev next:Option Nat) (Bx Bf:Nat) (v:Value) (L:List Nat) (h:DT.At w par prev next t) (hN:t.Lt N) (hBx:N≤Bx) (hbx:w.heap[Bx]?=some (.cells #[v] 338 (0,0))) (hR:Kd.R ptrK 67 w N (fun _=>True) v L)
  (hbf:w.heap[Bf]?=some (.cells #[.func (.func 309) #[] #[.pointer (some ⟨Bx,0,none⟩),.pointer (some ⟨Bf,0,none⟩)]] 164 (0,0))) (hl:L.length+t.all.length≤1000),
  Calls Tryz.prog 309 #[.pointer (some ⟨t.blk,0,none⟩),.pointer (some ⟨Bx,0,none⟩),.pointer (some ⟨Bf,0,none⟩)] w fun e w'=>e=.returned (.tuple #[])∧Below N w w' ∧
   w'.heap[Bf]?=some (.cells #[.func (.func 309) #[] #[.pointer (some ⟨Bx,0,none⟩),.pointer (some ⟨Bf,0,none⟩)]] 164 (0,0))∧∃ v',w'.heap[Bx]?=some (.cells #[v'] 338 (0,0))∧Kd.R ptrK 67 w' N (fun _=>True) v' (L++t.all):=by
 induction t using DT.induct with
 |h b i kids IH=>
 intro w par prev next Bx Bf v L h hN hBx hbx hR hbf hl
 obtain ⟨A0,c0,rfl⟩:=Kd.R_slice hR
 have IH:=am IH
 have HN:=am hN
 have HX:=am hBx
 have HBX:=am hbx
 have HBF:=am hbf
 have HR:=am hR
 have HL:=am hl
 have H1:=am h.1
 have HK:=am h.2
 have HNw:=am (Nat.le_of_lt (Nat.lt_of_le_of_lt hBx (heap_lt hbx)))
 have HLn:=am (show (L.length+1) * 8≤140737488355328 by have:=hl;rw [DT.all,List.length_cons] at this;omega)
 have hne:¬ b=Bx:=by have:=hN.1;omega
 have hne2:¬ Bx=b:=fun h=>hne h.symm
 have c1:=heap_cell hbx
 have z1:=heap_frozen hbx
 clear h hN hBx hbx hR hbf hl
 show Calls Tryz.prog 309 #[.pointer (some ⟨b,0,none⟩),.pointer (some ⟨Bx,0,none⟩),.pointer (some ⟨Bf,0,none⟩)] w _
 go_enter Tryz.func309,Tryz.ntmps309
 go_wp2_with (first|(at_builtin;(refine Kd.R_append ptrK (w0:=w) N rfl (.tmp _) (.tmp _) 338 67 (.pointer none) 8 rfl Tryz.underlying338 info92 rfl (by decide) (by omega) (.slice A0 L.length c0) L b [.pointer (some ⟨b,0,none⟩)] (fun _=>True) (fun _=>False) rfl rfl rfl (fun _ hk=>hk.elim) (fun _ _=>trivial) HR.out (Below.refl _ _) HNw.out HLn.out ?_;intro v1 w1 ho1 hb1 hg1 hat1;obtain ⟨A1,cp1,hv1⟩:=Kd.R_slice ho1;rw [List.length_append,List.length_singleton] at hv1;subst hv1;have HR1:=am ho1;have HB1:=am hb1;have HX1:=am (box_stays HBX.out HR.out (by decide) hg1);have HF1:=am (box_stays HBF.out HR.out (by decide) hg1);have k1:w1.cell? ⟨b,1,none⟩=some (pv (firstB kids)):=by { rw [World.cell?_of_block (hb1.block b HN.out.1)];exact (node_fields H1.out).2.1 };have k2:(w1.setCell ⟨Bx,0,none⟩ (.slice A1 (L.length+1) cp1)).cell? ⟨b,1,none⟩=some (pv (firstB kids)):=by { rw [World.cell?_setCell_far _ _ _ _ hne2];exact k1 };have c2:=heap_cell HX1.out;have z2:=heap_frozen HX1.out;clear ho1 hb1 hg1 hat1)))
 have hFX:Bf≠Bx:=by
  intro e
  have h1:=HBF.out
  rw [e,HBX.out] at h1
  injection h1 with h1
  injection h1 with _ h2 _
  exact absurd h2 (by decide)
 have HFX:=am hFX
 clear hFX c1 z1 hne hne2
 go_loopg [4] kids.length (fun gf v4 wx=>∃ (pr:Option Nat) (dn rest:List DT) (vv:Value),v4=pv (firstB rest)∧Aside0 (kids=dn++rest)∧Aside0 (Below N w wx)∧Aside0 (rest.length≤gf)∧Aside0 (KidsAt w b pr rest) ∧
  Aside0 (wx.heap[Bx]?=some (.cells #[vv] 338 (0,0)))∧Aside0 (Kd.R ptrK 67 wx N (fun _=>True) vv (L++b::DT.allL dn))∧Aside0 (wx.heap[Bf]?=some (.cells #[.func (.func 309) #[] #[.pointer (some ⟨Bx,0,none⟩),.pointer (some ⟨Bf,0,none⟩)]] 164 (0,0))))
 case atStart=>
  refine ⟨none,[],kids,_,rfl,⟨rfl⟩,⟨HB1.out.setCell HX.out _⟩,⟨Nat.le_refl _⟩,HK,⟨heap_set HX1.out⟩,⟨?_⟩,⟨?_⟩⟩
  ·rw [DT.allL];exact Kd.R_set HR1.out HX1.out (by decide) 0 _
  ·rw [Below.heap_setCell _ _ _ _ HFX.out];exact HF1.out
 case round=>
  obtain ⟨pr,dn,rest,vv,rfl,HD,HBw,HG,HKr,HXw,HRw,HFw⟩:=hrel
  cases rest with
  |nil=>
   have e:pv (firstB [])=.pointer none:=rfl
   rw [e]
   go_wp2
   go_end0
   have hd:=HD.out
   rw [List.append_nil] at hd
   subst hd
   exact ⟨rfl,HBw.out,HFw.out,vv,HXw.out,by rw [DT.all];exact HRw.out⟩
  |cons t r=>
   obtain ⟨ht,hr⟩:=HKr.out
   obtain ⟨g',rfl⟩:∃ g',gk=g'+1:=⟨gk - 1,by have:=HG.out;simp only [List.length_cons] at this;omega⟩
   have hm:t∈kids:=by rw [HD.out];exact List.mem_append_right _ (List.mem_cons_self ..)
   have hlt:t.Lt N:=HN.out.2.mem _ hm
   have e:pv (firstB (t::r))=.pointer (some ⟨t.blk,0,none⟩):=rfl
   rw [e]
   have c3:=heap_cell HFw.out
   have CI:=am (IH.out t hm wr (some b) pr (firstB r) Bx Bf vv (L++b::DT.allL dn) (DT.At.keepN HBw.out hlt ht) hlt HX.out HXw.out HRw.out HFw.out (by
    have:=HL.out
    rw [DT.all,HD.out,DT.allL_append,DT.allL_cons] at this
    simp only [List.length_append,List.length_cons] at this ⊢
    omega))
   have HT:=am ht
   have HR2:=am hr
   have HLT:=am hlt
   clear ht hr hm hlt
   go_wp2_with (go_at_call 309;fail)
   refine CI.out.mono ?_
   rintro e w1 ⟨rfl,hw,hf,v2,hx,hrr⟩
   have HW1:=am (HBw.out.trans hw)
   have HX2:=am hx
   have HF2:=am hf
   have HR3:=am hrr
   clear hw hf hx hrr c3
   have f4:w1.cell? ⟨t.blk,4,none⟩=some (pv (firstB r)):=At_next (DT.At.keepN HW1.out HLT.out HT.out)
   go_wp2
   go_roundg g'
   case measure=>omega
   case rel=>
    refine ⟨some t.blk,dn++[t],r,v2,rfl,⟨by rw [HD.out,List.append_assoc];rfl⟩,HW1,⟨by have:=HG.out;simp only [List.length_cons] at this;omega⟩,HR2,HX2,⟨?_⟩,HF2⟩
    have:=HR3.out
    rw [DT.allL_append,DT.allL_cons,DT.allL,List.append_nil]
    rw [List.append_assoc] at this
    exact this
theorem allNodes_calls (w:World) (t:DT) (h:DT.At w none none none t) (hl:t.all.length≤1000):
  Calls Tryz.prog 253 #[.pointer (some ⟨t.blk,0,none⟩)] w fun e w'=>∃ v,e=.returned v∧Kd.R ptrK 67 w' w.heap.size (fun _=>True) v t.all∧Below w.heap.size w w':=by
 have hmf:∀ (fn:Fn) (first cap:Array Value) (w:World),(Instr.makeFunc fn first cap).run Tryz.prog w=.ok (.func fn first cap) w:=fun _ _ _ _=>rfl
 have HA:=am h
 have HL:=am hl
 clear h hl
 go_enter Tryz.func253,Tryz.ntmps253
 go_wp2_with (go_at_call 309;fail)
 have e1:=alloc_size w (.cells #[.slice none 0 0] 338)
 have hB:Below w.heap.size w ((w.alloc (.cells #[.slice none 0 0] 338)).alloc (.cells #[.func (.func 309) #[] #[.pointer (some ⟨w.heap.size,0,none⟩),.pointer (some ⟨w.heap.size+1,0,none⟩)]] 164)):=((Below.refl _ w).alloc (Nat.le_refl _) _).alloc (by omega) _
 refine (allNodes1_calls w.heap.size t _ none none none w.heap.size (w.heap.size+1) (.slice none 0 0) [] (DT.At.keep hB HA.out) (DT.At.lt HA.out) (Nat.le_refl _) ?_ (Kd.R_nil _ _ _ _ _) ?_ (by have:=HL.out;simpa using this)).mono ?_
 ·rw [Below.heap_alloc _ _ _ (by omega)];exact alloc_new _ _
 ·rw [← e1];exact alloc_new _ _
 ·rintro e w1 ⟨rfl,hw,hf,v2,hx,hrr⟩
  rw [List.nil_append] at hrr
  obtain ⟨A,c,rfl⟩:=Kd.R_slice hrr
  have HW:=am (hB.trans hw)
  have HR:=am hrr
  have HX:=am hx
  have c1:=heap_cell hx
  have z1:=heap_frozen hx
  clear hw hf hx hrr hB e1
  go_wp2
  have hc:=heap_cell (heap_set HX.out (u:=.slice A t.all.length c))
  refine bodyPost_ret (v:=.slice A t.all.length c) (by simp [results,Tryz.results253,go_sem,hc]) rfl ?_
  exact ⟨_,rfl,Kd.R_set HR.out HX.out (by decide) 0 _,HW.out.setCell (Nat.le_refl _) _⟩
theorem removeRedundant_216_calls (w:World) (t:DT) (h:DocAt w t) (hl:t.all.length≤1000):
  Calls Tryz.prog 210 #[.pointer (some ⟨t.blk,0,none⟩),.func (.func 211) #[] #[]] w fun e w'=>e=.returned (.tuple #[])∧Below w.heap.size w w':=by
 have CA:=am (allNodes_calls w t h.at_ hl)
 have HD:=am h
 have HL:=am hl
 clear h hl
 go_enter Tryz.func210,Tryz.ntmps210
 go_wp2_with (go_at_call 253;fail)
 refine CA.out.mono ?_
 rintro e w1 ⟨v,rfl,hr,hw⟩
 obtain ⟨g,c,rfl,_,_,_⟩:=Kd.R_form hr (by obtain ⟨l,e⟩:=DT.all_eq t;rw [e];simp)
 have HR:=am hr
 have HW:=am hw
 clear hr hw
 go_wp2
 go_loopg [5,9] t.all.length (fun gf v5 v9 wx=>∃ k:Nat,v9=.int .i64 (k:Int)∧wx=w1∧Aside0 (k+gf=t.all.length))
 case atStart=>exact ⟨0,rfl,rfl,⟨by omega⟩⟩
 case round=>
  obtain ⟨k,rfl,hwx,HG⟩:=hrel
  subst hwx
  by_cases hk:k < t.all.length
  ·obtain ⟨g',rfl⟩:∃ g',gk=g'+1:=⟨gk - 1,by have:=HG.out;omega⟩
   have hkZ:(k:Int) < (t.all.length:Int):=by omega
   have hcell:wr.cell? ⟨g,k,none⟩=some (.pointer (some ⟨t.all[k],0,none⟩)):=by
    have:=(Kd.R_celln (d:=0) HR.out (k:Int) (by omega) hkZ).1
    rw [Int.toNat_natCast] at this
    rw [this,rdOf]
    simp [hk,pv]
   obtain ⟨i,kids,par,prev,next,hn⟩:=(HD.out.keep HW.out).node t.all[k] (List.getElem_mem hk)
   have CI:=am (ancestor_bothBoldItalic_calls wr t.all[k] i kids par prev next hn)
   clear hn
   go_wp2_with (go_at_call 254;fail)
   refine CI.out.mono ?_
   rintro e w2 ⟨rfl,hw⟩
   rw [hw]
   clear hw
   have hadd:(k:Int)+1≤1000:=by have:=HL.out;omega
   go_wp2
   go_roundg g'
   case measure=>omega
   case rel=>exact ⟨k+1,by go_num,rfl,⟨by have:=HG.out;omega⟩⟩
  ·have hkZ:¬ (k:Int) < (t.all.length:Int):=by omega
   go_wp2
   go_end0
   exact ⟨rfl,HW.out⟩
theorem removeRedundant_224_calls (w:World) (t:DT) (h:DocAt w t) (hl:t.all.length≤1000):
  Calls Tryz.prog 210 #[.pointer (some ⟨t.blk,0,none⟩),.func (.func 219) #[] #[]] w fun e w'=>e=.returned (.tuple #[])∧Below w.heap.size w w':=by
 have CA:=am (allNodes_calls w t h.at_ hl)
 have HD:=am h
 have HL:=am hl
 clear h hl
 go_enter Tryz.func210,Tryz.ntmps210
 go_wp2_with (go_at_call 253;fail)
 refine CA.out.mono ?_
 rintro e w1 ⟨v,rfl,hr,hw⟩
 obtain ⟨g,c,rfl,_,_,_⟩:=Kd.R_form hr (by obtain ⟨l,e⟩:=DT.all_eq t;rw [e];simp)
 have HR:=am hr
 have HW:=am hw
 clear hr hw
 go_wp2
 go_loopg [5,9] t.all.length (fun gf v5 v9 wx=>∃ k:Nat,v9=.int .i64 (k:Int)∧wx=w1∧Aside0 (k+gf=t.all.length))
 case atStart=>exact ⟨0,rfl,rfl,⟨by omega⟩⟩
 case round=>
  obtain ⟨k,rfl,hwx,HG⟩:=hrel
  subst hwx
  by_cases hk:k < t.all.length
  ·obtain ⟨g',rfl⟩:∃ g',gk=g'+1:=⟨gk - 1,by have:=HG.out;omega⟩
   have hkZ:(k:Int) < (t.all.length:Int):=by omega
   have hcell:wr.cell? ⟨g,k,none⟩=some (.pointer (some ⟨t.all[k],0,none⟩)):=by
    have:=(Kd.R_celln (d:=0) HR.out (k:Int) (by omega) hkZ).1
    rw [Int.toNat_natCast] at this
    rw [this,rdOf]
    simp [hk,pv]
   obtain ⟨i,kids,par,prev,next,hn⟩:=(HD.out.keep HW.out).node t.all[k] (List.getElem_mem hk)
   have CI:=am (ancestor_bothLink_calls wr t.all[k] i kids par prev next hn)
   clear hn
   go_wp2_with (go_at_call 254;fail)
   refine CI.out.mono ?_
   rintro e w2 ⟨rfl,hw⟩
   rw [hw]
   clear hw
   have hadd:(k:Int)+1≤1000:=by have:=HL.out;omega
   go_wp2
   go_roundg g'
   case measure=>omega
   case rel=>exact ⟨k+1,by go_num,rfl,⟨by have:=HG.out;omega⟩⟩
  ·have hkZ:¬ (k:Int) < (t.all.length:Int):=by omega
   go_wp2
   go_end0
   exact ⟨rfl,HW.out⟩
theorem swapTags1_221_calls (t:DT):∀ (w:World) (par prev next:Option Nat) (Bo Bi Bf:Nat) (h:DT.At w par prev next t) (hs:t.Shape) (ho:w.cell? ⟨Bo,0,none⟩=some (.func (.func 216) #[] #[])) (hf:w.cell? ⟨Bf,0,none⟩=some (.func (.func 263) #[] #[.pointer (some ⟨Bo,0,none⟩),.pointer (some ⟨Bi,0,none⟩),.pointer (some ⟨Bf,0,none⟩)])),
  Calls Tryz.prog 263 #[.pointer (some ⟨t.blk,0,none⟩),.pointer (some ⟨Bo,0,none⟩),.pointer (some ⟨Bi,0,none⟩),.pointer (some ⟨Bf,0,none⟩)] w fun e w'=>e=.returned (.tuple #[])∧Below w.heap.size w w':=by
 induction t using DT.induct with
 |h b i kids IH=>
 intro w par prev next Bo Bi Bf h hs ho hf
 have IH:=am IH
 have HS:=am hs.2.2.2.mem
 have HK:=am h.2
 have Aho:=am ho
 have Ahf:=am hf
 have HSz:=am (Array.getElem?_eq_some_iff.1 h.1).1
 have H1:=am h.1
 have CP:=am (isInlineCode_calls w b i kids par prev next ⟨h,hs⟩)
 have f1:=(At_fields h).2.1
 clear h hs hf
 show Calls Tryz.prog 263 #[.pointer (some ⟨b,0,none⟩),.pointer (some ⟨Bo,0,none⟩),.pointer (some ⟨Bi,0,none⟩),.pointer (some ⟨Bf,0,none⟩)] w _
 go_enter Tryz.func263,Tryz.ntmps263
 go_wp2_with (go_at_call 216;fail)
 refine CP.out.mono ?_
 rintro e w1 ⟨rfl,hw⟩
 rw [hw]
 clear hw
 clear ho
 go_wp2
 go_loopg [6] kids.length (fun gf v3 wx=>∃ (pr:Option Nat) (rest:List DT),v3=pv (firstB rest)∧Aside0 (∀ t∈rest,t∈kids)∧Aside0 (Below w.heap.size w wx)∧Aside0 (rest.length≤gf)∧Aside0 (KidsAt w b pr rest))
 case atStart=>exact ⟨none,kids,rfl,⟨fun _ h=>h⟩,⟨Below.refl _ _⟩,⟨Nat.le_refl _⟩,HK⟩
 case round=>
  obtain ⟨pr,rest,rfl,HM,HBw,HG,HKr⟩:=hrel
  cases rest with
  |nil=>
   have e:pv (firstB [])=.pointer none:=rfl
   rw [e]
   go_wp2
   go_end0
   exact ⟨rfl,HBw.out⟩
  |cons t r=>
   obtain ⟨ht,hr⟩:=HKr.out
   obtain ⟨g',rfl⟩:∃ g',gk=g'+1:=⟨gk - 1,by have:=HG.out;simp only [List.length_cons] at this;omega⟩
   have e:pv (firstB (t::r))=.pointer (some ⟨t.blk,0,none⟩):=rfl
   rw [e]
   have ho:=cell_keep HBw.out Aho.out
   have hf:=cell_keep HBw.out Ahf.out
   have CI:=am (IH.out t (HM.out t (List.mem_cons_self ..)) wr (some b) pr (firstB r) Bo Bi Bf (DT.At.keep HBw.out ht) (HS.out t (HM.out t (List.mem_cons_self ..))) ho hf)
   have HT:=am ht
   have HR:=am hr
   clear ht hr
   go_wp2_with (go_at_call 263;fail)
   refine CI.out.mono ?_
   rintro e w1 ⟨rfl,hw⟩
   have HW1:=am (HBw.out.trans (hw.mono (HBw.out.size)))
   clear hw
   have f4:w1.cell? ⟨t.blk,4,none⟩=some (pv (firstB r)):=At_next (DT.At.keep HW1.out HT.out)
   clear ho
   clear hf
   go_wp2
   go_roundg g'
   case measure=>omega
   case rel=>exact ⟨some t.blk,r,rfl,⟨fun u hu=>HM.out u (List.mem_cons_of_mem _ hu)⟩,HW1,⟨by have:=HG.out;simp only [List.length_cons] at this;omega⟩,HR⟩
theorem swapTags1_218_calls (t:DT):∀ (w:World) (par prev next:Option Nat) (Bo Bi Bf:Nat) (h:DT.At w par prev next t) (hs:t.Shape) (ho:w.cell? ⟨Bo,0,none⟩=some (.func (.func 213) #[] #[])) (hf:w.cell? ⟨Bf,0,none⟩=some (.func (.func 263) #[] #[.pointer (some ⟨Bo,0,none⟩),.pointer (some ⟨Bi,0,none⟩),.pointer (some ⟨Bf,0,none⟩)])),
  Calls Tryz.prog 263 #[.pointer (some ⟨t.blk,0,none⟩),.pointer (some ⟨Bo,0,none⟩),.pointer (some ⟨Bi,0,none⟩),.pointer (some ⟨Bf,0,none⟩)] w fun e w'=>e=.returned (.tuple #[])∧Below w.heap.size w w':=by
 induction t using DT.induct with
 |h b i kids IH=>
 intro w par prev next Bo Bi Bf h hs ho hf
 have IH:=am IH
 have HS:=am hs.2.2.2.mem
 have HK:=am h.2
 have Aho:=am ho
 have Ahf:=am hf
 have HSz:=am (Array.getElem?_eq_some_iff.1 h.1).1
 have H1:=am h.1
 have CP:=am (isBoldItalic_calls w b i kids par prev next ⟨h,hs⟩)
 have f1:=(At_fields h).2.1
 clear h hs hf
 show Calls Tryz.prog 263 #[.pointer (some ⟨b,0,none⟩),.pointer (some ⟨Bo,0,none⟩),.pointer (some ⟨Bi,0,none⟩),.pointer (some ⟨Bf,0,none⟩)] w _
 go_enter Tryz.func263,Tryz.ntmps263
 go_wp2_with (go_at_call 213;fail)
 refine CP.out.mono ?_
 rintro e w1 ⟨rfl,hw⟩
 rw [hw]
 clear hw
 clear ho
 go_wp2
 go_loopg [6] kids.length (fun gf v3 wx=>∃ (pr:Option Nat) (rest:List DT),v3=pv (firstB rest)∧Aside0 (∀ t∈rest,t∈kids)∧Aside0 (Below w.heap.size w wx)∧Aside0 (rest.length≤gf)∧Aside0 (KidsAt w b pr rest))
 case atStart=>exact ⟨none,kids,rfl,⟨fun _ h=>h⟩,⟨Below.refl _ _⟩,⟨Nat.le_refl _⟩,HK⟩
 case round=>
  obtain ⟨pr,rest,rfl,HM,HBw,HG,HKr⟩:=hrel
  cases rest with
  |nil=>
   have e:pv (firstB [])=.pointer none:=rfl
   rw [e]
   go_wp2
   go_end0
   exact ⟨rfl,HBw.out⟩
  |cons t r=>
   obtain ⟨ht,hr⟩:=HKr.out
   obtain ⟨g',rfl⟩:∃ g',gk=g'+1:=⟨gk - 1,by have:=HG.out;simp only [List.length_cons] at this;omega⟩
   have e:pv (firstB (t::r))=.pointer (some ⟨t.blk,0,none⟩):=rfl
   rw [e]
   have ho:=cell_keep HBw.out Aho.out
   have hf:=cell_keep HBw.out Ahf.out
   have CI:=am (IH.out t (HM.out t (List.mem_cons_self ..)) wr (some b) pr (firstB r) Bo Bi Bf (DT.At.keep HBw.out ht) (HS.out t (HM.out t (List.mem_cons_self ..))) ho hf)
   have HT:=am ht
   have HR:=am hr
   clear ht hr
   go_wp2_with (go_at_call 263;fail)
   refine CI.out.mono ?_
   rintro e w1 ⟨rfl,hw⟩
   have HW1:=am (HBw.out.trans (hw.mono (HBw.out.size)))
   clear hw
   have f4:w1.cell? ⟨t.blk,4,none⟩=some (pv (firstB r)):=At_next (DT.At.keep HW1.out HT.out)
   clear ho
   clear hf
   go_wp2
   go_roundg g'
   case measure=>omega
   case rel=>exact ⟨some t.blk,r,rfl,⟨fun u hu=>HM.out u (List.mem_cons_of_mem _ hu)⟩,HW1,⟨by have:=HG.out;simp only [List.length_cons] at this;omega⟩,HR⟩
theorem swapTags1_225_calls (t:DT):∀ (w:World) (par prev next:Option Nat) (Bo Bi Bf:Nat) (h:DT.At w par prev next t) (hs:t.Shape) (ho:w.cell? ⟨Bo,0,none⟩=some (.func (.func 220) #[] #[])) (hf:w.cell? ⟨Bf,0,none⟩=some (.func (.func 263) #[] #[.pointer (some ⟨Bo,0,none⟩),.pointer (some ⟨Bi,0,none⟩),.pointer (some ⟨Bf,0,none⟩)])),
  Calls Tryz.prog 263 #[.pointer (some ⟨t.blk,0,none⟩),.pointer (some ⟨Bo,0,none⟩),.pointer (some ⟨Bi,0,none⟩),.pointer (some ⟨Bf,0,none⟩)] w fun e w'=>e=.returned (.tuple #[])∧Below w.heap.size w w':=by
 induction t using DT.induct with
 |h b i kids IH=>
 intro w par prev next Bo Bi Bf h hs ho hf
 have IH:=am IH
 have HS:=am hs.2.2.2.mem
 have HK:=am h.2
 have Aho:=am ho
 have Ahf:=am hf
 have HSz:=am (Array.getElem?_eq_some_iff.1 h.1).1
 have H1:=am h.1
 have CP:=am (isLink_calls w b i kids par prev next ⟨h,hs⟩)
 have f1:=(At_fields h).2.1
 clear h hs hf
 show Calls Tryz.prog 263 #[.pointer (some ⟨b,0,none⟩),.pointer (some ⟨Bo,0,none⟩),.pointer (some ⟨Bi,0,none⟩),.pointer (some ⟨Bf,0,none⟩)] w _
 go_enter Tryz.func263,Tryz.ntmps263
 go_wp2_with (go_at_call 220;fail)
 refine CP.out.mono ?_
 rintro e w1 ⟨rfl,hw⟩
 rw [hw]
 clear hw
 clear ho
 go_wp2
 go_loopg [6] kids.length (fun gf v3 wx=>∃ (pr:Option Nat) (rest:List DT),v3=pv (firstB rest)∧Aside0 (∀ t∈rest,t∈kids)∧Aside0 (Below w.heap.size w wx)∧Aside0 (rest.length≤gf)∧Aside0 (KidsAt w b pr rest))
 case atStart=>exact ⟨none,kids,rfl,⟨fun _ h=>h⟩,⟨Below.refl _ _⟩,⟨Nat.le_refl _⟩,HK⟩
 case round=>
  obtain ⟨pr,rest,rfl,HM,HBw,HG,HKr⟩:=hrel
  cases rest with
  |nil=>
   have e:pv (firstB [])=.pointer none:=rfl
   rw [e]
   go_wp2
   go_end0
   exact ⟨rfl,HBw.out⟩
  |cons t r=>
   obtain ⟨ht,hr⟩:=HKr.out
   obtain ⟨g',rfl⟩:∃ g',gk=g'+1:=⟨gk - 1,by have:=HG.out;simp only [List.length_cons] at this;omega⟩
   have e:pv (firstB (t::r))=.pointer (some ⟨t.blk,0,none⟩):=rfl
   rw [e]
   have ho:=cell_keep HBw.out Aho.out
   have hf:=cell_keep HBw.out Ahf.out
   have CI:=am (IH.out t (HM.out t (List.mem_cons_self ..)) wr (some b) pr (firstB r) Bo Bi Bf (DT.At.keep HBw.out ht) (HS.out t (HM.out t (List.mem_cons_self ..))) ho hf)
   have HT:=am ht
   have HR:=am hr
   clear ht hr
   go_wp2_with (go_at_call 263;fail)
   refine CI.out.mono ?_
   rintro e w1 ⟨rfl,hw⟩
   have HW1:=am (HBw.out.trans (hw.mono (HBw.out.size)))
   clear hw
   have f4:w1.cell? ⟨t.blk,4,none⟩=some (pv (firstB r)):=At_next (DT.At.keep HW1.out HT.out)
   clear ho
   clear hf
   go_wp2
   go_roundg g'
   case measure=>omega
   case rel=>exact ⟨some t.blk,r,rfl,⟨fun u hu=>HM.out u (List.mem_cons_of_mem _ hu)⟩,HW1,⟨by have:=HG.out;simp only [List.length_cons] at this;omega⟩,HR⟩
theorem three_boxes (w:World) (u1 u2 u3:Value) (T1 T2 T3:TypeId):Below w.heap.size w (((w.alloc (.cells #[u1] T1)).alloc (.cells #[u2] T2)).alloc (.cells #[u3] T3)) ∧
  (((w.alloc (.cells #[u1] T1)).alloc (.cells #[u2] T2)).alloc (.cells #[u3] T3)).cell? ⟨w.heap.size,0,none⟩=some u1∧(((w.alloc (.cells #[u1] T1)).alloc (.cells #[u2] T2)).alloc (.cells #[u3] T3)).cell? ⟨w.heap.size+1,0,none⟩=some u2 ∧
  (((w.alloc (.cells #[u1] T1)).alloc (.cells #[u2] T2)).alloc (.cells #[u3] T3)).cell? ⟨w.heap.size+1+1,0,none⟩=some u3:=by
 have e1:=alloc_size w (.cells #[u1] T1)
 have e2:=alloc_size (w.alloc (.cells #[u1] T1)) (.cells #[u2] T2)
 refine ⟨(((Below.refl _ w).alloc (Nat.le_refl _) _).alloc (by omega) _).alloc (by omega) _,?_,?_,?_⟩
 ·rw [World.cell?_of_block (Below.heap_alloc _ _ w.heap.size (by omega)),World.cell?_of_block (Below.heap_alloc _ _ w.heap.size (by omega))]
  exact box_cell _ _ _
 ·rw [World.cell?_of_block (Below.heap_alloc _ _ (w.heap.size+1) (by omega)),← e1]
  exact box_cell _ _ _
 ·rw [← e1,← e2]
  exact box_cell _ _ _
theorem swapTags_221_calls (w:World) (t:DT) (h:DocAt w t) (v:Value):
  Calls Tryz.prog 215 #[v,.pointer (some ⟨t.blk,0,none⟩),.func (.func 216) #[] #[],.func (.func 217) #[] #[]] w fun e w'=>e=.returned (.tuple #[])∧Below w.heap.size w w':=by
 have hmf:∀ (fn:Fn) (first cap:Array Value) (w:World),(Instr.makeFunc fn first cap).run Tryz.prog w=.ok (.func fn first cap) w:=fun _ _ _ _=>rfl
 have HD:=am h
 have HX:=am (three_boxes w (.func (.func 216) #[] #[]) (.func (.func 217) #[] #[]) (.func (.func 263) #[] #[.pointer (some ⟨w.heap.size,0,none⟩),.pointer (some ⟨w.heap.size+1,0,none⟩),.pointer (some ⟨w.heap.size+1+1,0,none⟩)]) 277 277 164)
 clear h
 go_enter Tryz.func215,Tryz.ntmps215
 go_wp2_with (go_at_call 263;fail)
 obtain ⟨hB,h1,h2,h3⟩:=HX.out
 refine (swapTags1_221_calls t _ none none none _ _ _ (DT.At.keep hB HD.out.at_) HD.out.shape h1 h3).mono ?_
 rintro e w1 ⟨rfl,hw⟩
 have HW:=am (hB.trans (hw.mono hB.size))
 clear hw hB h1 h2 h3
 go_wp2
 go_end0
 exact ⟨rfl,HW.out⟩
theorem swapTags_218_calls (w:World) (t:DT) (h:DocAt w t) (v:Value):
  Calls Tryz.prog 215 #[v,.pointer (some ⟨t.blk,0,none⟩),.func (.func 213) #[] #[],.func (.func 220) #[] #[]] w fun e w'=>e=.returned (.tuple #[])∧Below w.heap.size w w':=by
 have hmf:∀ (fn:Fn) (first cap:Array Value) (w:World),(Instr.makeFunc fn first cap).run Tryz.prog w=.ok (.func fn first cap) w:=fun _ _ _ _=>rfl
 have HD:=am h
 have HX:=am (three_boxes w (.func (.func 213) #[] #[]) (.func (.func 220) #[] #[]) (.func (.func 263) #[] #[.pointer (some ⟨w.heap.size,0,none⟩),.pointer (some ⟨w.heap.size+1,0,none⟩),.pointer (some ⟨w.heap.size+1+1,0,none⟩)]) 277 277 164)
 clear h
 go_enter Tryz.func215,Tryz.ntmps215
 go_wp2_with (go_at_call 263;fail)
 obtain ⟨hB,h1,h2,h3⟩:=HX.out
 refine (swapTags1_218_calls t _ none none none _ _ _ (DT.At.keep hB HD.out.at_) HD.out.shape h1 h3).mono ?_
 rintro e w1 ⟨rfl,hw⟩
 have HW:=am (hB.trans (hw.mono hB.size))
 clear hw hB h1 h2 h3
 go_wp2
 go_end0
 exact ⟨rfl,HW.out⟩
theorem swapTags_225_calls (w:World) (t:DT) (h:DocAt w t) (v:Value):
  Calls Tryz.prog 215 #[v,.pointer (some ⟨t.blk,0,none⟩),.func (.func 220) #[] #[],.func (.func 221) #[] #[]] w fun e w'=>e=.returned (.tuple #[])∧Below w.heap.size w w':=by
 have hmf:∀ (fn:Fn) (first cap:Array Value) (w:World),(Instr.makeFunc fn first cap).run Tryz.prog w=.ok (.func fn first cap) w:=fun _ _ _ _=>rfl
 have HD:=am h
 have HX:=am (three_boxes w (.func (.func 220) #[] #[]) (.func (.func 221) #[] #[]) (.func (.func 263) #[] #[.pointer (some ⟨w.heap.size,0,none⟩),.pointer (some ⟨w.heap.size+1,0,none⟩),.pointer (some ⟨w.heap.size+1+1,0,none⟩)]) 277 277 164)
 clear h
 go_enter Tryz.func215,Tryz.ntmps215
 go_wp2_with (go_at_call 263;fail)
 obtain ⟨hB,h1,h2,h3⟩:=HX.out
 refine (swapTags1_225_calls t _ none none none _ _ _ (DT.At.keep hB HD.out.at_) HD.out.shape h1 h3).mono ?_
 rintro e w1 ⟨rfl,hw⟩
 have HW:=am (hB.trans (hw.mono hB.size))
 clear hw hB h1 h2 h3
 go_wp2
 go_end0
 exact ⟨rfl,HW.out⟩
theorem moveListItems_calls (t:DT):∀ (w:World) (par prev next:Option Nat) (v:Value) (h:DT.At w par prev next t) (hs:t.Shape),
  Calls Tryz.prog 223 #[v,.pointer (some ⟨t.blk,0,none⟩)] w fun e w'=>e=.returned (.tuple #[])∧Below w.heap.size w w':=by
 induction t using DT.induct with
 |h b i kids IH=>
 intro w par prev next v h hs
 have IH:=am IH
 have HS:=am hs.2.2.2.mem
 have HK:=am h.2
 have f1:=(At_fields h).2.1
 have f5:=(At_fields h).2.2.2.2.2.1
 have f7:=(At_fields h).2.2.2.2.2.2.2.1
 have hp:=hs.1
 clear h hs
 show Calls Tryz.prog 223 #[v,.pointer (some ⟨b,0,none⟩)] w _
 rcases hp with hk|hk|⟨hk,hd⟩|⟨hk,hd⟩|⟨hk,hd⟩|⟨hk,hd⟩|⟨hk,hd⟩|⟨hk,hd⟩|⟨hk,hd⟩
 ·rw [hk] at f5
  change w.cell? ⟨b,5,none⟩=some (.int .u32 1) at f5
  go_enter Tryz.func223,Tryz.ntmps223
  go_wp2
  go_loopg [9] kids.length (fun gf v3 wx=>∃ (pr:Option Nat) (rest:List DT),v3=pv (firstB rest)∧Aside0 (∀ t∈rest,t∈kids)∧Aside0 (Below w.heap.size w wx)∧Aside0 (rest.length≤gf)∧Aside0 (KidsAt w b pr rest))
  case atStart=>exact ⟨none,kids,rfl,⟨fun _ h=>h⟩,⟨Below.refl _ _⟩,⟨Nat.le_refl _⟩,HK⟩
  case round=>
   obtain ⟨pr,rest,rfl,HM,HBw,HG,HKr⟩:=hrel
   cases rest with
   |nil=>
    have e:pv (firstB [])=.pointer none:=rfl
    rw [e]
    go_wp2
    go_end0
    exact ⟨rfl,HBw.out⟩
   |cons t r=>
    obtain ⟨ht,hr⟩:=HKr.out
    obtain ⟨g',rfl⟩:∃ g',gk=g'+1:=⟨gk - 1,by have:=HG.out;simp only [List.length_cons] at this;omega⟩
    have e:pv (firstB (t::r))=.pointer (some ⟨t.blk,0,none⟩):=rfl
    rw [e]
    have CI:=am (IH.out t (HM.out t (List.mem_cons_self ..)) wr (some b) pr (firstB r) v (DT.At.keep HBw.out ht) (HS.out t (HM.out t (List.mem_cons_self ..))))
    have HT:=am ht
    have HR:=am hr
    clear ht hr
    go_wp2_with (go_at_call 223;fail)
    refine CI.out.mono ?_
    rintro e w1 ⟨rfl,hw⟩
    have HW1:=am (HBw.out.trans (hw.mono (HBw.out.size)))
    clear hw
    have f4:w1.cell? ⟨t.blk,4,none⟩=some (pv (firstB r)):=At_next (DT.At.keep HW1.out HT.out)
    go_wp2
    go_roundg g'
    case measure=>omega
    case rel=>exact ⟨some t.blk,r,rfl,⟨fun u hu=>HM.out u (List.mem_cons_of_mem _ hu)⟩,HW1,⟨by have:=HG.out;simp only [List.length_cons] at this;omega⟩,HR⟩
 ·rw [hk] at f5
  change w.cell? ⟨b,5,none⟩=some (.int .u32 2) at f5
  go_enter Tryz.func223,Tryz.ntmps223
  go_wp2
  go_loopg [9] kids.length (fun gf v3 wx=>∃ (pr:Option Nat) (rest:List DT),v3=pv (firstB rest)∧Aside0 (∀ t∈rest,t∈kids)∧Aside0 (Below w.heap.size w wx)∧Aside0 (rest.length≤gf)∧Aside0 (KidsAt w b pr rest))
  case atStart=>exact ⟨none,kids,rfl,⟨fun _ h=>h⟩,⟨Below.refl _ _⟩,⟨Nat.le_refl _⟩,HK⟩
  case round=>
   obtain ⟨pr,rest,rfl,HM,HBw,HG,HKr⟩:=hrel
   cases rest with
   |nil=>
    have e:pv (firstB [])=.pointer none:=rfl
    rw [e]
    go_wp2
    go_end0
    exact ⟨rfl,HBw.out⟩
   |cons t r=>
    obtain ⟨ht,hr⟩:=HKr.out
    obtain ⟨g',rfl⟩:∃ g',gk=g'+1:=⟨gk - 1,by have:=HG.out;simp only [List.length_cons] at this;omega⟩
    have e:pv (firstB (t::r))=.pointer (some ⟨t.blk,0,none⟩):=rfl
    rw [e]
    have CI:=am (IH.out t (HM.out t (List.mem_cons_self ..)) wr (some b) pr (firstB r) v (DT.At.keep HBw.out ht) (HS.out t (HM.out t (List.mem_cons_self ..))))
    have HT:=am ht
    have HR:=am hr
    clear ht hr
    go_wp2_with (go_at_call 223;fail)
    refine CI.out.mono ?_
    rintro e w1 ⟨rfl,hw⟩
    have HW1:=am (HBw.out.trans (hw.mono (HBw.out.size)))
    clear hw
    have f4:w1.cell? ⟨t.blk,4,none⟩=some (pv (firstB r)):=At_next (DT.At.keep HW1.out HT.out)
    go_wp2
    go_roundg g'
    case measure=>omega
    case rel=>exact ⟨some t.blk,r,rfl,⟨fun u hu=>HM.out u (List.mem_cons_of_mem _ hu)⟩,HW1,⟨by have:=HG.out;simp only [List.length_cons] at this;omega⟩,HR⟩
 ·rw [hk] at f5
  change w.cell? ⟨b,5,none⟩=some (.int .u32 3) at f5
  rw [hd] at f7
  change w.cell? ⟨b,7,none⟩=some (.string ⟨#[116,97,98,108,101]⟩) at f7
  go_enter Tryz.func223,Tryz.ntmps223
  go_wp2
  go_loopg [9] kids.length (fun gf v3 wx=>∃ (pr:Option Nat) (rest:List DT),v3=pv (firstB rest)∧Aside0 (∀ t∈rest,t∈kids)∧Aside0 (Below w.heap.size w wx)∧Aside0 (rest.length≤gf)∧Aside0 (KidsAt w b pr rest))
  case atStart=>exact ⟨none,kids,rfl,⟨fun _ h=>h⟩,⟨Below.refl _ _⟩,⟨Nat.le_refl _⟩,HK⟩
  case round=>
   obtain ⟨pr,rest,rfl,HM,HBw,HG,HKr⟩:=hrel
   cases rest with
   |nil=>
    have e:pv (firstB [])=.pointer none:=rfl
    rw [e]
    go_wp2
    go_end0
    exact ⟨rfl,HBw.out⟩
   |cons t r=>
    obtain ⟨ht,hr⟩:=HKr.out
    obtain ⟨g',rfl⟩:∃ g',gk=g'+1:=⟨gk - 1,by have:=HG.out;simp only [List.length_cons] at this;omega⟩
    have e:pv (firstB (t::r))=.pointer (some ⟨t.blk,0,none⟩):=rfl
    rw [e]
    have CI:=am (IH.out t (HM.out t (List.mem_cons_self ..)) wr (some b) pr (firstB r) v (DT.At.keep HBw.out ht) (HS.out t (HM.out t (List.mem_cons_self ..))))
    have HT:=am ht
    have HR:=am hr
    clear ht hr
    go_wp2_with (go_at_call 223;fail)
    refine CI.out.mono ?_
    rintro e w1 ⟨rfl,hw⟩
    have HW1:=am (HBw.out.trans (hw.mono (HBw.out.size)))
    clear hw
    have f4:w1.cell? ⟨t.blk,4,none⟩=some (pv (firstB r)):=At_next (DT.At.keep HW1.out HT.out)
    go_wp2
    go_roundg g'
    case measure=>omega
    case rel=>exact ⟨some t.blk,r,rfl,⟨fun u hu=>HM.out u (List.mem_cons_of_mem _ hu)⟩,HW1,⟨by have:=HG.out;simp only [List.length_cons] at this;omega⟩,HR⟩
 ·rw [hk] at f5
  change w.cell? ⟨b,5,none⟩=some (.int .u32 3) at f5
  rw [hd] at f7
  change w.cell? ⟨b,7,none⟩=some (.string ⟨#[116,104,101,97,100]⟩) at f7
  go_enter Tryz.func223,Tryz.ntmps223
  go_wp2
  go_loopg [9] kids.length (fun gf v3 wx=>∃ (pr:Option Nat) (rest:List DT),v3=pv (firstB rest)∧Aside0 (∀ t∈rest,t∈kids)∧Aside0 (Below w.heap.size w wx)∧Aside0 (rest.length≤gf)∧Aside0 (KidsAt w b pr rest))
  case atStart=>exact ⟨none,kids,rfl,⟨fun _ h=>h⟩,⟨Below.refl _ _⟩,⟨Nat.le_refl _⟩,HK⟩
  case round=>
   obtain ⟨pr,rest,rfl,HM,HBw,HG,HKr⟩:=hrel
   cases rest with
   |nil=>
    have e:pv (firstB [])=.pointer none:=rfl
    rw [e]
    go_wp2
    go_end0
    exact ⟨rfl,HBw.out⟩
   |cons t r=>
    obtain ⟨ht,hr⟩:=HKr.out
    obtain ⟨g',rfl⟩:∃ g',gk=g'+1:=⟨gk - 1,by have:=HG.out;simp only [List.length_cons] at this;omega⟩
    have e:pv (firstB (t::r))=.pointer (some ⟨t.blk,0,none⟩):=rfl
    rw [e]
    have CI:=am (IH.out t (HM.out t (List.mem_cons_self ..)) wr (some b) pr (firstB r) v (DT.At.keep HBw.out ht) (HS.out t (HM.out t (List.mem_cons_self ..))))
    have HT:=am ht
    have HR:=am hr
    clear ht hr
    go_wp2_with (go_at_call 223;fail)
    refine CI.out.mono ?_
    rintro e w1 ⟨rfl,hw⟩
    have HW1:=am (HBw.out.trans (hw.mono (HBw.out.size)))
    clear hw
    have f4:w1.cell? ⟨t.blk,4,none⟩=some (pv (firstB r)):=At_next (DT.At.keep HW1.out HT.out)
    go_wp2
    go_roundg g'
    case measure=>omega
    case rel=>exact ⟨some t.blk,r,rfl,⟨fun u hu=>HM.out u (List.mem_cons_of_mem _ hu)⟩,HW1,⟨by have:=HG.out;simp only [List.length_cons] at this;omega⟩,HR⟩
 ·rw [hk] at f5
  change w.cell? ⟨b,5,none⟩=some (.int .u32 3) at f5
  rw [hd] at f7
  change w.cell? ⟨b,7,none⟩=some (.string ⟨#[116,98,111,100,121]⟩) at f7
  go_enter Tryz.func223,Tryz.ntmps223
  go_wp2
  go_loopg [9] kids.length (fun gf v3 wx=>∃ (pr:Option Nat) (rest:List DT),v3=pv (firstB rest)∧Aside0 (∀ t∈rest,t∈kids)∧Aside0 (Below w.heap.size w wx)∧Aside0 (rest.length≤gf)∧Aside0 (KidsAt w b pr rest))
  case atStart=>exact ⟨none,kids,rfl,⟨fun _ h=>h⟩,⟨Below.refl _ _⟩,⟨Nat.le_refl _⟩,HK⟩
  case round=>
   obtain ⟨pr,rest,rfl,HM,HBw,HG,HKr⟩:=hrel
   cases rest with
   |nil=>
    have e:pv (firstB [])=.pointer none:=rfl
    rw [e]
    go_wp2
    go_end0
    exact ⟨rfl,HBw.out⟩
   |cons t r=>
    obtain ⟨ht,hr⟩:=HKr.out
    obtain ⟨g',rfl⟩:∃ g',gk=g'+1:=⟨gk - 1,by have:=HG.out;simp only [List.length_cons] at this;omega⟩
    have e:pv (firstB (t::r))=.pointer (some ⟨t.blk,0,none⟩):=rfl
    rw [e]
    have CI:=am (IH.out t (HM.out t (List.mem_cons_self ..)) wr (some b) pr (firstB r) v (DT.At.keep HBw.out ht) (HS.out t (HM.out t (List.mem_cons_self ..))))
    have HT:=am ht
    have HR:=am hr
    clear ht hr
    go_wp2_with (go_at_call 223;fail)
    refine CI.out.mono ?_
    rintro e w1 ⟨rfl,hw⟩
    have HW1:=am (HBw.out.trans (hw.mono (HBw.out.size)))
    clear hw
    have f4:w1.cell? ⟨t.blk,4,none⟩=some (pv (firstB r)):=At_next (DT.At.keep HW1.out HT.out)
    go_wp2
    go_roundg g'
    case measure=>omega
    case rel=>exact ⟨some t.blk,r,rfl,⟨fun u hu=>HM.out u (List.mem_cons_of_mem _ hu)⟩,HW1,⟨by have:=HG.out;simp only [List.length_cons] at this;omega⟩,HR⟩
 ·rw [hk] at f5
  change w.cell? ⟨b,5,none⟩=some (.int .u32 3) at f5
  rw [hd] at f7
  change w.cell? ⟨b,7,none⟩=some (.string ⟨#[116,102,111,111,116]⟩) at f7
  go_enter Tryz.func223,Tryz.ntmps223
  go_wp2
  go_loopg [9] kids.length (fun gf v3 wx=>∃ (pr:Option Nat) (rest:List DT),v3=pv (firstB rest)∧Aside0 (∀ t∈rest,t∈kids)∧Aside0 (Below w.heap.size w wx)∧Aside0 (rest.length≤gf)∧Aside0 (KidsAt w b pr rest))
  case atStart=>exact ⟨none,kids,rfl,⟨fun _ h=>h⟩,⟨Below.refl _ _⟩,⟨Nat.le_refl _⟩,HK⟩
  case round=>
   obtain ⟨pr,rest,rfl,HM,HBw,HG,HKr⟩:=hrel
   cases rest with
   |nil=>
    have e:pv (firstB [])=.pointer none:=rfl
    rw [e]
    go_wp2
    go_end0
    exact ⟨rfl,HBw.out⟩
   |cons t r=>
    obtain ⟨ht,hr⟩:=HKr.out
    obtain ⟨g',rfl⟩:∃ g',gk=g'+1:=⟨gk - 1,by have:=HG.out;simp only [List.length_cons] at this;omega⟩
    have e:pv (firstB (t::r))=.pointer (some ⟨t.blk,0,none⟩):=rfl
    rw [e]
    have CI:=am (IH.out t (HM.out t (List.mem_cons_self ..)) wr (some b) pr (firstB r) v (DT.At.keep HBw.out ht) (HS.out t (HM.out t (List.mem_cons_self ..))))
    have HT:=am ht
    have HR:=am hr
    clear ht hr
    go_wp2_with (go_at_call 223;fail)
    refine CI.out.mono ?_
    rintro e w1 ⟨rfl,hw⟩
    have HW1:=am (HBw.out.trans (hw.mono (HBw.out.size)))
    clear hw
    have f4:w1.cell? ⟨t.blk,4,none⟩=some (pv (firstB r)):=At_next (DT.At.keep HW1.out HT.out)
    go_wp2
    go_roundg g'
    case measure=>omega
    case rel=>exact ⟨some t.blk,r,rfl,⟨fun u hu=>HM.out u (List.mem_cons_of_mem _ hu)⟩,HW1,⟨by have:=HG.out;simp only [List.length_cons] at this;omega⟩,HR⟩
 ·rw [hk] at f5
  change w.cell? ⟨b,5,none⟩=some (.int .u32 3) at f5
  rw [hd] at f7
  change w.cell? ⟨b,7,none⟩=some (.string ⟨#[116,114]⟩) at f7
  go_enter Tryz.func223,Tryz.ntmps223
  go_wp2
  go_loopg [9] kids.length (fun gf v3 wx=>∃ (pr:Option Nat) (rest:List DT),v3=pv (firstB rest)∧Aside0 (∀ t∈rest,t∈kids)∧Aside0 (Below w.heap.size w wx)∧Aside0 (rest.length≤gf)∧Aside0 (KidsAt w b pr rest))
  case atStart=>exact ⟨none,kids,rfl,⟨fun _ h=>h⟩,⟨Below.refl _ _⟩,⟨Nat.le_refl _⟩,HK⟩
  case round=>
   obtain ⟨pr,rest,rfl,HM,HBw,HG,HKr⟩:=hrel
   cases rest with
   |nil=>
    have e:pv (firstB [])=.pointer none:=rfl
    rw [e]
    go_wp2
    go_end0
    exact ⟨rfl,HBw.out⟩
   |cons t r=>
    obtain ⟨ht,hr⟩:=HKr.out
    obtain ⟨g',rfl⟩:∃ g',gk=g'+1:=⟨gk - 1,by have:=HG.out;simp only [List.length_cons] at this;omega⟩
    have e:pv (firstB (t::r))=.pointer (some ⟨t.blk,0,none⟩):=rfl
    rw [e]
    have CI:=am (IH.out t (HM.out t (List.mem_cons_self ..)) wr (some b) pr (firstB r) v (DT.At.keep HBw.out ht) (HS.out t (HM.out t (List.mem_cons_self ..))))
    have HT:=am ht
    have HR:=am hr
    clear ht hr
    go_wp2_with (go_at_call 223;fail)
    refine CI.out.mono ?_
    rintro e w1 ⟨rfl,hw⟩
    have HW1:=am (HBw.out.trans (hw.mono (HBw.out.size)))
    clear hw
    have f4:w1.cell? ⟨t.blk,4,none⟩=some (pv (firstB r)):=At_next (DT.At.keep HW1.out HT.out)
    go_wp2
    go_roundg g'
    case measure=>omega
    case rel=>exact ⟨some t.blk,r,rfl,⟨fun u hu=>HM.out u (List.mem_cons_of_mem _ hu)⟩,HW1,⟨by have:=HG.out;simp only [List.length_cons] at this;omega⟩,HR⟩
 ·rw [hk] at f5
  change w.cell? ⟨b,5,none⟩=some (.int .u32 3) at f5
  rw [hd] at f7
  change w.cell? ⟨b,7,none⟩=some (.string ⟨#[116,100]⟩) at f7
  go_enter Tryz.func223,Tryz.ntmps223
  go_wp2
  go_loopg [9] kids.length (fun gf v3 wx=>∃ (pr:Option Nat) (rest:List DT),v3=pv (firstB rest)∧Aside0 (∀ t∈rest,t∈kids)∧Aside0 (Below w.heap.size w wx)∧Aside0 (rest.length≤gf)∧Aside0 (KidsAt w b pr rest))
  case atStart=>exact ⟨none,kids,rfl,⟨fun _ h=>h⟩,⟨Below.refl _ _⟩,⟨Nat.le_refl _⟩,HK⟩
  case round=>
   obtain ⟨pr,rest,rfl,HM,HBw,HG,HKr⟩:=hrel
   cases rest with
   |nil=>
    have e:pv (firstB [])=.pointer none:=rfl
    rw [e]
    go_wp2
    go_end0
    exact ⟨rfl,HBw.out⟩
   |cons t r=>
    obtain ⟨ht,hr⟩:=HKr.out
    obtain ⟨g',rfl⟩:∃ g',gk=g'+1:=⟨gk - 1,by have:=HG.out;simp only [List.length_cons] at this;omega⟩
    have e:pv (firstB (t::r))=.pointer (some ⟨t.blk,0,none⟩):=rfl
    rw [e]
    have CI:=am (IH.out t (HM.out t (List.mem_cons_self ..)) wr (some b) pr (firstB r) v (DT.At.keep HBw.out ht) (HS.out t (HM.out t (List.mem_cons_self ..))))
    have HT:=am ht
    have HR:=am hr
    clear ht hr
    go_wp2_with (go_at_call 223;fail)
    refine CI.out.mono ?_
    rintro e w1 ⟨rfl,hw⟩
    have HW1:=am (HBw.out.trans (hw.mono (HBw.out.size)))
    clear hw
    have f4:w1.cell? ⟨t.blk,4,none⟩=some (pv (firstB r)):=At_next (DT.At.keep HW1.out HT.out)
    go_wp2
    go_roundg g'
    case measure=>omega
    case rel=>exact ⟨some t.blk,r,rfl,⟨fun u hu=>HM.out u (List.mem_cons_of_mem _ hu)⟩,HW1,⟨by have:=HG.out;simp only [List.length_cons] at this;omega⟩,HR⟩
 ·rw [hk] at f5
  change w.cell? ⟨b,5,none⟩=some (.int .u32 3) at f5
  rw [hd] at f7
  change w.cell? ⟨b,7,none⟩=some (.string ⟨#[116,104]⟩) at f7
  go_enter Tryz.func223,Tryz.ntmps223
  go_wp2
  go_loopg [9] kids.length (fun gf v3 wx=>∃ (pr:Option Nat) (rest:List DT),v3=pv (firstB rest)∧Aside0 (∀ t∈rest,t∈kids)∧Aside0 (Below w.heap.size w wx)∧Aside0 (rest.length≤gf)∧Aside0 (KidsAt w b pr rest))
  case atStart=>exact ⟨none,kids,rfl,⟨fun _ h=>h⟩,⟨Below.refl _ _⟩,⟨Nat.le_refl _⟩,HK⟩
  case round=>
   obtain ⟨pr,rest,rfl,HM,HBw,HG,HKr⟩:=hrel
   cases rest with
   |nil=>
    have e:pv (firstB [])=.pointer none:=rfl
    rw [e]
    go_wp2
    go_end0
    exact ⟨rfl,HBw.out⟩
   |cons t r=>
    obtain ⟨ht,hr⟩:=HKr.out
    obtain ⟨g',rfl⟩:∃ g',gk=g'+1:=⟨gk - 1,by have:=HG.out;simp only [List.length_cons] at this;omega⟩
    have e:pv (firstB (t::r))=.pointer (some ⟨t.blk,0,none⟩):=rfl
    rw [e]
    have CI:=am (IH.out t (HM.out t (List.mem_cons_self ..)) wr (some b) pr (firstB r) v (DT.At.keep HBw.out ht) (HS.out t (HM.out t (List.mem_cons_self ..))))
    have HT:=am ht
    have HR:=am hr
    clear ht hr
    go_wp2_with (go_at_call 223;fail)
    refine CI.out.mono ?_
    rintro e w1 ⟨rfl,hw⟩
    have HW1:=am (HBw.out.trans (hw.mono (HBw.out.size)))
    clear hw
    have f4:w1.cell? ⟨t.blk,4,none⟩=some (pv (firstB r)):=At_next (DT.At.keep HW1.out HT.out)
    go_wp2
    go_roundg g'
    case measure=>omega
    case rel=>exact ⟨some t.blk,r,rfl,⟨fun u hu=>HM.out u (List.mem_cons_of_mem _ hu)⟩,HW1,⟨by have:=HG.out;simp only [List.length_cons] at this;omega⟩,HR⟩
theorem mergeTexts_calls (t:DT):∀ (w:World) (par prev next:Option Nat) (h:DT.At w par prev next t) (hs:t.Shape),
  Calls Tryz.prog 144 #[.pointer (some ⟨t.blk,0,none⟩)] w fun e w'=>e=.returned (.tuple #[])∧Below w.heap.size w w':=by
 induction t using DT.induct with
 |h b i kids IH=>
 intro w par prev next h hs
 have IH:=am IH
 have HS:=am hs.2.2.2.mem
 have HK:=am h.2
 have f1:=(At_fields h).2.1
 have hk:=hs.2.1
 clear h hs
 show Calls Tryz.prog 144 #[.pointer (some ⟨b,0,none⟩)] w _
 rcases hk with ⟨_,hk⟩|⟨tb,ti,hk⟩
 ·have HE:=am hk
  clear hk
  go_enter Tryz.func144,Tryz.ntmps144
  go_wp2
  go_loopg [2,3] kids.length (fun gf v2 v3 wx=>∃ (pr:Option Nat) (rest:List DT),v2=pv pr∧v3=pv (firstB rest)∧Aside0 (∀ t∈rest,t∈kids)∧Aside0 (Below w.heap.size w wx)∧Aside0 (rest.length≤gf)∧Aside0 (KidsAt w b pr rest))
  case atStart=>exact ⟨none,kids,rfl,rfl,⟨fun _ h=>h⟩,⟨Below.refl _ _⟩,⟨Nat.le_refl _⟩,HK⟩
  case round=>
  obtain ⟨pr,rest,rfl,rfl,HM,HBw,HG,HKr⟩:=hrel
  cases rest with
  |nil=>
   have e:pv (firstB [])=.pointer none:=rfl
   rw [e]
   go_wp2
   go_end0
   exact ⟨rfl,HBw.out⟩
  |cons t r=>
   obtain ⟨ht,hr⟩:=HKr.out
   obtain ⟨g',rfl⟩:∃ g',gk=g'+1:=⟨gk - 1,by have:=HG.out;simp only [List.length_cons] at this;omega⟩
   obtain ⟨tb,ti,tk⟩:=t
   have e:pv (firstB (DT.node tb ti tk::r))=.pointer (some ⟨tb,0,none⟩):=rfl
   rw [e]
   have CI:=am (IH.out _ (HM.out _ (List.mem_cons_self ..)) wr (some b) pr (firstB r) (DT.At.keep HBw.out ht) (HS.out _ (HM.out _ (List.mem_cons_self ..))))
   change Aside0 (Calls Tryz.prog 144 #[.pointer (some ⟨tb,0,none⟩)] wr _) at CI
   have f4:=(At_fields (DT.At.keep HBw.out ht)).2.2.2.2.1
   have f5:=(At_fields (DT.At.keep HBw.out ht)).2.2.2.2.2.1
   have hti:ti.kind=3:=HE.out tb ti tk (HM.out _ (List.mem_cons_self ..))
   rw [hti] at f5
   change wr.cell? ⟨tb,5,none⟩=some (.int .u32 3) at f5
   have HR:=am hr
   clear ht hr hti
   go_wp2_with (go_at_call 144;fail)
   refine CI.out.mono ?_
   rintro e w1 ⟨rfl,hw⟩
   have HW1:=am (HBw.out.trans (hw.mono (HBw.out.size)))
   clear hw f4 f5
   go_wp2
   go_roundg g'
   case measure=>omega
   case rel=>exact ⟨some tb,r,rfl,rfl,⟨fun u hu=>HM.out u (List.mem_cons_of_mem _ hu)⟩,HW1,⟨by have:=HG.out;simp only [List.length_cons] at this;omega⟩,HR⟩
 ·have CI:=am (IH.out _ (List.mem_singleton.2 rfl) w (some b) none none HK.out.1 (HS.out _ (List.mem_singleton.2 rfl)))
  change Aside0 (Calls Tryz.prog 144 #[.pointer (some ⟨tb,0,none⟩)] w _) at CI
  have g4:=(At_fields HK.out.1).2.2.2.2.1
  have g5:=(At_fields HK.out.1).2.2.2.2.2.1
  rw [hk] at g5
  change w.cell? ⟨tb,5,none⟩=some (.int .u32 1) at g5
  change w.cell? ⟨tb,4,none⟩=some (.pointer none) at g4
  change w.cell? ⟨b,1,none⟩=some (.pointer (some ⟨tb,0,none⟩)) at f1
  go_enter Tryz.func144,Tryz.ntmps144
  go_wp2
  go_loopg [2,3] 1 (fun gf v2 v3 wx=>(v2=.pointer none∧v3=.pointer (some ⟨tb,0,none⟩)∧wx=w∧1≤gf)∨(v2=.pointer (some ⟨tb,0,none⟩)∧v3=.pointer none∧Aside0 (Below w.heap.size w wx)))
  case atStart=>exact .inl ⟨rfl,rfl,rfl,Nat.le_refl _⟩
  case round=>
  rcases hrel with ⟨rfl,rfl,hwx,hg⟩|⟨rfl,rfl,HBw⟩
  ·subst hwx
   obtain ⟨g',rfl⟩:∃ g',gk=g'+1:=⟨gk - 1,by omega⟩
   go_wp2_with (go_at_call 144;fail)
   refine CI.out.mono ?_
   rintro e w1 ⟨rfl,hw⟩
   have HW1:=am hw
   clear hw g4 g5
   go_wp2
   go_roundg g'
   case measure=>omega
   case rel=>exact .inr ⟨rfl,rfl,HW1⟩
  ·go_wp2
   go_end0
   exact ⟨rfl,HBw.out⟩
theorem two_boxes (w:World) (u1 u2:Value) (T1 T2:TypeId):Below w.heap.size w ((w.alloc (.cells #[u1] T1)).alloc (.cells #[u2] T2)) ∧
  ((w.alloc (.cells #[u1] T1)).alloc (.cells #[u2] T2)).cell? ⟨w.heap.size,0,none⟩=some u1∧((w.alloc (.cells #[u1] T1)).alloc (.cells #[u2] T2)).cell? ⟨w.heap.size+1,0,none⟩=some u2:=by
 have e1:=alloc_size w (.cells #[u1] T1)
 refine ⟨((Below.refl _ w).alloc (Nat.le_refl _) _).alloc (by omega) _,?_,?_⟩
 ·rw [World.cell?_of_block (Below.heap_alloc _ _ w.heap.size (by omega))]
  exact box_cell _ _ _
 ·rw [← e1]
  exact box_cell _ _ _
theorem preRenderRemove_calls (N X C:Nat) (w:World) (t:DT) (h:DocAt w t) (v:Value) (hx:w.cell? ⟨X,1,none⟩=some (.pointer (some ⟨C,0,none⟩))) (hm:MapQuiet N w C 8 97 tagNames) (hN:N≤w.heap.size):
  Calls Tryz.prog 133 #[v,.iface 187 (.pointer (some ⟨X,0,none⟩)),.pointer (some ⟨t.blk,0,none⟩)] w fun e w'=>e=.returned (.tuple #[])∧Below w.heap.size w w':=by
 have hmf:∀ (fn:Fn) (first cap:Array Value) (w:World),(Instr.makeFunc fn first cap).run Tryz.prog w=.ok (.func fn first cap) w:=fun _ _ _ _=>rfl
 have HD:=am h
 have HM:=am hm
 have HX:=am hx
 have HN:=am hN
 clear h hm hx hN
 go_enter Tryz.func133,Tryz.ntmps133
 go_wp2_with (go_at_call 142;fail)
 obtain ⟨hB,h1,h2⟩:=two_boxes w (.iface 187 (.pointer (some ⟨X,0,none⟩))) (.func (.func 142) #[] #[.pointer (some ⟨w.heap.size,0,none⟩),.pointer (some ⟨w.heap.size+1,0,none⟩)]) 135 164
 refine (rem_calls N X C _ t none none none _ _ (DT.At.keep hB HD.out.at_) HD.out.shape ⟨h2,h1,cell_keep hB HX.out,HM.out.keep (hB.mono HN.out),Nat.le_trans HN.out hB.size⟩).mono ?_
 rintro e w1 ⟨rfl,hw⟩
 have HW:=am (hB.trans (hw.mono hB.size))
 have CM:=am (mergeTexts_calls t w1 none none none (DT.At.keep HW.out HD.out.at_) HD.out.shape)
 clear hw hB h1 h2
 go_wp2_with (go_at_call 144;fail)
 refine CM.out.mono ?_
 rintro e w2 ⟨rfl,hw⟩
 have HW2:=am (HW.out.trans (hw.mono HW.out.size))
 clear hw
 go_wp2
 go_end0
 exact ⟨rfl,HW2.out⟩
theorem leafBlocks_calls (w:World) (t:DT) (h:DocAt w t) (v:Value) (hv:∃ T x,v=.iface T x):
  Calls Tryz.prog 222 #[v,.pointer (some ⟨t.blk,0,none⟩)] w fun e w'=>e=.returned (.tuple #[])∧Below w.heap.size w w':=by
 have hmf:∀ (fn:Fn) (first cap:Array Value) (w:World),(Instr.makeFunc fn first cap).run Tryz.prog w=.ok (.func fn first cap) w:=fun _ _ _ _=>rfl
 obtain ⟨T,x,rfl⟩:=hv
 have HD:=am h
 clear h
 go_enter Tryz.func222,Tryz.ntmps222
 go_wp2_with (go_at_call 272;fail)
 obtain ⟨hB,h1,h2⟩:=two_boxes w (.iface T x) (.func (.func 272) #[] #[.pointer (some ⟨w.heap.size,0,none⟩),.pointer (some ⟨w.heap.size+1,0,none⟩)]) 119 346
 refine (leaf_calls _ t none none none _ _ (DT.At.keep hB HD.out.at_) HD.out.shape h2).mono ?_
 rintro e w1 ⟨rfl,hw⟩
 have HW:=am (hB.trans (hw.mono hB.size))
 clear hw hB h1 h2
 go_wp2
 go_end0
 exact ⟨rfl,HW.out⟩
theorem handlePreRender_calls (w:World) (t:DT) (h:DocAt w t) (hl:t.all.length≤1000) (c:Value) (T:TypeId) (x:Value):
  Calls Tryz.prog 187 #[c,.iface T x,.pointer (some ⟨t.blk,0,none⟩)] w fun e w'=>e=.returned (.tuple #[])∧Below w.heap.size w w':=by
 have HD:=am h
 have HL:=am hl
 clear h hl
 go_enter Tryz.func187,Tryz.ntmps187
 go_wp2_with (go_at_call 209;fail)
 refine (renameFakeSpans_calls w t HD.out _).mono ?_
 rintro e w1 ⟨rfl,hw⟩
 have HW1:=am (hw)
 clear hw
 go_wp2_with (go_at_call 210;fail)
 refine (removeRedundant_216_calls w1 t (HD.out.keep HW1.out) HL.out).mono ?_
 rintro e w2 ⟨rfl,hw⟩
 have HW2:=am (HW1.out.trans (hw.mono HW1.out.size))
 clear hw
 go_wp2_with (go_at_call 212;fail)
 refine (mergeAdjacent_isBoldItalic_calls w2 t (HD.out.keep HW2.out)).mono ?_
 rintro e w3 ⟨rfl,hw⟩
 have HW3:=am (HW2.out.trans (hw.mono HW2.out.size))
 clear hw
 go_wp2_with (go_at_call 214;fail)
 refine (removeEmptyCode_calls w3 t (HD.out.keep HW3.out) _).mono ?_
 rintro e w4 ⟨rfl,hw⟩
 have HW4:=am (HW3.out.trans (hw.mono HW3.out.size))
 clear hw
 go_wp2_with (go_at_call 215;fail)
 refine (swapTags_221_calls w4 t (HD.out.keep HW4.out) _).mono ?_
 rintro e w5 ⟨rfl,hw⟩
 have HW5:=am (HW4.out.trans (hw.mono HW4.out.size))
 clear hw
 go_wp2_with (go_at_call 212;fail)
 refine (mergeAdjacent_isInlineCode_calls w5 t (HD.out.keep HW5.out)).mono ?_
 rintro e w6 ⟨rfl,hw⟩
 have HW6:=am (HW5.out.trans (hw.mono HW5.out.size))
 clear hw
 go_wp2_with (go_at_call 218;fail)
 refine (addSpace_calls w6 t (HD.out.keep HW6.out) _).mono ?_
 rintro e w7 ⟨rfl,hw⟩
 have HW7:=am (HW6.out.trans (hw.mono HW6.out.size))
 clear hw
 go_wp2_with (go_at_call 210;fail)
 refine (removeRedundant_224_calls w7 t (HD.out.keep HW7.out) HL.out).mono ?_
 rintro e w8 ⟨rfl,hw⟩
 have HW8:=am (HW7.out.trans (hw.mono HW7.out.size))
 clear hw
 go_wp2_with (go_at_call 215;fail)
 refine (swapTags_218_calls w8 t (HD.out.keep HW8.out) _).mono ?_
 rintro e w9 ⟨rfl,hw⟩
 have HW9:=am (HW8.out.trans (hw.mono HW8.out.size))
 clear hw
 go_wp2_with (go_at_call 215;fail)
 refine (swapTags_225_calls w9 t (HD.out.keep HW9.out) _).mono ?_
 rintro e w10 ⟨rfl,hw⟩
 have HW10:=am (HW9.out.trans (hw.mono HW9.out.size))
 clear hw
 go_wp2_with (go_at_call 222;fail)
 refine (leafBlocks_calls w10 t (HD.out.keep HW10.out) _ ⟨_,_,rfl⟩).mono ?_
 rintro e w11 ⟨rfl,hw⟩
 have HW11:=am (HW10.out.trans (hw.mono HW10.out.size))
 clear hw
 go_wp2_with (go_at_call 223;fail)
 refine (moveListItems_calls t w11 none none none _ ((HD.out.keep HW11.out)).at_ HD.out.shape).mono ?_
 rintro e w12 ⟨rfl,hw⟩
 have HW12:=am (HW11.out.trans (hw.mono HW11.out.size))
 clear hw
 go_wp2
 go_end0
 exact ⟨rfl,HW12.out⟩
theorem listEnds_calls (w:World) (t:DT) (h:DocAt w t) (T:TypeId) (x:Value) (Bm cm:Nat) (hb:w.cell? ⟨Bm,0,none⟩=some (.pointer (some ⟨cm,0,none⟩))) (hc:w.cell? ⟨cm,4,none⟩=some (.bool false)):
  Calls Tryz.prog 188 #[.iface T x,   .pointer (some ⟨t.blk,0,none⟩),.pointer (some ⟨Bm,0,none⟩)] w fun e w'=>e=.returned (.tuple #[])∧Below w.heap.size w w':=by
 have HD:=am h
 clear h
 go_enter Tryz.func188,Tryz.ntmps188
 go_wp2_with (go_at_call 189;fail)
 refine (addListEnd_calls w t HD.out _).mono ?_
 rintro e w1 ⟨rfl,hw⟩
 have HW:=am hw
 clear hw
 go_wp2
 go_end0
 exact ⟨rfl,HW.out⟩
end Go.Proofs.YtbheflncgmhadaaGreat.Hand
