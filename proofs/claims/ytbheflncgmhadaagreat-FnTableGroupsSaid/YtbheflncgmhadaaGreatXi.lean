/- made: a tree out of a plain one. Conditions: those in each statement. -/
import Derived.Test.YtbheflncgmhadaaGreatXh
set_option linter.unusedVariables false
set_option linter.unusedSimpArgs false
set_option maxHeartbeats 40000000
set_option maxRecDepth 100000
namespace Go.Proofs.YtbheflncgmhadaaGreat.Hand
open Go.RowKit Go.Proofs.YtbheflncgmhadaaGreatW.PrintWords Go.Proofs.YtbheflncgmhadaaGreatW.PrintLast Go.Proofs.YtbheflncgmhadaaGreatW.PrintMore
attribute [local go_sem] run_store_func'
def ncells (par fc lc prev next:Option Nat) (i:NI):Array Value:=#[pv par,pv fc,pv lc,pv prev,pv next,.int .u32 (i.kind:Int),.int .u32 i.atom,.string i.data,.string ⟨#[]⟩,i.attr]
abbrev nodeObj (par fc lc prev next:Option Nat) (i:NI):Obj:=.cells (ncells par fc lc prev next i) 161 (0,0)
theorem nodeObj_cells {w:World} {b:Nat} {par fc lc prev next:Option Nat} {i:NI} (h:w.heap[b]?=some (nodeObj par fc lc prev next i)):
  w.cell? ⟨b,0,none⟩=some (pv par)∧w.cell? ⟨b,1,none⟩=some (pv fc)∧w.cell? ⟨b,2,none⟩=some (pv lc)∧w.cell? ⟨b,3,none⟩=some (pv prev)∧w.cell? ⟨b,4,none⟩=some (pv next) ∧
   w.frozen? ⟨b,0,none⟩=false∧w.frozen? ⟨b,1,none⟩=false∧w.frozen? ⟨b,2,none⟩=false∧w.frozen? ⟨b,3,none⟩=false∧w.frozen? ⟨b,4,none⟩=false:=by
 refine ⟨?_,?_,?_,?_,?_,?_,?_,?_,?_,?_⟩ <;> simp [World.cell?,World.frozen?,h,ncells]
theorem appendFirst_calls (w:World) (n c:Nat) (hne:n≠c) (np nv nx:Option Nat) (ni ci:NI) (cf cl:Option Nat) (hn:w.heap[n]?=some (nodeObj np none none nv nx ni)) (hc:w.heap[c]?=some (nodeObj none cf cl none none ci)):
  Calls Tryz.prog 57 #[.pointer (some ⟨n,0,none⟩),.pointer (some ⟨c,0,none⟩)] w fun e w'=>e=.returned (.tuple #[]) ∧
   w'=(((w.setCell ⟨n,1,none⟩ (pv (some c))).setCell ⟨n,2,none⟩ (pv (some c))).setCell ⟨c,0,none⟩ (pv (some n))).setCell ⟨c,3,none⟩ (pv none):=by
 obtain ⟨n0,n1,n2,n3,n4,g0,g1,g2,g3,g4⟩:=nodeObj_cells hn
 obtain ⟨c0,c1,c2,c3,c4,h0,h1,h2,h3,h4⟩:=nodeObj_cells hc
 change w.cell? ⟨c,0,none⟩=some (.pointer none) at c0
 change w.cell? ⟨c,3,none⟩=some (.pointer none) at c3
 change w.cell? ⟨c,4,none⟩=some (.pointer none) at c4
 change w.cell? ⟨n,2,none⟩=some (.pointer none) at n2
 have hnc:¬ n=c:=hne
 have hcn:¬ c=n:=fun e=>hne e.symm
 clear hn hc
 go_enter Tryz.func57,Tryz.ntmps57
 go_wp2
 go_end0
 exact ⟨rfl,rfl⟩
theorem appendNext_calls (w:World) (n c l:Nat) (hne:n≠c) (hnl:n≠l) (hlc:l≠c) (np nf nv nx:Option Nat) (ni ci li:NI) (cf cl lp lf ll lv:Option Nat) (hn:w.heap[n]?=some (nodeObj np nf (some l) nv nx ni)) (hc:w.heap[c]?=some (nodeObj none cf cl none none ci)) (hl:w.heap[l]?=some (nodeObj lp lf ll lv none li)):
  Calls Tryz.prog 57 #[.pointer (some ⟨n,0,none⟩),.pointer (some ⟨c,0,none⟩)] w fun e w'=>e=.returned (.tuple #[]) ∧
   w'=(((w.setCell ⟨l,4,none⟩ (pv (some c))).setCell ⟨n,2,none⟩ (pv (some c))).setCell ⟨c,0,none⟩ (pv (some n))).setCell ⟨c,3,none⟩ (pv (some l)):=by
 obtain ⟨n0,n1,n2,n3,n4,g0,g1,g2,g3,g4⟩:=nodeObj_cells hn
 obtain ⟨c0,c1,c2,c3,c4,h0,h1,h2,h3,h4⟩:=nodeObj_cells hc
 obtain ⟨l0,l1,l2,l3,l4,k0,k1,k2,k3,k4⟩:=nodeObj_cells hl
 change w.cell? ⟨c,0,none⟩=some (.pointer none) at c0
 change w.cell? ⟨c,3,none⟩=some (.pointer none) at c3
 change w.cell? ⟨c,4,none⟩=some (.pointer none) at c4
 change w.cell? ⟨n,2,none⟩=some (.pointer (some ⟨l,0,none⟩)) at n2
 have hnc:¬ n=c:=hne
 have hcn:¬ c=n:=fun e=>hne e.symm
 have hnl1:¬ n=l:=hnl
 have hln1:¬ l=n:=fun e=>hnl e.symm
 have hlc1:¬ l=c:=hlc
 have hcl1:¬ c=l:=fun e=>hlc e.symm
 clear hn hc hl
 go_enter Tryz.func57,Tryz.ntmps57
 go_wp2
 go_end0
 exact ⟨rfl,rfl⟩
end Go.Proofs.YtbheflncgmhadaaGreat.Hand
namespace Go.Proofs.YtbheflncgmhadaaGreat.Hand
open Go.RowKit Go.Proofs.YtbheflncgmhadaaGreatW.PrintWords Go.Proofs.YtbheflncgmhadaaGreatW.PrintLast Go.Proofs.YtbheflncgmhadaaGreatW.PrintMore
mutual
theorem DT.At.same {w w':World}:∀ {t:DT} {par prev next:Option Nat},(∀ k∈t.all,w'.heap[k]?=w.heap[k]?)→DT.At w par prev next t→DT.At w' par prev next t
 |.node b i kids,par,prev,next,h,⟨h1,h2⟩=>⟨by rw [h b (by rw [DT.all];exact List.mem_cons_self ..)];exact h1,KidsAt.same (fun k hk=>h k (by rw [DT.all];exact List.mem_cons_of_mem _ hk)) h2⟩
theorem KidsAt.same {w w':World}:∀ {l:List DT} {par:Nat} {prev:Option Nat},(∀ k∈DT.allL l,w'.heap[k]?=w.heap[k]?)→KidsAt w par prev l→KidsAt w' par prev l
 |[],_,_,_,_=>trivial
 |t::r,par,prev,h,⟨h1,h2⟩=>⟨DT.At.same (fun k hk=>h k (by rw [DT.allL_cons];exact List.mem_append_left _ hk)) h1,KidsAt.same (fun k hk=>h k (by rw [DT.allL_cons];exact List.mem_append_right _ hk)) h2⟩
end
theorem lastB_cons (t u:DT) (r:List DT):lastB (t::u::r)=lastB (u::r):=by
 show (match lastB (u::r) with|some b=>some b|none=>some t.blk)=_
 have:∃ x,lastB (u::r)=some x:=by
  show ∃ x,(match lastB r with|some b=>some b|none=>some u.blk)=some x
  cases lastB r with
  |none=>exact ⟨_,rfl⟩
  |some x=>exact ⟨_,rfl⟩
 obtain ⟨x,hx⟩:=this
 rw [hx]
theorem lastB_mem:∀ {l:List DT} {x:Nat},lastB l=some x→x∈DT.allL l
 |[],x,h=>by cases h
 |[t],x,h=>by
  have:t.blk=x:=by simpa [lastB] using h
  subst this
  rw [DT.allL_cons];exact List.mem_append_left _ mem_blk
 |t::u::r,x,h=>by
  rw [lastB_cons] at h
  rw [DT.allL_cons];exact List.mem_append_right _ (lastB_mem h)
theorem lastB_snoc:∀ (l:List DT) (t:DT),lastB (l++[t])=some t.blk
 |[],t=>rfl
 |[u],t=>rfl
 |u::v::r,t=>by
  rw [List.cons_append,List.cons_append,lastB_cons]
  exact lastB_snoc (v::r) t
theorem firstB_snoc (l:List DT) (t:DT):firstB (l++[t])=some ((firstB l).getD t.blk):=by cases l <;> rfl
theorem kids_snoc {w w':World} {b:Nat} {t:DT}:∀ (done:List DT) (prev:Option Nat),KidsAt w b prev done→(DT.allL done).Nodup→DT.At w' (some b) (match lastB done with|some l=>some l|none=>prev) none t →
  (∀ l par fc lc pr nx i,lastB done=some l→w.heap[l]?=some (nodeObj par fc lc pr nx i)→w'.heap[l]?=some (nodeObj par fc lc pr (some t.blk) i))→(∀ k∈DT.allL done,lastB done≠some k→w'.heap[k]?=w.heap[k]?)→KidsAt w' b prev (done++[t])
 |[],prev,_,_,ht,_,_=>⟨ht,trivial⟩
 |[d],prev,h,hn,ht,hl,hk=>by
  obtain ⟨db,di,dk⟩:=d
  have hlast:lastB [DT.node db di dk]=some db:=rfl
  rw [hlast] at ht
  refine ⟨⟨hl db _ _ _ _ _ di hlast h.1.1,KidsAt.same (fun k hk2=>hk k (by rw [DT.allL_cons,DT.all];exact List.mem_append_left _ (List.mem_cons_of_mem _ hk2)) ?_) h.1.2⟩,ht,trivial⟩
  intro e
  rw [hlast] at e
  have e:db=k:=by injection e
  subst e
  rw [DT.allL_cons,DT.all,List.nodup_append,List.nodup_cons] at hn
  exact hn.1.1 hk2
 |d::u::r,prev,h,hn,ht,hl,hk=>by
  rw [lastB_cons] at ht hl hk
  obtain ⟨n1,n2,n3⟩:=nodup_parts hn
  have hu:(match lastB (u::r) with|some l=>some l|none=>some d.blk)=(match lastB (u::r) with|some l=>some l|none=>prev):=by
   obtain ⟨x,hx⟩:∃ x,lastB (u::r)=some x:=by
    show ∃ x,(match lastB r with|some b=>some b|none=>some u.blk)=some x
    cases lastB r with
    |none=>exact ⟨_,rfl⟩
    |some x=>exact ⟨_,rfl⟩
   rw [hx]
  refine ⟨DT.At.same (fun k hk2=>hk k (by rw [DT.allL_cons];exact List.mem_append_left _ hk2) fun e=>n3 k hk2 (lastB_mem e)) h.1,?_⟩
  exact kids_snoc (u::r) (some d.blk) h.2 n2 (by rw [hu];exact ht) hl fun k hk2=>hk k (by rw [DT.allL_cons];exact List.mem_append_right _ hk2)
structure OnlyIn (w w':World) (S:Nat→Prop):Prop where
 os:w'.os=w.os
 tape:w'.tape=w.tape
 output:w'.output=w.output
 size:w'.heap.size=w.heap.size
 block:∀ k,¬ S k→w'.heap[k]?=w.heap[k]?
theorem OnlyIn.setCell {w w':World} {S:Nat→Prop} (h:OnlyIn w w' S) {b j:Nat} (hb:S b) (v:Value):OnlyIn w (w'.setCell ⟨b,j,none⟩ v) S:=
 ⟨h.os,h.tape,h.output,by rw [← h.size];simp [World.setCell],fun k hk=>by rw [Below.heap_setCell _ _ _ _ (fun e=>hk (by rw [e];exact hb))];exact h.block k hk⟩
theorem OnlyIn.refl (w:World) (S:Nat→Prop):OnlyIn w w S:=⟨rfl,rfl,rfl,rfl,fun _ _=>rfl⟩
theorem OnlyIn.below {w w':World} {S:Nat→Prop} (h:OnlyIn w w' S) {N:Nat} (hS:∀ k,S k→N≤k):Below N w w':=⟨h.os,h.tape,h.output,by rw [h.size];exact Nat.le_refl _,fun k hk=>h.block k (fun hs=>by have:=hS k hs;omega)⟩
theorem appendChild_calls (w:World) (b:Nat) (i:NI) (done:List DT) (t:DT) (h1:DT.At w none none none (.node b i done)) (h2:DT.At w none none none t) (hn:(DT.allL done).Nodup) (hnt:t.all.Nodup) (hb:b∉DT.allL done) (hbt:b∉t.all) (hdt:∀ x∈t.all,x∉DT.allL done):
  Calls Tryz.prog 57 #[.pointer (some ⟨b,0,none⟩),.pointer (some ⟨t.blk,0,none⟩)] w fun e w'=>e=.returned (.tuple #[])∧DT.At w' none none none (.node b i (done++[t]))∧OnlyIn w w' (fun k=>k=b∨k∈t.all∨k∈DT.allL done):=by
 obtain ⟨c,ci,ck⟩:=t
 have hbc:b≠c:=fun e=>hbt (by rw [DT.all,e];exact List.mem_cons_self ..)
 have hcin:c∈(DT.node c ci ck).all:=mem_blk (t:=.node c ci ck)
 have hck:c∉DT.allL ck:=by rw [DT.all,List.nodup_cons] at hnt;exact hnt.1
 have hcells:∀ (x y:Option Nat),(nodeObj x (firstB ck) (lastB ck) y none ci)=.cells (ncells x (firstB ck) (lastB ck) y none ci) 161 (0,0):=fun _ _=>rfl
 cases hlast:lastB done with
 |none=>
  have hd:done=[]:=by
   cases done with
   |nil=>rfl
   |cons u r=>
    have:∃ x,lastB (u::r)=some x:=by
     show ∃ x,(match lastB r with|some b=>some b|none=>some u.blk)=some x
     cases lastB r with
     |none=>exact ⟨_,rfl⟩
     |some x=>exact ⟨_,rfl⟩
    rw [hlast] at this
    obtain ⟨x,hx⟩:=this
    cases hx
  subst hd
  refine (appendFirst_calls w b c hbc none none none i ci (firstB ck) (lastB ck) h1.1 h2.1).mono ?_
  rintro e w' ⟨rfl,rfl⟩
  have s1:=Lib.heap_setCell_same (i:=1) h1.1 (pv (some c))
  have s2:=Lib.heap_setCell_same (i:=2) s1 (pv (some c))
  have s2b:((((w.setCell ⟨b,1,none⟩ (pv (some c))).setCell ⟨b,2,none⟩ (pv (some c))).setCell ⟨c,0,none⟩ (pv (some b))).setCell ⟨c,3,none⟩ (pv none)).heap[b]?=some (nodeObj none (some c) (some c) none none i):=by
   rw [Below.heap_setCell _ _ _ _ hbc,Below.heap_setCell _ _ _ _ hbc];exact s2
  have c1:((w.setCell ⟨b,1,none⟩ (pv (some c))).setCell ⟨b,2,none⟩ (pv (some c))).heap[c]?=some (nodeObj none (firstB ck) (lastB ck) none none ci):=by
   rw [Below.heap_setCell _ _ _ _ hbc.symm,Below.heap_setCell _ _ _ _ hbc.symm];exact h2.1
  have c2:=Lib.heap_setCell_same (i:=0) c1 (pv (some b))
  have c3:=Lib.heap_setCell_same (i:=3) c2 (pv none)
  refine ⟨rfl,⟨s2b,⟨c3,KidsAt.same (fun k hk=>?_) h2.2⟩,trivial⟩,?_⟩
  ·have hkb:k≠b:=fun e=>hbt (by rw [DT.all,← e];exact List.mem_cons_of_mem _ hk)
   have hkc:k≠c:=fun e=>hck (by rw [← e];exact hk)
   rw [Below.heap_setCell _ _ _ _ hkc,Below.heap_setCell _ _ _ _ hkc,Below.heap_setCell _ _ _ _ hkb,Below.heap_setCell _ _ _ _ hkb]
  ·exact ((((OnlyIn.refl w _).setCell (.inl rfl) _).setCell (.inl rfl) _).setCell (.inr (.inl hcin)) _).setCell (.inr (.inl hcin)) _
 |some l=>
  have hlm:=lastB_mem hlast
  have hbl:b≠l:=fun e=>hb (by rw [e];exact hlm)
  have hlc:l≠c:=fun e=>hdt c hcin (by rw [← e];exact hlm)
  obtain ⟨lp,lf,ll,lv,li,hl⟩:∃ lp lf ll lv li,w.heap[l]?=some (nodeObj lp lf ll lv none li):=by
   have key:∀ (done:List DT) (prev:Option Nat),KidsAt w b prev done→lastB done=some l→∃ lp lf ll lv li,w.heap[l]?=some (nodeObj lp lf ll lv none li):=by
    intro done
    induction done with
    |nil=>intro prev _ h;cases h
    |cons d r ih=>
     intro prev hk he
     cases r with
     |nil=>
      obtain ⟨db,di,dk⟩:=d
      have:db=l:=by simpa [lastB,DT.blk] using he
      subst this
      exact ⟨_,_,_,_,_,hk.1.1⟩
     |cons u r=>rw [lastB_cons] at he;exact ih _ hk.2 he
   exact key done none h1.2 hlast
  have hbo:w.heap[b]?=some (nodeObj none (firstB done) (some l) none none i):=by have:=h1.1;rw [hlast] at this;exact this
  refine (appendNext_calls w b c l hbc hbl hlc none (firstB done) none none i ci li (firstB ck) (lastB ck) lp lf ll lv hbo h2.1 hl).mono ?_
  rintro e w' ⟨rfl,rfl⟩
  have l1:=Lib.heap_setCell_same (i:=4) hl (pv (some c))
  have l2:((((w.setCell ⟨l,4,none⟩ (pv (some c))).setCell ⟨b,2,none⟩ (pv (some c))).setCell ⟨c,0,none⟩ (pv (some b))).setCell ⟨c,3,none⟩ (pv (some l))).heap[l]?=some (nodeObj lp lf ll lv (some c) li):=by
   rw [Below.heap_setCell _ _ _ _ hlc,Below.heap_setCell _ _ _ _ hlc,Below.heap_setCell _ _ _ _ hbl.symm];exact l1
  have b1:(w.setCell ⟨l,4,none⟩ (pv (some c))).heap[b]?=some (nodeObj none (firstB done) (some l) none none i):=by
   rw [Below.heap_setCell _ _ _ _ hbl];exact hbo
  have b2:=Lib.heap_setCell_same (i:=2) b1 (pv (some c))
  have b3:((((w.setCell ⟨l,4,none⟩ (pv (some c))).setCell ⟨b,2,none⟩ (pv (some c))).setCell ⟨c,0,none⟩ (pv (some b))).setCell ⟨c,3,none⟩ (pv (some l))).heap[b]?=some (nodeObj none (firstB done) (some c) none none i):=by
   rw [Below.heap_setCell _ _ _ _ hbc,Below.heap_setCell _ _ _ _ hbc];exact b2
  have c1:((w.setCell ⟨l,4,none⟩ (pv (some c))).setCell ⟨b,2,none⟩ (pv (some c))).heap[c]?=some (nodeObj none (firstB ck) (lastB ck) none none ci):=by
   rw [Below.heap_setCell _ _ _ _ hbc.symm,Below.heap_setCell _ _ _ _ hlc.symm];exact h2.1
  have c2:=Lib.heap_setCell_same (i:=0) c1 (pv (some b))
  have c3:=Lib.heap_setCell_same (i:=3) c2 (pv (some l))
  have hfd:∃ f,firstB done=some f:=by
   cases done with
   |nil=>cases hlast
   |cons u r=>exact ⟨_,rfl⟩
  obtain ⟨f,hfd⟩:=hfd
  refine ⟨rfl,⟨?_,?_⟩,?_⟩
  ·rw [firstB_snoc,lastB_snoc]
   rw [hfd] at b3
   rw [hfd]
   exact b3
  ·refine kids_snoc done none h1.2 hn ?_ ?_ ?_
   ·rw [hlast]
    refine ⟨c3,KidsAt.same (fun k hk=>?_) h2.2⟩
    have hka:k∈(DT.node c ci ck).all:=by rw [DT.all];exact List.mem_cons_of_mem _ hk
    have hkb:k≠b:=fun e=>hbt (by rw [← e];exact hka)
    have hkc:k≠c:=fun e=>hck (by rw [← e];exact hk)
    have hkl:k≠l:=fun e=>hdt k hka (by rw [e];exact hlm)
    rw [Below.heap_setCell _ _ _ _ hkc,Below.heap_setCell _ _ _ _ hkc,Below.heap_setCell _ _ _ _ hkb,Below.heap_setCell _ _ _ _ hkl]
   ·intro l' par fc lc pr nx i' he hh
    rw [hlast] at he
    have:l=l':=by injection he
    subst this
    rw [hl] at hh
    have e:=Option.some.inj hh
    injection e with e _ _
    have e2:ncells lp lf ll lv none li=ncells par fc lc pr nx i':=e
    rw [l2]
    have q:∀ (j:Nat),(ncells lp lf ll lv none li)[j]?=(ncells par fc lc pr nx i')[j]?:=fun j=>by rw [e2]
    have q0:=q 0;have q1:=q 1;have q2:=q 2;have q3:=q 3;have q5:=q 5;have q6:=q 6;have q7:=q 7;have q9:=q 9
    simp [ncells] at q0 q1 q2 q3 q5 q6 q7 q9
    simp [ncells,DT.blk,q0,q1,q2,q3,q5,q6,q7,q9]
   ·intro k hk hkl
    have hkb:k≠b:=fun e=>hb (by rw [← e];exact hk)
    have hkc:k≠c:=fun e=>hdt c hcin (by rw [← e];exact hk)
    have hkl2:k≠l:=fun e=>hkl (by rw [hlast,e])
    rw [Below.heap_setCell _ _ _ _ hkc,Below.heap_setCell _ _ _ _ hkc,Below.heap_setCell _ _ _ _ hkb,Below.heap_setCell _ _ _ _ hkl2]
  ·exact ((((OnlyIn.refl w _).setCell (.inr (.inr hlm)) _).setCell (.inl rfl) _).setCell (.inr (.inl hcin)) _).setCell (.inr (.inl hcin)) _
end Go.Proofs.YtbheflncgmhadaaGreat.Hand
namespace Go.Proofs.YtbheflncgmhadaaGreat.Hand
open Go.RowKit Go.Proofs.YtbheflncgmhadaaGreatW.PrintWords Go.Proofs.YtbheflncgmhadaaGreatW.PrintLast Go.Proofs.YtbheflncgmhadaaGreatW.PrintMore
attribute [local go_sem] run_store_func'
structure PN (α:Type) where
 kind:Nat
 name:ByteArray
 text:ByteArray
 kids:List α
def emptyK:Kd Empty where
 sz:=5
 E:=[]
 K:=fun _ x _=>x.elim
 M:=fun _ _ _ x _=>x.elim
 K_len:=fun {w x}=>x.elim
 K_one:=fun {w x}=>x.elim
 K_below:=fun {w w1 x}=>x.elim
 K_of_M:=fun {w base ok x}=>x.elim
 M_mono:=fun {w base ok ok' x}=>x.elim
 M_bound:=fun {w base ok x}=>x.elim
 M_move:=fun {w w1 base ok x}=>x.elim
 M_lower:=fun {w base base' ok x}=>x.elim
def pnHead {α:Type} (x:PN α) (v:Value):List Value:=[.int .i64 (x.kind:Int),.string x.name,.string x.text,.slice none 0 0,v]
def pnK {α:Type} (d:Kd α):Kd (PN α) where
 sz:=5
 E:=33::d.E
 K:=fun w x cs=>∃ v,cs=pnHead x v∧(Kd.slice 33 d).K w x.kids [v]
 M:=fun w base ok x cs=>∃ v,cs=pnHead x v∧(Kd.slice 33 d).M w base ok x.kids [v]
 K_len:=by rintro w x cs ⟨v,rfl,_⟩;rfl
 K_one:=by
  rintro w x cs ⟨v,rfl,h⟩ u hu
  simp only [pnHead,List.mem_cons,List.not_mem_nil,or_false] at hu
  rcases hu with rfl|rfl|rfl|rfl|rfl <;> first|rfl|exact (Kd.slice 33 d).K_one h u (List.mem_singleton.2 rfl)
 K_below:=by rintro w w1 x cs hb ⟨v,rfl,h⟩;exact ⟨v,rfl,(Kd.slice 33 d).K_below hb h⟩
 K_of_M:=by rintro w base ok x cs ⟨v,rfl,h⟩;exact ⟨v,rfl,(Kd.slice 33 d).K_of_M h⟩
 M_mono:=by rintro w base ok ok' x cs hok ⟨v,rfl,h⟩;exact ⟨v,rfl,(Kd.slice 33 d).M_mono hok h⟩
 M_bound:=by rintro w base ok x cs ⟨v,rfl,h⟩;exact ⟨v,rfl,(Kd.slice 33 d).M_bound h⟩
 M_move:=by rintro w w1 base ok x cs hm ⟨v,rfl,h⟩;exact ⟨v,rfl,(Kd.slice 33 d).M_move hm h⟩
 M_lower:=by rintro w base base' ok x cs hb ⟨v,rfl,h⟩;exact ⟨v,rfl,(Kd.slice 33 d).M_lower hb h⟩
def mkNI (kind:Nat) (name text:ByteArray):NI:=if kind=0 then ⟨3,0,name,.slice none 0 0⟩ else if kind=1 then ⟨1,0,text,.slice none 0 0⟩ else ⟨2,0,⟨#[]⟩,.slice none 0 0⟩
mutual
theorem DT.all_lt {w:World}:∀ {t:DT} {par prev next:Option Nat},DT.At w par prev next t→∀ q∈t.all,q < w.heap.size
 |.node b i kids,par,prev,next,⟨h1,h2⟩,q,hq=>by
  rw [DT.all,List.mem_cons] at hq
  rcases hq with rfl|hq
  ·exact heap_lt h1
  ·exact KidsAt.all_lt h2 q hq
theorem KidsAt.all_lt {w:World}:∀ {l:List DT} {par:Nat} {prev:Option Nat},KidsAt w par prev l→∀ q∈DT.allL l,q < w.heap.size
 |[],_,_,_,q,hq=>by rw [DT.allL] at hq;cases hq
 |t::r,par,prev,⟨h1,h2⟩,q,hq=>by
  rw [DT.allL_cons,List.mem_append] at hq
  rcases hq with hq|hq
  ·exact DT.all_lt h1 q hq
  ·exact KidsAt.all_lt h2 q hq
end
def OfAll {α:Type} (of:α→DT→Prop):List α→List DT→Prop
 |[],l=>l=[]
 |x::r,l=>∃ t l',l=t::l'∧of x t∧OfAll of r l'
def pnOf {α:Type} (of:α→DT→Prop) (x:PN α):DT→Prop
 |.node _ i kids=>i=mkNI x.kind x.name x.text∧OfAll of x.kids kids
theorem OfAll.snoc {α:Type} {of:α→DT→Prop}:∀ {l:List α} {d:List DT} {x:α} {t:DT},OfAll of l d→of x t→OfAll of (l++[x]) (d++[t])
 |[],d,x,t,h,hx=>by have:d=[]:=h;subst this;exact ⟨t,[],rfl,hx,rfl⟩
 |y::r,d,x,t,h,hx=>by
  obtain ⟨u,l',rfl,h1,h2⟩:=h
  exact ⟨u,l'++[t],rfl,h1,OfAll.snoc h2 hx⟩
structure Fresh (w w':World) (t:DT):Prop where
 at_:DT.At w' none none none t
 new:∀ k∈t.all,w.heap.size≤k
 nodup:t.all.Nodup
 below:Below w.heap.size w w'
def MadeOk {α:Type} (d:Kd α) (of:α→DT→Prop) (ok:α→Prop):Prop:=∀ (w:World) (x:α) (cs:List Value),ok x→d.K w x cs →
 Calls Tryz.prog 28 #[.agg cs.toArray] w fun e w'=>∃ t,e=.returned (.pointer (some ⟨t.blk,0,none⟩))∧of x t∧Fresh w w' t
theorem add_lit {w:World} {ad:Addr} {n i:Nat} {v:Value} (h:w.cell? (ad.add (n+(i+1)))=some v):w.cell? ⟨(ad.add n).block,(ad.add n).off+(i+1),none⟩=some v:=by
 rw [← h]
 congr 1
 unfold Addr.add
 by_cases hn:n=0
 ·subst hn
  rw [if_pos rfl,if_neg (by omega),Nat.zero_add]
 ·rw [if_neg hn,if_neg (by omega)]
  simp only [Nat.add_assoc]
def PnForm {α:Type} (d:Kd α):Prop:=∀ (w:World) (x:α) (cs:List Value),d.K w x cs→∃ (k:Int) (n t:ByteArray) (A:Option Addr) (l c:Nat),cs=[.int .i64 k,.string n,.string t,.slice none 0 0,.slice A l c]
theorem pnForm {α:Type} (d:Kd α):PnForm (pnK d):=by
 rintro w x cs ⟨v,rfl,A,c,hv,_⟩
 injection hv with hv _
 subst hv
 exact ⟨_,_,_,_,_,_,rfl⟩
theorem emptyForm:PnForm emptyK:=fun _ x=>x.elim
def NoAtom (s:ByteArray):Prop:=(s.toList==[99,97,112,116,105,111,110])=false∧(s.toList==[108,105])=false
theorem zzAtom_calls (w:World) (s:ByteArray) (h:NoAtom s):Calls Tryz.prog 56 #[.string s] w fun e w'=>e=.returned (.int .u32 0)∧w'=w:=by
 obtain ⟨h1,h2⟩:=h
 go_enter Tryz.func56,Tryz.ntmps56
 go_wp2
 go_ret
 exact ⟨rfl,rfl⟩
theorem made_text (w:World) (name text:ByteArray) (v:Value):
  Calls Tryz.prog 28 #[.agg #[.int .i64 1,.string name,.string text,.slice none 0 0,v]] w fun e w'=>∃ b,e=.returned (.pointer (some ⟨b,0,none⟩))∧b=w'.heap.size - 1∧w.heap.size≤b∧w'.heap[b]?=some (nodeObj none none none none none (mkNI 1 name text))∧Below w.heap.size w w':=by
 go_enter Tryz.func28,Tryz.ntmps28
 go_wp2
 have e1:=alloc_size w (.cells #[.int .i64 1,.string name,.string text,.slice none 0 0,v] 33)
 go_ret
 refine ⟨w.heap.size+1,rfl,?_,Nat.le_succ _,?_,?_⟩
 ·rw [alloc_size,e1];rfl
 ·rw [← e1];exact alloc_new _ _
 ·exact ((Below.refl _ w).alloc (Nat.le_refl _) _).alloc (by omega) _
theorem made_elem {α:Type} (d:Kd α) (of:α→DT→Prop) (ok:α→Prop) (hd:MadeOk d of ok) (w:World) (x:PN α) (v:Value) (hv:(Kd.slice 33 d).K w x.kids [v]) (hk:x.kind=0) (ha:NoAtom x.name) (hsz:d.sz=5) (hform:PnForm d) (hok:∀ y∈x.kids,ok y):
 Calls Tryz.prog 28 #[.agg (pnHead x v).toArray] w fun e w'=>∃ t,e=.returned (.pointer (some ⟨t.blk,0,none⟩))∧pnOf of x t∧Fresh w w' t:=by
 obtain ⟨A,c,hv1,hlc,hC⟩:=hv
 have hv1:v=.slice A x.kids.length c:=by injection hv1
 subst hv1
 unfold pnHead
 rw [hk]
 have HH:=am hd
 have HC0:=am hC
 have HCL:=am hC.2.1
 have HLC:=am hlc
 clear hd hlc
 go_enter Tryz.func28,Tryz.ntmps28
 have mixed:Tryz.prog.follows .mixedOrders=true:=by kernel_rfl
 go_wp2_with (go_at_call 56;fail)
 go_region_with_o (
  go_at_call 56
  refine (zzAtom_calls _ _ ha).mono ?_
  rintro e w2 ⟨rfl,hw⟩
  rw [hw]
  clear hw)
 all_goals
  go_wp2_with fail
  obtain ⟨W,hW⟩:∃ W,((w.alloc (.cells #[.int .i64 0,.string x.name,.string x.text,.slice none 0 0,.slice A x.kids.length c] 33)).alloc (.cells #[.pointer none,.pointer none,.pointer none,.pointer none,.pointer none,.int .u32 3,.int .u32 0,.string x.name,.string ⟨#[]⟩,.slice none 0 0] 161)).drew=W:=⟨_,rfl⟩
  rw [hW]
  have e1:=alloc_size w (.cells #[.int .i64 0,.string x.name,.string x.text,.slice none 0 0,.slice A x.kids.length c] 33)
  have hB:Below w.heap.size w W:=by rw [← hW];exact below_drew (((Below.refl _ w).alloc (Nat.le_refl _) _).alloc (by omega) _)
  have hbx:W.cell? ⟨w.heap.size,4,none⟩=some (.slice A x.kids.length c):=by
   rw [← hW]
   show ((w.alloc _).alloc _).cell? _=_
   rw [World.cell?_of_block (Below.heap_alloc _ _ w.heap.size (by omega))]
   simp only [World.cell?,alloc_new];rfl
  have hnode:W.heap[w.heap.size+1]?=some (nodeObj none none none none none (mkNI 0 x.name x.text)):=by
   rw [← hW]
   show ((w.alloc _).alloc _).heap[_]?=_
   rw [← e1];exact alloc_new _ _
  have HB:=am hB
  have HBX:=am hbx
  have HND:=am hnode
  have HC:=am (Kd.C_below hC hB)
  clear hW hB hnode e1
  refine wp_loop_once ?_
  go_wp2_with fail
  go_loopg [58] x.kids.length (fun gf v58 wx=>∃ (j:Nat) (dn:List DT),v58=.int .i64 (j:Int)∧Aside0 (j+gf=x.kids.length)∧Aside0 (OfAll of (x.kids.take j) dn)∧Aside0 (DT.At wx none none none (.node (w.heap.size+1) (mkNI 0 x.name x.text) dn))∧Aside0 (∀ q∈DT.allL dn,w.heap.size+1 < q∧q < wx.heap.size)∧Aside0 ((DT.allL dn).Nodup)∧Aside0 (Below w.heap.size w wx)∧Aside0 (w.heap.size+1 < wx.heap.size))
  case atStart=>exact ⟨0,[],rfl,⟨by omega⟩,⟨rfl⟩,⟨HND.out,trivial⟩,⟨fun q hq=>by rw [DT.allL] at hq;cases hq⟩,⟨by rw [DT.allL];exact List.nodup_nil⟩,HB,⟨heap_lt HND.out⟩⟩
  case round=>
   obtain ⟨j,dn,rfl,HG,HO,HAT,HQ,HNDp,HBw,HSZ⟩:=hrel
   by_cases hj:j < x.kids.length
   ·obtain ⟨g',rfl⟩:∃ g',gk=g'+1:=⟨gk - 1,by have:=HG.out;omega⟩
    have hjZ:(j:Int) < (x.kids.length:Int):=by omega
    obtain ⟨-,-,hrd0⟩:=Kd.C_below HC0.out HBw.out
    obtain ⟨ad,hA,hrd⟩:=hrd0 (by omega)
    subst hA
    obtain ⟨cs,hcl,hK,hcell⟩:=hrd j x.kids[j] (List.getElem?_eq_getElem hj)
    rw [hsz] at hcl hcell
    obtain ⟨qk,qn,qt,qA,ql,qc,rfl⟩:=hform _ _ _ hK
    have g0:wr.cell? (ad.add (j * 5))=some (.int .i64 qk):=hcell 0 _ rfl
    have g1:=add_lit (hcell 1 _ rfl)
    have g2:=add_lit (hcell 2 _ rfl)
    have g3:=add_lit (hcell 3 _ rfl)
    have g4:=add_lit (hcell 4 _ rfl)
    have HK:=am hK
    have hlc:=HLC.out
    clear hcell hrd hcl hK hrd0
    go_wp2_with (go_at_call 28;fail)
    obtain ⟨W1,hW1⟩:∃ W1,wr.alloc (.cells #[.int .i64 qk,.string qn,.string qt,.slice none 0 0,.slice qA ql qc] 33)=W1:=⟨_,rfl⟩
    rw [hW1]
    have hB1:Below wr.heap.size wr W1:=by rw [← hW1];exact (Below.refl _ _).alloc (Nat.le_refl _) _
    have hs1:W1.heap.size=wr.heap.size+1:=by rw [← hW1];exact alloc_size _ _
    refine (HH.out W1 x.kids[j] _ (hok _ (List.getElem_mem _)) (d.K_below hB1 HK.out)).mono ?_
    rintro e w3 ⟨t,rfl,hof,hfr⟩
    have hB3:Below wr.heap.size wr w3:=hB1.trans (hfr.below.mono hB1.size)
    have HB3:=am (HBw.out.trans (hB3.mono HBw.out.size))
    have hnew:∀ q∈t.all,wr.heap.size < q:=fun q hq=>by have:=hfr.new q hq;omega
    have hsz3:∀ q∈t.all,q < w3.heap.size:=DT.all_lt hfr.at_
    have CA:=am (appendChild_calls w3 (w.heap.size+1) (mkNI 0 x.name x.text) dn t (DT.At.keep hB3 HAT.out) hfr.at_ HNDp.out hfr.nodup (fun hq=>by have:=HQ.out _ hq;omega) (fun hq=>by have:=hnew _ hq;have:=HSZ.out;omega) (fun q hq hq2=>by have:=hnew _ hq;have:=HQ.out _ hq2;omega))
    have HSZ3:=am hB3.size
    have HNEW:=am hnew
    have HLT3:=am hsz3
    have HOF:=am hof
    have HFN:=am hfr.nodup
    clear hW1 hB1 hs1 hfr hB3 hnew hsz3 hof g0 g1 g2 g3 g4 hlc
    go_wp2_with (go_at_call 57;fail)
    refine CA.out.mono ?_
    rintro e w4 ⟨rfl,hat,hon⟩
    have HAT4:=am hat
    have HB4:=am (HB3.out.trans (hon.below (N:=w.heap.size) (by
     rintro q (rfl|hq|hq)
     ·omega
     ·have:=HNEW.out _ hq;have:=HSZ.out;omega
     ·have:=HQ.out _ hq;omega)))
    have HS4:=am hon.size
    clear hat hon
    have hadd:(j:Int)+1≤9223372036854775807:=by have:=HCL.out;omega
    go_wp2
    go_roundg g'
    case measure=>omega
    case rel=>
     refine ⟨j+1,dn++[t],by go_num,⟨by have:=HG.out;omega⟩,⟨?_⟩,HAT4,⟨?_⟩,⟨?_⟩,HB4,⟨?_⟩⟩
     ·rw [List.take_succ_eq_append_getElem hj];exact HO.out.snoc HOF.out
     ·intro q hq
      rw [DT.allL_append,List.mem_append] at hq
      rw [HS4.out]
      rcases hq with hq|hq
      ·have:=HQ.out q hq;have:=HSZ3.out;omega
      ·rw [DT.allL_cons,DT.allL,List.append_nil] at hq
       have:=HNEW.out q hq;have:=HLT3.out q hq;have:=HSZ.out;omega
     ·rw [DT.allL_append,DT.allL_cons,DT.allL,List.append_nil,List.nodup_append]
      refine ⟨HNDp.out,HFN.out,?_⟩
      rintro p hp q hq rfl
      have:=HQ.out p hp;have:=HNEW.out p hq;omega
     ·rw [HS4.out];have:=HSZ.out;have:=HSZ3.out;omega
   ·have hjZ:¬ (j:Int) < (x.kids.length:Int):=by omega
    go_wp2
    go_ret
    refine ⟨.node (w.heap.size+1) (mkNI 0 x.name x.text) dn,rfl,⟨by rw [hk],?_⟩,HAT.out,?_,?_,HBw.out⟩
    ·have:=HO.out
     rw [List.take_of_length_le (by omega)] at this
     exact this
    ·intro q hq
     rw [DT.all,List.mem_cons] at hq
     rcases hq with rfl|hq
     ·omega
     ·have:=HQ.out q hq;omega
    ·rw [DT.all,List.nodup_cons]
     exact ⟨fun hq=>by have:=HQ.out _ hq;omega,HNDp.out⟩
theorem made_doc {α:Type} (d:Kd α) (of:α→DT→Prop) (ok:α→Prop) (hd:MadeOk d of ok) (w:World) (x:PN α) (v:Value) (hv:(Kd.slice 33 d).K w x.kids [v]) (hk:x.kind=3) (hsz:d.sz=5) (hform:PnForm d) (hok:∀ y∈x.kids,ok y):
 Calls Tryz.prog 28 #[.agg (pnHead x v).toArray] w fun e w'=>∃ t,e=.returned (.pointer (some ⟨t.blk,0,none⟩))∧pnOf of x t∧Fresh w w' t:=by
 obtain ⟨A,c,hv1,hlc,hC⟩:=hv
 have hv1:v=.slice A x.kids.length c:=by injection hv1
 subst hv1
 unfold pnHead
 rw [hk]
 have HH:=am hd
 have HC0:=am hC
 have HCL:=am hC.2.1
 have HLC:=am hlc
 clear hd hlc
 go_enter Tryz.func28,Tryz.ntmps28
 have mixed:Tryz.prog.follows .mixedOrders=true:=by kernel_rfl
 go_wp2_with fail
 all_goals
  obtain ⟨W,hW⟩:∃ W,((w.alloc (.cells #[.int .i64 3,.string x.name,.string x.text,.slice none 0 0,.slice A x.kids.length c] 33)).alloc (.cells #[.pointer none,.pointer none,.pointer none,.pointer none,.pointer none,.int .u32 2,.int .u32 0,.string ⟨#[]⟩,.string ⟨#[]⟩,.slice none 0 0] 161))=W:=⟨_,rfl⟩
  rw [hW]
  have e1:=alloc_size w (.cells #[.int .i64 3,.string x.name,.string x.text,.slice none 0 0,.slice A x.kids.length c] 33)
  have hB:Below w.heap.size w W:=by rw [← hW];exact (((Below.refl _ w).alloc (Nat.le_refl _) _).alloc (by omega) _)
  have hbx:W.cell? ⟨w.heap.size,4,none⟩=some (.slice A x.kids.length c):=by
   rw [← hW]
   show ((w.alloc _).alloc _).cell? _=_
   rw [World.cell?_of_block (Below.heap_alloc _ _ w.heap.size (by omega))]
   simp only [World.cell?,alloc_new];rfl
  have hnode:W.heap[w.heap.size+1]?=some (nodeObj none none none none none (mkNI 3 x.name x.text)):=by
   rw [← hW]
   show ((w.alloc _).alloc _).heap[_]?=_
   rw [← e1];exact alloc_new _ _
  have HB:=am hB
  have HBX:=am hbx
  have HND:=am hnode
  have HC:=am (Kd.C_below hC hB)
  clear hW hB hnode e1
  go_loopg [58] x.kids.length (fun gf v58 wx=>∃ (j:Nat) (dn:List DT),v58=.int .i64 (j:Int)∧Aside0 (j+gf=x.kids.length)∧Aside0 (OfAll of (x.kids.take j) dn)∧Aside0 (DT.At wx none none none (.node (w.heap.size+1) (mkNI 3 x.name x.text) dn))∧Aside0 (∀ q∈DT.allL dn,w.heap.size+1 < q∧q < wx.heap.size)∧Aside0 ((DT.allL dn).Nodup)∧Aside0 (Below w.heap.size w wx)∧Aside0 (w.heap.size+1 < wx.heap.size))
  case atStart=>exact ⟨0,[],rfl,⟨by omega⟩,⟨rfl⟩,⟨HND.out,trivial⟩,⟨fun q hq=>by rw [DT.allL] at hq;cases hq⟩,⟨by rw [DT.allL];exact List.nodup_nil⟩,HB,⟨heap_lt HND.out⟩⟩
  case round=>
   obtain ⟨j,dn,rfl,HG,HO,HAT,HQ,HNDp,HBw,HSZ⟩:=hrel
   by_cases hj:j < x.kids.length
   ·obtain ⟨g',rfl⟩:∃ g',gk=g'+1:=⟨gk - 1,by have:=HG.out;omega⟩
    have hjZ:(j:Int) < (x.kids.length:Int):=by omega
    obtain ⟨-,-,hrd0⟩:=Kd.C_below HC0.out HBw.out
    obtain ⟨ad,hA,hrd⟩:=hrd0 (by omega)
    subst hA
    obtain ⟨cs,hcl,hK,hcell⟩:=hrd j x.kids[j] (List.getElem?_eq_getElem hj)
    rw [hsz] at hcl hcell
    obtain ⟨qk,qn,qt,qA,ql,qc,rfl⟩:=hform _ _ _ hK
    have g0:wr.cell? (ad.add (j * 5))=some (.int .i64 qk):=hcell 0 _ rfl
    have g1:=add_lit (hcell 1 _ rfl)
    have g2:=add_lit (hcell 2 _ rfl)
    have g3:=add_lit (hcell 3 _ rfl)
    have g4:=add_lit (hcell 4 _ rfl)
    have HK:=am hK
    have hlc:=HLC.out
    clear hcell hrd hcl hK hrd0
    go_wp2_with (go_at_call 28;fail)
    obtain ⟨W1,hW1⟩:∃ W1,wr.alloc (.cells #[.int .i64 qk,.string qn,.string qt,.slice none 0 0,.slice qA ql qc] 33)=W1:=⟨_,rfl⟩
    rw [hW1]
    have hB1:Below wr.heap.size wr W1:=by rw [← hW1];exact (Below.refl _ _).alloc (Nat.le_refl _) _
    have hs1:W1.heap.size=wr.heap.size+1:=by rw [← hW1];exact alloc_size _ _
    refine (HH.out W1 x.kids[j] _ (hok _ (List.getElem_mem _)) (d.K_below hB1 HK.out)).mono ?_
    rintro e w3 ⟨t,rfl,hof,hfr⟩
    have hB3:Below wr.heap.size wr w3:=hB1.trans (hfr.below.mono hB1.size)
    have HB3:=am (HBw.out.trans (hB3.mono HBw.out.size))
    have hnew:∀ q∈t.all,wr.heap.size < q:=fun q hq=>by have:=hfr.new q hq;omega
    have hsz3:∀ q∈t.all,q < w3.heap.size:=DT.all_lt hfr.at_
    have CA:=am (appendChild_calls w3 (w.heap.size+1) (mkNI 3 x.name x.text) dn t (DT.At.keep hB3 HAT.out) hfr.at_ HNDp.out hfr.nodup (fun hq=>by have:=HQ.out _ hq;omega) (fun hq=>by have:=hnew _ hq;have:=HSZ.out;omega) (fun q hq hq2=>by have:=hnew _ hq;have:=HQ.out _ hq2;omega))
    have HSZ3:=am hB3.size
    have HNEW:=am hnew
    have HLT3:=am hsz3
    have HOF:=am hof
    have HFN:=am hfr.nodup
    clear hW1 hB1 hs1 hfr hB3 hnew hsz3 hof g0 g1 g2 g3 g4 hlc
    go_wp2_with (go_at_call 57;fail)
    refine CA.out.mono ?_
    rintro e w4 ⟨rfl,hat,hon⟩
    have HAT4:=am hat
    have HB4:=am (HB3.out.trans (hon.below (N:=w.heap.size) (by
     rintro q (rfl|hq|hq)
     ·omega
     ·have:=HNEW.out _ hq;have:=HSZ.out;omega
     ·have:=HQ.out _ hq;omega)))
    have HS4:=am hon.size
    clear hat hon
    have hadd:(j:Int)+1≤9223372036854775807:=by have:=HCL.out;omega
    go_wp2
    go_roundg g'
    case measure=>omega
    case rel=>
     refine ⟨j+1,dn++[t],by go_num,⟨by have:=HG.out;omega⟩,⟨?_⟩,HAT4,⟨?_⟩,⟨?_⟩,HB4,⟨?_⟩⟩
     ·rw [List.take_succ_eq_append_getElem hj];exact HO.out.snoc HOF.out
     ·intro q hq
      rw [DT.allL_append,List.mem_append] at hq
      rw [HS4.out]
      rcases hq with hq|hq
      ·have:=HQ.out q hq;have:=HSZ3.out;omega
      ·rw [DT.allL_cons,DT.allL,List.append_nil] at hq
       have:=HNEW.out q hq;have:=HLT3.out q hq;have:=HSZ.out;omega
     ·rw [DT.allL_append,DT.allL_cons,DT.allL,List.append_nil,List.nodup_append]
      refine ⟨HNDp.out,HFN.out,?_⟩
      rintro p hp q hq rfl
      have:=HQ.out p hp;have:=HNEW.out p hq;omega
     ·rw [HS4.out];have:=HSZ.out;have:=HSZ3.out;omega
   ·have hjZ:¬ (j:Int) < (x.kids.length:Int):=by omega
    go_wp2
    go_ret
    refine ⟨.node (w.heap.size+1) (mkNI 3 x.name x.text) dn,rfl,⟨by rw [hk],?_⟩,HAT.out,?_,?_,HBw.out⟩
    ·have:=HO.out
     rw [List.take_of_length_le (by omega)] at this
     exact this
    ·intro q hq
     rw [DT.all,List.mem_cons] at hq
     rcases hq with rfl|hq
     ·omega
     ·have:=HQ.out q hq;omega
    ·rw [DT.all,List.nodup_cons]
     exact ⟨fun hq=>by have:=HQ.out _ hq;omega,HNDp.out⟩
def PnOk {α:Type} (ok:α→Prop) (x:PN α):Prop:=(x.kind=0∧NoAtom x.name∧∀ y∈x.kids,ok y)∨(x.kind=1∧x.kids=[])∨(x.kind=3∧∀ y∈x.kids,ok y)
theorem made_ok {α:Type} {d:Kd α} {of:α→DT→Prop} {ok:α→Prop} (hd:MadeOk d of ok) (hsz:d.sz=5) (hform:PnForm d):MadeOk (pnK d) (pnOf of) (PnOk ok):=by
 rintro w x cs hok ⟨v,rfl,hv⟩
 rcases hok with ⟨hk,ha,hok⟩|⟨hk,hkids⟩|⟨hk,hok⟩
 ·exact made_elem d of ok hd w x v hv hk ha hsz hform hok
 ·have:=made_text w x.name x.text v
  unfold pnHead
  rw [hk]
  refine this.mono ?_
  rintro e w' ⟨b,rfl,-,hb,hh,hbel⟩
  refine ⟨.node b (mkNI 1 x.name x.text) [],rfl,⟨by rw [hk],by rw [hkids];rfl⟩,⟨hh,trivial⟩,?_,?_,hbel⟩
  ·intro q hq
   rw [DT.all,DT.allL,List.mem_singleton] at hq
   rw [hq];exact hb
  ·rw [DT.all,DT.allL];simp
 ·exact made_doc d of ok hd w x v hv hk hsz hform hok
theorem made_none:MadeOk emptyK (fun x _=>x.elim) (fun _=>True):=fun _ x=>x.elim
end Go.Proofs.YtbheflncgmhadaaGreat.Hand
