/- The plugin of tables: empty rows, all rows. Conditions: those in each statement. -/
import Derived.Test.YtbheflncgmhadaaGreatXm
set_option linter.unusedVariables false
set_option linter.unusedSimpArgs false
set_option maxHeartbeats 40000000
set_option maxRecDepth 100000
namespace Go.Proofs.YtbheflncgmhadaaGreat.Hand
open Go.RowKit Go.Proofs.YtbheflncgmhadaaGreatW.PrintWords Go.Proofs.YtbheflncgmhadaaGreatW.PrintLast Go.Proofs.YtbheflncgmhadaaGreatW.PrintMore
attribute [local go_sem] run_store_func'
def Empties (w:World) (g n:Nat):Prop:=∃ cur,w.heap[g]?=some (.cells cur 445 (0,0))∧n≤cur.size∧∀ j,j < n→∃ A c,cur[j]?=some (.slice A 0 c)
theorem Empties.cell {w:World} {g n:Nat} (h:Empties w g n) {j:Nat} (hj:j < n):∃ A c,w.cell? ⟨g,j,none⟩=some (.slice A 0 c)∧w.frozen? ⟨g,j,none⟩=false:=by
 obtain ⟨cur,h1,h2,h3⟩:=h
 obtain ⟨A,c,h4⟩:=h3 j hj
 exact ⟨A,c,by simp [World.cell?,h1,h4],by simp [World.frozen?,h1]⟩
theorem Empties.set {w:World} {g n:Nat} (h:Empties w g n) (j:Nat) (A:Option Addr) (c:Nat):Empties (w.setCell ⟨g,j,none⟩ (.slice A 0 c)) g n:=by
 obtain ⟨cur,h1,h2,h3⟩:=h
 refine ⟨cur.setIfInBounds j (.slice A 0 c),?_,by simpa using h2,fun k hk=>?_⟩
 ·rw [setCell_eq_setRow w g j _ _ _ _ h1]
  exact setRow_heap w g cur _ _ (0,0) h1
 ·rw [Array.getElem?_setIfInBounds]
  split
  ·split
   ·exact ⟨A,c,rfl⟩
   ·rename_i h5 h6
    subst h5
    omega
  ·exact h3 k hk
theorem reverse_calls (w:World) (g n c:Nat) (hn:1≤n∧n≤1000) (h:Empties w g n):
  Calls Tryz.prog 443 #[.slice (some ⟨g,0,none⟩) n c] w fun e w'=>e=.returned (.tuple #[])∧Empties w' g n∧OnlyIn w w' (fun k=>k=g):=by
 have HE:=am h
 have HN:=am hn
 clear h hn
 go_enter Tryz.func443,Tryz.ntmps443
 have mixed:Tryz.prog.follows .mixedOrders=true:=by kernel_rfl
 have HW0:Aside0 (wrap64 ((n:Int) - 1)=((n - 1:Nat):Int)):=⟨by have:=HN.out;unfold wrap64;omega⟩
 go_wp2
 go_loopg [2,3] n (fun gf v2 v3 wx=>∃ (i j:Nat),v2=.int .i64 (i:Int)∧v3=.int .i64 (j:Int)∧Aside0 (i+j=n - 1∧n - i=gf∧i≤n)∧Aside0 (Empties wx g n)∧Aside0 (OnlyIn w wx (fun k=>k=g)))
 case atStart=>exact ⟨0,n - 1,rfl,by rw [HW0.out],⟨by omega⟩,HE,⟨OnlyIn.refl _ _⟩⟩
 case round=>
  obtain ⟨i,j,rfl,rfl,HP,HEr,HO⟩:=hrel
  by_cases hij:i < j
  ·have hi:i < n:=by have:=HP.out;omega
   have hj:j < n:=by have:=HP.out;have:=HN.out;omega
   have hpp:=eq_true hij
   have hpi:=eq_true hi
   have hpj:=eq_true hj
   have hwi:wrap64 ((i:Int)+1)=((i+1:Nat):Int):=by have:=HN.out;unfold wrap64;omega
   have hwj:wrap64 ((j:Int) - 1)=((j - 1:Nat):Int):=by have:=HN.out;unfold wrap64;omega
   obtain ⟨Ai,ci,ki,zi⟩:=HEr.out.cell hi
   obtain ⟨Aj,cj,kj,zj⟩:=HEr.out.cell hj
   have hne:¬ i=j:=by omega
   have hne':¬ j=i:=by omega
   go_wp2
   go_region_with_o (fail)
   all_goals
    have HS:=am ((HEr.out.set i Aj cj).set j Ai ci)
    have HO2:=am ((HO.out.setCell (b:=g) (j:=i) rfl (.slice Aj 0 cj)).setCell (b:=g) (j:=j) rfl (.slice Ai 0 ci))
    have HLT:=am hij
    clear ki zi kj zj hij hi hj
    go_wp2
    go_roundg (n - (i+1))
    case measure=>have:=HP.out;have:=HLT.out;omega
    case rel=>
     exact ⟨i+1,j - 1,by rw [hwi],by rw [hwj],⟨by have:=HP.out;have:=HLT.out;omega⟩,⟨HS.out⟩,⟨⟨HO2.out.os,HO2.out.tape,HO2.out.output,HO2.out.size,HO2.out.block⟩⟩⟩
  ·have hpp:=eq_false hij
   go_wp2
   go_end0
   exact ⟨rfl,HEr.out,HO.out⟩
theorem applyMods_calls (w:World) (B:Option Addr) (l k:Nat) (A:Option Addr) (c:Nat):
  Calls Tryz.prog 444 #[.slice B l k,.slice A 0 c] w fun e w'=>e=.returned (.slice B l k)∧w'=w:=by
 go_enter Tryz.func444,Tryz.ntmps444
 go_wp2
 refine wp_loop_once ?_
 go_wp2
 go_ret
 exact ⟨rfl,rfl⟩
theorem applyGrouped_calls (w:World) (B:Option Addr) (l k:Nat) (g n c:Nat) (hn:1≤n∧n≤1000) (h:Empties w g n):
  Calls Tryz.prog 430 #[.slice B l k,.slice (some ⟨g,0,none⟩) n c] w fun e w'=>e=.returned (.slice B l k)∧OnlyIn w w' (fun k=>k=g):=by
 have CR:=am (reverse_calls w g n c hn h)
 have HN:=am hn
 clear h hn
 go_enter Tryz.func430,Tryz.ntmps430
 go_wp2_with (go_at_call 443;fail)
 refine CR.out.mono ?_
 rintro e w1 ⟨rfl,he,ho⟩
 have HE:=am he
 have HO:=am ho
 clear he ho CR
 go_wp2
 go_loopg [0,11] n (fun gf v0 v11 wx=>∃ (j:Nat),v0=.slice B l k∧v11=.int .i64 (j:Int)∧Aside0 (j≤n∧n - j=gf)∧wx=w1)
 case atStart=>exact ⟨0,rfl,rfl,⟨by omega⟩,rfl⟩
 case round=>
  obtain ⟨j,rfl,rfl,HP,hwx⟩:=hrel
  subst hwx
  by_cases hj:j < n
  ·have hpp:=eq_true hj
   obtain ⟨Aj,cj,kj,zj⟩:=HE.out.cell hj
   have hw1:wrap64 ((j:Int)+1)=((j+1:Nat):Int):=by have:=HN.out;unfold wrap64;omega
   have CM:=am (applyMods_calls wr B l k Aj cj)
   have HJ:=am hj
   clear hj zj
   go_wp2_with (go_at_call 444;fail)
   refine CM.out.mono ?_
   rintro e w2 ⟨rfl,hw⟩
   rw [hw]
   clear hw
   go_wp2
   go_roundg (n - (j+1))
   case measure=>have:=HP.out;have:=HJ.out;omega
   case rel=>exact ⟨j+1,rfl,by rw [hw1],⟨by have:=HJ.out;omega⟩,rfl⟩
  ·have hpp:=eq_false hj
   clear hj
   go_wp2
   go_ret
   exact ⟨rfl,HO.out⟩
theorem at_cells {w:World} {A:Option Addr} {xs:List (List Int)} (h:Kd.C bytesK w A xs.length xs) (j:Nat) (hj:j < xs.length):∃ ad A0 c0,A=some ad∧w.cell? (ad.add j)=some (.slice A0 xs[j].length c0)∧xs[j].length≤c0∧Kd.C (Kd.int .u8) w A0 xs[j].length xs[j]:=by
 obtain ⟨ad,cs,e,_,hK,hc0⟩:=Kd.C_get h ([]:List Int) (j:Int) (by omega) (by omega)
 have hg:xs.getD (j:Int).toNat ([]:List Int)=xs[j]:=by simp [hj]
 rw [hg] at hK
 have hc:∀ i u,cs[i]?=some u→w.cell? (ad.add ((j:Int).toNat * 1+i))=some u:=hc0
 obtain ⟨A0,c0,rfl,l0,g0⟩:=hK
 exact ⟨ad,A0,c0,e,by have hq:=hc 0 _ rfl;rw [Nat.mul_one,Nat.add_zero,Int.toNat_natCast] at hq;exact hq,l0,g0⟩
def emptyRow (xs:List (List Int)):Bool:=xs.all fun x=>decide (x.length=0)
theorem emptyRow_take (xs:List (List Int)) (h:∀ x∈xs,x.length=0):emptyRow xs=true:=by
 unfold emptyRow
 rw [List.all_eq_true]
 intro x hx
 exact decide_eq_true (h x hx)
theorem emptyRow_not (xs:List (List Int)) (j:Nat) (hj:j < xs.length) (h:xs[j].length≠0):emptyRow xs=false:=by
 cases he:emptyRow xs with
 |false=>rfl
 |true=>
  unfold emptyRow at he
  rw [List.all_eq_true] at he
  exact absurd (of_decide_eq_true (he _ (List.getElem_mem hj))) h
theorem isEmptyRow_calls (w:World) (A:Option Addr) (c:Nat) (xs:List (List Int)) (h:Kd.C bytesK w A xs.length xs) (hc:xs.length≤c) (hl:xs.length≤1000):
  Calls Tryz.prog 447 #[.slice A xs.length c] w fun e w'=>e=.returned (.bool (emptyRow xs))∧w'=w:=by
 have HA:=am h
 have HL:=am hl
 clear h hl
 go_enter Tryz.func447,Tryz.ntmps447
 go_wp2
 go_loopg [7] xs.length (fun gf v7 wx=>∃ (j:Nat),v7=.int .i64 (j:Int)∧Aside0 (j≤xs.length∧xs.length - j=gf∧∀ (i:Nat) (hi:i < xs.length),i < j→xs[i].length=0)∧wx=w)
 case atStart=>exact ⟨0,rfl,⟨by omega,by omega,by omega⟩,rfl⟩
 case round=>
  obtain ⟨j,rfl,HP,hwx⟩:=hrel
  subst hwx
  by_cases hj:j < xs.length
  ·have hpp:=eq_true hj
   obtain ⟨ad,A0,c0,rfl,k1,k2,k3⟩:=at_cells HA.out j hj
   have hw1:wrap64 ((j:Int)+1)=((j+1:Nat):Int):=by have:=HL.out;unfold wrap64;omega
   have HJ:=am hj
   by_cases h0:xs[j].length=0
   ·rw [h0] at k1
    have H0:Aside0 (∀ hi:j < xs.length,(xs[j]'hi).length=0):=⟨fun _=>h0⟩
    clear hj k2 k3 h0
    go_wp2
    go_roundg (xs.length - (j+1))
    case measure=>have:=HP.out;have:=HJ.out;omega
    case rel=>exact ⟨j+1,by rw [hw1],⟨by have:=HJ.out;omega,rfl,fun i hi hij=>by
     by_cases e:i=j
     ·subst e;exact H0.out hi
     ·exact HP.out.2.2 i hi (by omega)⟩,rfl⟩
   ·have hres:emptyRow xs=false:=emptyRow_not xs j hj h0
    have hgt:decide ((0:Int) < (xs[j].length:Int))=true:=decide_eq_true (by omega)
    have hne:=eq_false h0
    have hpos:(0 < xs[j].length)=True:=eq_true (Nat.pos_of_ne_zero h0)
    have HRES:=am hres
    obtain ⟨m,hm⟩:∃ m,xs[j].length=m:=⟨_,rfl⟩
    rw [hm] at k1 hgt hpos
    clear hj k2 k3 h0 hres hne hm
    go_wp2
    go_ret
    exact ⟨by rw [HRES.out];rfl,rfl⟩
  ·have hpp:=eq_false hj
   have hres:emptyRow xs=true:=emptyRow_take xs fun x hx=>by
    obtain ⟨i,hi,rfl⟩:=List.getElem_of_mem hx
    exact HP.out.2.2 i hi (by have:=HP.out.1;omega)
   have HRES:=am hres
   clear hj hres
   go_wp2
   go_ret
   exact ⟨by rw [HRES.out];rfl,rfl⟩
variable {f:Nat→Nat}
abbrev TRow:=List (List Int)×Nat
abbrev rowK0:Kd (List (List Int)):=Kd.slice 62 bytesK
abbrev rowK (f:Nat→Nat):Kd TRow:=Kd.tag f rowK0
structure Grid (f:Nat→Nat) (w:World) (N g n:Nat) (xss:List TRow):Prop where
 len:xss.length=n
 at_:∃ cur,w.heap[g]?=some (.cells cur 354 (0,0))∧n≤cur.size∧∀ (j:Nat) (hj:j < xss.length),∃ r,cur[j]?=some r∧(rowK f).M w N (fun k=>k≠g) xss[j] [r]
theorem Grid.cell {w:World} {N g n:Nat} {xss:List TRow} (h:Grid f w N g n xss) (j:Nat) (hj:j < xss.length):∃ A c,w.cell? ⟨g,j,none⟩=some (.slice A xss[j].1.length c)∧w.frozen? ⟨g,j,none⟩=false∧xss[j].1.length≤c∧Kd.C bytesK w A xss[j].1.length xss[j].1∧(rowK f).M w N (fun k=>k≠g) xss[j] [.slice A xss[j].1.length c]:=by
 obtain ⟨cur,h1,h2,h3⟩:=h.at_
 obtain ⟨r,h4,h5⟩:=h3 j hj
 obtain ⟨A,c,h6,h7,h8⟩:=(rowK f).K_of_M h5
 injection h6 with h6
 subst h6
 exact ⟨A,c,by simp [World.cell?,h1,h4],by simp [World.frozen?,h1],h7,h8,h5⟩
theorem del_calls (w:World) (Bi:Nat) (k:Nat) (hk:k≤1000) (hb:w.heap[Bi]?=some (.cells #[.int .i64 (k:Int)] 3 (0,0))) (A:Option Addr) (c:Nat) (xs:List (List Int)) (h:Kd.C bytesK w A xs.length xs) (hc:xs.length≤c) (hl:xs.length≤1000) (hne:∀ g,A=some g→g.block≠Bi) (hC:Kd.C bytesK (w.setCell ⟨Bi,0,none⟩ (.int .i64 ((k+1:Nat):Int))) A xs.length xs):
  Calls Tryz.prog 446 #[.slice A xs.length c,.pointer (some ⟨Bi,0,none⟩)] w fun e w'=>e=.returned (.bool (decide (k≠0)&&emptyRow xs))∧w'=w.setCell ⟨Bi,0,none⟩ (.int .i64 ((k+1:Nat):Int)):=by
 have c1:=heap_cell hb
 have z1:=heap_frozen hb
 have hw1:wrap64 ((k:Int)+1)=((k+1:Nat):Int):=by unfold wrap64;omega
 by_cases h0:k=0
 ·subst h0
  clear h hC
  go_enter Tryz.func446,Tryz.ntmps446
  go_wp2
  go_ret
  exact ⟨rfl,rfl⟩
 ·have CE:=am (isEmptyRow_calls _ A c xs hC hc hl)
  have hk0:((k:Int)==0)=false:=beq_eq_false_iff_ne.mpr (by omega)
  have hk1:=eq_false h0
  have HK:=am h0
  clear h hC h0
  go_enter Tryz.func446,Tryz.ntmps446
  go_wp2_with (go_at_call 447;fail)
  refine CE.out.mono ?_
  rintro e w1 ⟨rfl,hw⟩
  rw [hw]
  clear hw CE
  go_wp2
  go_ret
  exact ⟨by rw [decide_eq_true HK.out,Bool.true_and];rfl,rfl⟩
variable {f:Nat→Nat}
theorem Grid.setBox {w:World} {N g n:Nat} {xss:List TRow} (h:Grid f w N g n xss) {Bi:Nat} {v:Value} (hb:w.heap[Bi]?=some (.cells #[v] 3 (0,0))) (u:Value):Grid f (w.setCell ⟨Bi,0,none⟩ u) N g n xss:=by
 obtain ⟨cur,h1,h2,h3⟩:=h.at_
 have hne:Bi≠g:=by
  rintro rfl
  rw [h1] at hb
  injection hb with hb
  injection hb with _ hb _
  exact absurd hb (by decide)
 refine ⟨h.len,cur,by rw [Below.heap_setCell _ _ _ _ (fun e=>hne e.symm)];exact h1,h2,fun j hj=>?_⟩
 obtain ⟨r,h4,h5⟩:=h3 j hj
 refine ⟨r,h4,?_⟩
 have h6:=Kd.M_types h5 hb (show ∀ q,q∈rowK0.E→q≠3 by decide)
 exact (rowK f).M_mono (fun k hk=>hk.1) (Kd.M_far (p:=⟨Bi,0,none⟩) h6 (fun k hk=>hk.2) u)
theorem Grid.cell_ne {w:World} {N g n:Nat} {xss:List TRow} (h:Grid f w N g n xss) {Bi:Nat} {v:Value} (hb:w.heap[Bi]?=some (.cells #[v] 3 (0,0))) (u:Value) (j:Nat) (hj:j < xss.length):∃ A c,w.cell? ⟨g,j,none⟩=some (.slice A xss[j].1.length c)∧xss[j].1.length≤c∧Kd.C bytesK w A xss[j].1.length xss[j].1∧Kd.C bytesK (w.setCell ⟨Bi,0,none⟩ u) A xss[j].1.length xss[j].1∧(∀ ad,A=some ad→ad.block≠Bi)∧(rowK f).M (w.setCell ⟨Bi,0,none⟩ u) N (fun k=>k≠g) xss[j] [.slice A xss[j].1.length c]:=by
 obtain ⟨A,c,h1,h2,h3,h4,h5⟩:=h.cell j hj
 obtain ⟨A2,c2,k1,k2,k3,k4,k5⟩:=(h.setBox hb u).cell j hj
 have hne:g≠Bi:=by
  obtain ⟨cur,q1,_⟩:=h.at_
  rintro rfl
  rw [q1] at hb
  injection hb with hb
  injection hb with _ hb _
  exact absurd hb (by decide)
 rw [World.cell?_setCell_far _ _ _ _ (fun e=>hne e.symm),h1] at k1
 injection k1 with k1
 injection k1 with k6 _ k7
 subst k6 k7
 refine ⟨A,c,h1,h3,h4,k4,fun ad hA=>?_,k5⟩
 subst hA
 obtain ⟨v',e,hR⟩:=h5
 injection e with e
 subst e
 obtain ⟨inner,ho⟩:=Kd.R_own hR
 obtain ⟨cells,hc⟩:=own_typed ho ad.block rfl
 intro e
 rw [e,hb] at hc
 injection hc with hc
 injection hc with _ hc _
 exact absurd hc (by decide)
def drops (xss:List TRow) (j:Nat):Bool:=decide (j≠0)&&emptyRow (xss.getD j ([],0)).1
theorem indexFunc_calls (w:World) (N g n c Bi:Nat) (xss:List TRow) (hn:n≤1000) (hr:∀ xs∈xss,xs.1.length≤1000) (hG:Grid f w N g n xss) (hc:n≤c) (hb:w.heap[Bi]?=some (.cells #[.int .i64 0] 3 (0,0))):
  Calls Tryz.prog 454 #[.slice (some ⟨g,0,none⟩) n c,.func (.func 446) #[] #[.pointer (some ⟨Bi,0,none⟩)]] w fun e w'=>Grid f w' N g n xss∧OnlyIn w w' (fun k=>k=Bi) ∧
   ((e=.returned (.int .i64 (-1))∧∀ j,j < n→drops xss j=false)∨∃ i:Nat,i < n∧e=.returned (.int .i64 (i:Int))∧drops xss i=true∧(∀ j,j < i→drops xss j=false)∧w'.heap[Bi]?=some (.cells #[.int .i64 ((i+1:Nat):Int)] 3 (0,0))):=by
 have HN:=am hn
 have HR:=am hr
 have HG:=am hG
 have HB:=am hb
 clear hn hr hG hb
 go_enter Tryz.func454,Tryz.ntmps454
 go_wp2
 go_loopg [8] n (fun gf v8 wx=>∃ (j:Nat),v8=.int .i64 (j:Int)∧Aside0 (j≤n∧n - j=gf∧∀ i,i < j→drops xss i=false)∧Aside0 (Grid f wx N g n xss)∧Aside0 (OnlyIn w wx (fun k=>k=Bi))∧Aside0 (wx.heap[Bi]?=some (.cells #[.int .i64 (j:Int)] 3 (0,0))))
 case atStart=>exact ⟨0,rfl,⟨by omega,by omega,by omega⟩,HG,⟨OnlyIn.refl _ _⟩,HB⟩
 case round=>
  obtain ⟨j,rfl,HP,HGr,HO,HBr⟩:=hrel
  by_cases hj:j < n
  ·have hpp:=eq_true hj
   have hjx:j < xss.length:=by rw [HG.out.len];exact hj
   have hw1:wrap64 ((j:Int)+1)=((j+1:Nat):Int):=by have:=HN.out;unfold wrap64;omega
   obtain ⟨A,c1,k1,k2,k3,k4,k5,k6⟩:=HGr.out.cell_ne HBr.out (.int .i64 ((j+1:Nat):Int)) j hjx
   have cd:=del_calls wr Bi j (by have:=HN.out;omega) HBr.out A c1 xss[j].1 k3 k2 (HR.out _ (List.getElem_mem hjx)) k5 k4
   have hdr:drops xss j=(decide (j≠0)&&emptyRow xss[j].1):=by
    unfold drops
    rw [List.getD_eq_getElem?_getD,List.getElem?_eq_getElem hjx];rfl
   rw [← hdr] at cd
   have CD:=am cd
   clear cd
   have HG2:=am (HGr.out.setBox HBr.out (.int .i64 ((j+1:Nat):Int)))
   have HO2:=am (HO.out.setCell (b:=Bi) (j:=0) rfl (.int .i64 ((j+1:Nat):Int)))
   have HB2:=am (heap_set HBr.out (u:=.int .i64 ((j+1:Nat):Int)))
   have HJ:=am hj
   obtain ⟨xs,hxs⟩:∃ xs,xss[j].1=xs:=⟨_,rfl⟩
   rw [hxs] at CD k1
   cases hd:drops xss j with
   |true=>
    rw [hd] at CD
    have HD:=am hd
    clear hj hjx k2 k3 k4 k5 k6 hdr hxs hd
    go_wp2_with (go_at_call 446;fail)
    refine CD.out.mono ?_
    rintro e w2 ⟨rfl,hw⟩
    rw [hw]
    clear hw CD k1
    go_wp2
    go_ret
    exact ⟨HG2.out,HO2.out,.inr ⟨j,HJ.out,rfl,HD.out,HP.out.2.2,HB2.out⟩⟩
   |false=>
    rw [hd] at CD
    have HD:=am hd
    clear hj hjx k2 k3 k4 k5 k6 hdr hxs hd
    go_wp2_with (go_at_call 446;fail)
    refine CD.out.mono ?_
    rintro e w2 ⟨rfl,hw⟩
    rw [hw]
    clear hw CD k1
    go_wp2
    go_roundg (n - (j+1))
    case measure=>have:=HP.out.2.1;have:=HJ.out;omega
    case rel=>
     refine ⟨j+1,by rw [hw1],⟨by have:=HJ.out;omega,rfl,fun i hi=>?_⟩,HG2,HO2,HB2⟩
     by_cases e:i=j
     ·subst e;exact HD.out
     ·exact HP.out.2.2 i (by omega)
  ·have hpp:=eq_false hj
   have HJ:=am hj
   clear hj
   go_wp2
   go_ret
   exact ⟨HGr.out,HO.out,.inl ⟨rfl,fun i hi=>HP.out.2.2 i (by have:=HJ.out;omega)⟩⟩
variable {f:Nat→Nat}
def keepL (xss:List TRow) (j:Nat):List TRow:=((List.range j).filter fun k=>!drops xss k).map fun k=>xss.getD k ([],0)
theorem keepL_succ (xss:List TRow) (j:Nat):keepL xss (j+1)=keepL xss j++(if drops xss j then [] else [xss.getD j ([],0)]):=by
 unfold keepL
 rw [List.range_succ,List.filter_append,List.map_append]
 congr 1
 cases h:drops xss j <;> simp [h]
theorem keepL_all (xss:List TRow):∀ (j:Nat),(∀ i,i < j→drops xss i=false)→j≤xss.length→keepL xss j=xss.take j
 |0,_,_=>by simp [keepL]
 |j+1,h,hj=>by
  rw [keepL_succ,keepL_all xss j (fun i hi=>h i (by omega)) (by omega),h j (by omega),List.take_succ_eq_append_getElem (by omega)]
  simp [List.getElem?_eq_getElem (show j < xss.length by omega)]
theorem keepL_len (xss:List TRow) (j:Nat):(keepL xss j).length≤j:=by
 unfold keepL
 rw [List.length_map]
 exact Nat.le_trans (List.length_filter_le _ _) (by simp)
theorem Grid.move {w:World} {N g n:Nat} {xss:List TRow} (h:Grid f w N g n xss) (i:Nat) {v:Value} {xs:TRow} (hv:(rowK f).M w N (fun k=>k≠g) xs [v]):Grid f (w.setCell ⟨g,i,none⟩ v) N g n (xss.set i xs):=by
 obtain ⟨cur,h1,h2,h3⟩:=h.at_
 refine ⟨by rw [List.length_set];exact h.len,cur.setIfInBounds i v,?_,by simpa using h2,fun j hj=>?_⟩
 ·rw [setCell_eq_setRow w g i _ _ _ _ h1]
  exact setRow_heap w g cur _ _ (0,0) h1
 ·rw [List.length_set] at hj
  rw [Array.getElem?_setIfInBounds]
  by_cases e:i=j
  ·subst e
   have hi:i < cur.size:=by rw [h.len] at hj;omega
   rw [if_pos rfl,if_pos hi]
   refine ⟨v,rfl,?_⟩
   rw [List.getElem_set_self]
   exact Kd.M_far (p:=⟨g,i,none⟩) hv (fun k hk=>hk) v
  ·rw [if_neg e]
   obtain ⟨r,h4,h5⟩:=h3 j hj
   refine ⟨r,h4,?_⟩
   rw [List.getElem_set_ne e]
   exact Kd.M_far (p:=⟨g,i,none⟩) h5 (fun k hk=>hk) v
variable {f:Nat→Nat}
theorem info354:(Tryz.prog.info? 354).map (fun i=>(i.zero,i.size,i.bytes))=some (some (.slice none 0 0),1,24):=by kernel_rfl
theorem run_clear (w:World) (g i m c:Nat) (cur:Array Value) (hg:w.heap[g]?=some (.cells cur 354 (0,0))) (hm:1≤m) (hle:i+m≤cur.size):
  ∃ zs:List Value,zs.length=m∧∀ ty,(Builtin.clear_ #[431] ty #[.slice (some ⟨g,i,none⟩) m c]).run Tryz.prog w=.ok (.tuple #[]) (w.setRow g (cur.toList.take i++zs++cur.toList.drop (i+m)).toArray):=by
 obtain ⟨j,hj,hz⟩:=Option.map_eq_some_iff.1 info354
 simp only [Prod.mk.injEq] at hz
 obtain ⟨z1,z2,z3⟩:=hz
 obtain ⟨m',rfl⟩:∃ m',m=m'+1:=⟨m - 1,by omega⟩
 have hzs:(Builtin.zeroCells (Value.slice none 0 0).cells (m'+1)).toList.length=m'+1:=by simp [Builtin.zeroCells,Value.cells]
 refine ⟨_,hzs,fun ty=>?_⟩
 have hst:=run_storeCells_at Tryz.prog g i 354 (Builtin.zeroCells (Value.slice none 0 0).cells (m'+1)).toList 0 cur w hg (by rw [hzs];omega) (by
  intro v hv
  simp [Builtin.zeroCells,Value.cells] at hv
  obtain ⟨a,ha,hv⟩:=hv
  rw [Nat.mod_one] at hv
  rw [← hv]
  rfl)
 rw [Nat.add_zero,hzs] at hst
 simp [Builtin.clear_,run_underlying Tryz.underlying431,zeroValue,typeInfo,hj,z1,hst]
theorem Grid.box_ne {w:World} {N g n:Nat} {xss:List TRow} (h:Grid f w N g n xss) {Bi:Nat} {v:Value} (hb:w.heap[Bi]?=some (.cells #[v] 3 (0,0))):Bi≠g:=by
 obtain ⟨cur,h1,_⟩:=h.at_
 rintro rfl
 rw [h1] at hb
 injection hb with hb
 injection hb with _ hb _
 exact absurd hb (by decide)
theorem keepL_lt (xss:List TRow) (i:Nat) (h:drops xss i=true):∀ (j:Nat),i < j→(keepL xss j).length < j
 |0,hj=>by omega
 |j+1,hj=>by
  rw [keepL_succ,List.length_append]
  by_cases e:i=j
  ·subst e
   rw [h]
   have:=keepL_len xss i
   simp
   omega
  ·have:=keepL_lt xss i h j (by omega)
   split <;> simp <;> omega
theorem deleteFunc_calls (w:World) (N g n c Bi:Nat) (xss:List TRow) (hn:n≤1000) (hr:∀ xs∈xss,xs.1.length≤1000) (hG:Grid f w N g n xss) (hc:n≤c) (hb:w.heap[Bi]?=some (.cells #[.int .i64 0] 3 (0,0))):
  Calls Tryz.prog 445 #[.slice (some ⟨g,0,none⟩) n c,.func (.func 446) #[] #[.pointer (some ⟨Bi,0,none⟩)]] w fun e w'=>e=.returned (.slice (some ⟨g,0,none⟩) (keepL xss n).length c)∧Grid f w' N g (keepL xss n).length (keepL xss n)∧OnlyIn w w' (fun k=>k=Bi∨k=g):=by
 have CI:=am (indexFunc_calls w N g n c Bi xss hn hr hG hc hb)
 have HN:=am hn
 have HR:=am hr
 have HLX:=am hG.len
 have HCN:=am hc
 clear hr hG hb hn
 go_enter Tryz.func445,Tryz.ntmps445
 go_wp2_with (go_at_call 454;fail)
 refine CI.out.mono ?_
 rintro e w1 ⟨hG1,hO1,hor⟩
 have HG1:=am hG1
 have HO1:=am hO1
 clear hG1 hO1 CI
 rcases hor with ⟨rfl,hall⟩|⟨i,hi,rfl,hdi,hbef,hbx⟩
 ·have HK:=am (keepL_all xss n hall (by rw [HLX.out];omega))
  clear hall
  go_wp2
  go_ret
  have h1:keepL xss n=xss:=by rw [HK.out,List.take_of_length_le (by rw [HLX.out];omega)]
  rw [h1,HLX.out]
  exact ⟨rfl,HG1.out,⟨HO1.out.os,HO1.out.tape,HO1.out.output,HO1.out.size,fun k hk=>HO1.out.block k (fun e=>hk (.inl e))⟩⟩
 ·have HD:=am hdi
  have HBE:=am hbef
  have HBX:=am hbx
  have HI:=am hi
  have hne1:((i:Int)==-1)=false:=beq_eq_false_iff_ne.mpr (by omega)
  have HW1:Aside0 (wrap64 ((i:Int)+1)=((i+1:Nat):Int)):=⟨by have:=HN.out;have:=HI.out;unfold wrap64;omega⟩
  clear hdi hbef hbx hi
  go_wp2
  go_loopg [5,6] n (fun gf v5 v6 wx=>∃ (a j:Nat) (ys:List TRow),v5=.int .i64 (a:Int)∧v6=.int .i64 (j:Int)∧Aside0 (i < j∧j≤n∧n - j≤gf∧a=(keepL xss j).length)∧Aside0 (ys.take a=keepL xss j∧∀ k,j≤k→ys.getD k ([],0)=xss.getD k ([],0))∧Aside0 (∀ xs∈ys,xs.1.length≤1000)∧Aside0 (Grid f wx N g n ys)∧Aside0 (OnlyIn w wx (fun k=>k=Bi∨k=g))∧Aside0 (wx.heap[Bi]?=some (.cells #[.int .i64 (j:Int)] 3 (0,0))))
  case atStart=>
   have hka:=keepL_all xss i HBE.out (by rw [HLX.out];exact Nat.le_of_lt HI.out)
   have hks:=keepL_succ xss i
   rw [HD.out,hka,if_pos rfl,List.append_nil] at hks
   have hlen:(xss.take i).length=i:=by rw [List.length_take,HLX.out];have:=HI.out;omega
   exact ⟨i,i+1,xss,rfl,by rw [HW1.out],⟨by omega,HI.out,by have:=HI.out;omega,by rw [hks,hlen]⟩,⟨hks.symm,fun _ _=>rfl⟩,HR,HG1,⟨⟨HO1.out.os,HO1.out.tape,HO1.out.output,HO1.out.size,fun k hk=>HO1.out.block k (fun e=>hk (.inl e))⟩⟩,HBX⟩
  case round=>
   obtain ⟨a,j,ys,rfl,rfl,HP,HY,HRy,HGr,HO,HBr⟩:=hrel
   by_cases hj:j < n
   ·have hpp:=eq_true hj
    have hjy:j < ys.length:=by rw [HGr.out.len];exact hj
    have hja:a < j:=by have:=HP.out;have:=keepL_lt xss i HD.out j (by omega);omega
    have hw2:wrap64 ((j:Int)+1)=((j+1:Nat):Int):=by have:=HN.out;unfold wrap64;omega
    have hw3:wrap64 ((a:Int)+1)=((a+1:Nat):Int):=by have:=HN.out;unfold wrap64;omega
    obtain ⟨A,c1,k1,k2,k3,k4,k5,k6⟩:=HGr.out.cell_ne HBr.out (.int .i64 ((j+1:Nat):Int)) j hjy
    have cd:=del_calls wr Bi j (by have:=HN.out;omega) HBr.out A c1 ys[j].1 k3 k2 (HRy.out _ (List.getElem_mem hjy)) k5 k4
    have hyx:ys[j]=xss.getD j ([],0):=by
     rw [← HY.out.2 j (Nat.le_refl _),List.getD_eq_getElem?_getD,List.getElem?_eq_getElem hjy];rfl
    have hdr:drops xss j=(decide (j≠0)&&emptyRow ys[j].1):=by rw [hyx];rfl
    rw [← hdr] at cd
    have HM:=am k6
    have HYX:=am hyx
    have HG2:=am (HGr.out.setBox HBr.out (.int .i64 ((j+1:Nat):Int)))
    have HO2:=am (HO.out.setCell (b:=Bi) (j:=0) (.inl rfl) (.int .i64 ((j+1:Nat):Int)))
    have HB2:=am (heap_set HBr.out (u:=.int .i64 ((j+1:Nat):Int)))
    have HJ:=am hj
    have HJA:=am hja
    have HHL:=am (HRy.out _ (List.getElem_mem hjy))
    have HGB:Aside0 (Bi≠g):=⟨HGr.out.box_ne HBr.out⟩
    obtain ⟨xs,hxs⟩:∃ xs,ys[j]=xs:=⟨_,rfl⟩
    rw [hxs] at cd k1 HM HYX HHL
    have CD:=am cd
    cases hd:drops xss j with
    |true=>
     rw [hd] at CD
     have HDJ:=am hd
     clear hj hjy k2 k3 k4 k5 k6 hdr hxs hd cd hyx hja
     go_wp2_with (go_at_call 446;fail)
     refine CD.out.mono ?_
     rintro e w2 ⟨rfl,hw⟩
     rw [hw]
     clear hw CD k1
     go_wp2
     go_roundg (n - (j+1))
     case measure=>have:=HP.out.2.2.1;have:=HJ.out;omega
     case rel=>
      have hks:=keepL_succ xss j
      rw [HDJ.out,if_pos rfl,List.append_nil] at hks
      exact ⟨a,j+1,ys,rfl,by rw [hw2],⟨by have:=HP.out;omega,by have:=HJ.out;omega,Nat.le_refl _,by rw [hks];exact HP.out.2.2.2⟩,⟨by rw [hks];exact HY.out.1,fun k hk=>HY.out.2 k (by omega)⟩,HRy,HG2,HO2,HB2⟩
    |false=>
     rw [hd] at CD
     have HDJ:=am hd
     have hay:a < ys.length:=by omega
     obtain ⟨v3,q1,q2⟩:∃ v3,(wr.setCell ⟨Bi,0,none⟩ (.int .i64 ((j:Int)+1))).cell? ⟨g,a,none⟩=some v3∧(wr.setCell ⟨Bi,0,none⟩ (.int .i64 ((j:Int)+1))).frozen? ⟨g,a,none⟩=false:=by
      obtain ⟨A3,c3,q1,q2,_⟩:=HG2.out.cell a hay
      exact ⟨_,q1,q2⟩
     have HAY:=am hay
     have hpa:=eq_true (show a < n by omega)
     clear hj hjy k2 k3 k4 k5 k6 hdr hxs hd cd hyx hja hay
     go_wp2_with (go_at_call 446;fail)
     refine CD.out.mono ?_
     rintro e w2 ⟨rfl,hw⟩
     rw [hw]
     clear hw CD k1
     go_wp2
     go_roundg (n - (j+1))
     case measure=>have:=HP.out.2.2.1;have:=HJ.out;omega
     case rel=>
      have hks:=keepL_succ xss j
      rw [HDJ.out,if_neg (by decide)] at hks
      have hset:∀ k,j+1≤k→(ys.set a xs).getD k ([],0)=ys.getD k ([],0):=fun k hk=>by
       rw [List.getD_eq_getElem?_getD,List.getElem?_set_ne (by have:=HJA.out;omega),← List.getD_eq_getElem?_getD]
      refine ⟨a+1,j+1,ys.set a xs,by rw [hw3],by rw [hw2],⟨by have:=HP.out;omega,by have:=HJ.out;omega,Nat.le_refl _,by rw [hks,List.length_append,← HP.out.2.2.2];rfl⟩,⟨?_,fun k hk=>by rw [hset k hk];exact HY.out.2 k (by omega)⟩,⟨fun x hx=>?_⟩,⟨HG2.out.move a HM.out⟩,⟨HO2.out.setCell (b:=g) (j:=a) (.inr rfl) _⟩,⟨?_⟩⟩
      ·rw [hks,← HY.out.1,← HYX.out,List.take_succ_eq_append_getElem (by rw [List.length_set];exact HAY.out),List.take_set_of_le (Nat.le_refl _),List.getElem_set_self]
      ·rcases List.mem_or_eq_of_mem_set hx with hx|rfl
       ·exact HRy.out x hx
       ·exact HHL.out
      ·rw [Below.heap_setCell _ _ _ _ (fun e=>HGB.out e)]
       exact HB2.out
   ·have hpp:=eq_false hj
    have HJN:=am (show j=n by have:=HP.out;omega)
    have ha:=keepL_lt xss i HD.out n HI.out
    have hak:a=(keepL xss n).length:=by have:=HP.out.2.2.2;rw [HJN.out] at this;exact this
    have HAK:=am hak
    have han:a < n:=by omega
    obtain ⟨cur,h1,h2,h3⟩:=HGr.out.at_
    obtain ⟨zs,hzl,hcl⟩:=run_clear wr g a (n - a) (c - a) cur h1 (by omega) (by omega)
    have HZL:=am hzl
    have HC1:=am h1
    have HC2:=am h2
    have HC3:=am h3
    have hpa:=eq_true han
    have hle:=eq_true (Nat.le_of_lt han)
    have hle2:=eq_true (show a≤c by omega)
    have hca:=eq_false (show ¬ c=a by omega)
    have HAN:=am han
    clear hj h1 h2 h3 ha hak han hzl
    go_wp2
    go_ret
    have hak:=HAK.out
    have hks:(keepL xss n)=ys.take a:=by rw [HY.out.1,HJN.out]
    have hya:a≤ys.length:=by rw [HGr.out.len];exact Nat.le_of_lt HAN.out
    refine ⟨by rw [← hak];rfl,⟨rfl,_,setRow_heap wr g cur _ _ (0,0) HC1.out,?_,?_⟩,?_⟩
    ·rw [← hak]
     simp only [List.size_toArray,List.length_append,List.length_take,Array.length_toList]
     have:=HAN.out
     have:=HC2.out
     omega
    ·intro k hk
     have hka:k < a:=by rw [hak];exact hk
     have hky:k < ys.length:=by omega
     obtain ⟨r,h4,h5⟩:=HC3.out k hky
     have hkc:k < cur.size:=by have:=HC2.out;have:=HAN.out;omega
     refine ⟨r,?_,?_⟩
     ·rw [List.getElem?_toArray,List.getElem?_append_left (by rw [List.length_take,Array.length_toList];omega),List.getElem?_take,if_pos hka,Array.getElem?_toList]
      exact h4
     ·have e:(keepL xss n)[k]=ys[k]:=by
       have h6:=congrArg (fun l:List TRow=>l[k]?) hks
       simp only [List.getElem?_take,if_pos hka] at h6
       rw [List.getElem?_eq_getElem hk,List.getElem?_eq_getElem hky] at h6
       exact Option.some.inj h6
      rw [e]
      exact Kd.M_step h5 (fun k hk _=>setRow_other _ _ _ _ hk)
    ·have ho:=HO.out
     exact ⟨ho.os,ho.tape,ho.output,by rw [setRow_size];exact ho.size,fun k hk=>by
      rw [setRow_other _ _ _ _ (fun e=>hk (.inr e))]
      exact ho.block k hk⟩
variable {f:Nat→Nat}
theorem Grid.keep {w w1:World} {N g n:Nat} {xss:List TRow} (h:Grid f w N g n xss) (hb:Below w.heap.size w w1):Grid f w1 N g n xss:=by
 obtain ⟨cur,h1,h2,h3⟩:=h.at_
 refine ⟨h.len,cur,by rw [hb.block g (heap_lt h1)];exact h1,h2,fun j hj=>?_⟩
 obtain ⟨r,h4,h5⟩:=h3 j hj
 exact ⟨r,h4,Kd.M_below h5 hb⟩
structure But (w w':World) (g:Nat):Prop where
 os:w'.os=w.os
 tape:w'.tape=w.tape
 output:w'.output=w.output
 size:w.heap.size≤w'.heap.size
 block:∀ k,k < w.heap.size→k≠g→w'.heap[k]?=w.heap[k]?
theorem But.below {w w':World} {g N:Nat} (h:But w w' g) (hg:N≤g) (hN:N≤w.heap.size):Below N w w':=⟨h.os,h.tape,h.output,h.size,fun k hk=>h.block k (by omega) (by omega)⟩
def removed (xss:List TRow):List TRow:=if (keepL xss xss.length).length=1∧emptyRow ((keepL xss xss.length).getD 0 ([],0)).1=true then [] else keepL xss xss.length
theorem removeEmpty_calls (w:World) (N g n c:Nat) (xss:List TRow) (hn:n≤1000) (hr:∀ xs∈xss,xs.1.length≤1000) (hG:Grid f w N g n xss) (hc:n≤c):
  Calls Tryz.prog 431 #[.slice (some ⟨g,0,none⟩) n c] w fun e w'=>∃ A c',e=.returned (.slice A (removed xss).length c')∧(removed xss).length≤c'∧But w w' g∧((removed xss)≠[]→A=some ⟨g,0,none⟩∧Grid f w' N g (removed xss).length (removed xss)):=by
 have hmf:∀ (fn:Fn) (first cap:Array Value) (w:World),(Instr.makeFunc fn first cap).run Tryz.prog w=.ok (.func fn first cap) w:=fun _ _ _ _=>rfl
 have HG:=am hG
 have HR:=am hr
 have HN:=am hn
 have HGS:=am (show g < w.heap.size by obtain ⟨cur,h1,_⟩:=hG.at_;exact heap_lt h1)
 clear hG hr
 go_enter Tryz.func431,Tryz.ntmps431
 go_wp2_with (go_at_call 445;fail)
 have CD:=am (deleteFunc_calls (w.alloc (.cells #[.int .i64 0] 3)) N g n c w.heap.size xss hn HR.out (HG.out.keep ((Below.refl _ _).alloc (Nat.le_refl _) _)) hc (alloc_new _ _))
 refine CD.out.mono ?_
 rintro e w1 ⟨rfl,hG1,hO1⟩
 have HB:=am (show But w w1 g from ⟨hO1.os,hO1.tape,hO1.output,by rw [hO1.size,alloc_size];omega,fun k hk hkg=>by
  rw [hO1.block k (by rintro (e|e) <;> omega),Below.heap_alloc _ _ _ hk]⟩)
 have hxl:=HG.out.len
 obtain ⟨K,hK⟩:∃ K,keepL xss n=K:=⟨_,rfl⟩
 have hrm:removed xss=if K.length=1∧emptyRow (K.getD 0 ([],0)).1=true then [] else K:=by unfold removed;rw [hxl,hK]
 have hKn:K.length≤c:=by rw [← hK];have:=keepL_len xss n;omega
 have hKr:∀ xs∈K,xs.1.length≤1000:=by
  intro xs hx
  rw [← hK] at hx
  unfold keepL at hx
  obtain ⟨k,hk,rfl⟩:=List.mem_map.1 hx
  rw [List.getD_eq_getElem?_getD]
  cases h:xss[k]? with
  |none=>simp
  |some y=>exact HR.out y (List.mem_of_getElem? h)
 rw [hK] at hG1 ⊢
 have HRM:=am hrm
 have HKN:=am hKn
 have HG1:=am hG1
 clear CD hG1 hO1 hK hrm hKn hxl
 by_cases h1:K.length=1
 ·have h0:0 < K.length:=by omega
  obtain ⟨A,c2,k1,k2,k3,k4,k5⟩:=HG1.out.cell 0 h0
  have CE:=am (isEmptyRow_calls w1 A c2 K[0].1 k4 k3 (hKr _ (List.getElem_mem h0)))
  have hg0:(K.getD 0 ([],0)).1=K[0].1:=by rw [List.getD_eq_getElem?_getD,List.getElem?_eq_getElem h0];rfl
  have HG0:=am hg0
  obtain ⟨xs,hxs⟩:∃ xs,K[0].1=xs:=⟨_,rfl⟩
  rw [hxs] at k1 CE HG0
  have H1:=am h1
  clear k2 k3 k4 k5 hKr hg0 hxs
  cases he:emptyRow xs with
  |true=>
   rw [he] at CE
   have HE:=am he
   clear he
   go_wp2_with (go_at_call 447;fail)
   refine CE.out.mono ?_
   rintro e w2 ⟨rfl,hw⟩
   rw [hw]
   clear hw
   go_wp2
   go_ret
   have hr0:removed xss=[]:=by rw [HRM.out,if_pos ⟨H1.out,by rw [HG0.out];exact HE.out⟩]
   rw [hr0]
   exact ⟨none,0,rfl,Nat.le_refl _,HB.out,fun h=>absurd rfl h⟩
  |false=>
   rw [he] at CE
   have HE:=am he
   clear he
   go_wp2_with (go_at_call 447;fail)
   refine CE.out.mono ?_
   rintro e w2 ⟨rfl,hw⟩
   rw [hw]
   clear hw
   go_wp2
   go_ret
   have hr0:removed xss=K:=by
    rw [HRM.out,if_neg]
    rintro ⟨_,h⟩
    rw [HG0.out,HE.out] at h
    cases h
   rw [hr0]
   exact ⟨_,c,by rw [H1.out];rfl,HKN.out,HB.out,fun _=>⟨rfl,HG1.out⟩⟩
 ·have hh:=eq_false h1
  have hr0:removed xss=K:=by rw [HRM.out,if_neg (fun h=>h1 h.1)]
  have HR0:=am hr0
  have hd:((K.length:Int)==1)=false:=beq_eq_false_iff_ne.mpr (by omega)
  clear h1 hKr hr0
  go_wp2
  go_ret
  rw [HR0.out]
  exact ⟨_,c,rfl,HKN.out,HB.out,fun _=>⟨rfl,HG1.out⟩⟩
variable {f:Nat→Nat}
theorem shift_facts (w:World) (g n c:Nat) (cur:Array Value) (hg:w.heap[g]?=some (.cells cur 354 (0,0))) (hn:1≤n) (hle:n≤cur.size) (hc:n≤c) (h1:∀ v∈(cur.toList.tail.take (n - 1)),v.oneCell'=true):
  (loadCellsFrom ⟨g,1,none⟩ 0 (n - 1) #[]).run Tryz.prog w=.ok (cur.toList.tail.take (n - 1)).toArray w∧(storeCells ⟨g,0,none⟩ (cur.toList.tail.take (n - 1))).run Tryz.prog w=.ok () (w.setRow g (cur.toList.tail.take (n - 1)++cur.toList.drop (n - 1)).toArray):=by
 obtain ⟨j,hj,hz⟩:=Option.map_eq_some_iff.1 info354
 simp only [Prod.mk.injEq] at hz
 obtain ⟨z1,z2,z3⟩:=hz
 have hlen:(cur.toList.tail.take (n - 1)).length=n - 1:=by rw [List.length_take,List.length_tail,Array.length_toList];omega
 have hl:=run_loadCells_list (P:=Tryz.prog) w ⟨g,1,none⟩ (cur.toList.tail.take (n - 1)) (fun k v hk=>by
  have hadd:(⟨g,1,none⟩:Addr).add k=⟨g,1+k,none⟩:=by unfold Addr.add;split <;> simp_all
  rw [hadd]
  rw [List.getElem?_take] at hk
  split at hk
  ·rw [List.getElem?_tail] at hk
   simp [World.cell?,hg]
   rw [Nat.add_comm]
   simpa using hk
  ·cases hk)
 rw [hlen] at hl
 have hst:=run_storeCells_at Tryz.prog g 0 354 (cur.toList.tail.take (n - 1)) 0 cur w hg (by rw [hlen];omega) h1
 rw [hlen] at hst
 simp only [Nat.zero_add,List.take_zero,List.nil_append] at hst
 exact ⟨hl,hst⟩
theorem deleteFirst_calls (w:World) (N g n c:Nat) (xss:List TRow) (hn:1≤n∧n≤1000) (hG:Grid f w N g n xss) (hc:n≤c) (hc1:c≠1):
  Calls Tryz.prog 448 #[.slice (some ⟨g,0,none⟩) n c,.int .i64 0,.int .i64 1] w fun e w'=>e=.returned (.slice (some ⟨g,0,none⟩) (n - 1) c)∧Grid f w' N g (n - 1) (xss.drop 1)∧OnlyIn w w' (fun k=>k=g):=by
 have HG:=am hG
 obtain ⟨cur,h1,h2,h3⟩:=hG.at_
 have hp1:=eq_true hn.1
 have hone:∀ v∈(cur.toList.tail.take (n - 1)),v.oneCell'=true:=by
  intro v hv
  obtain ⟨k,hk⟩:=List.mem_iff_getElem?.1 hv
  rw [List.getElem?_take] at hk
  split at hk
  ·rename_i hkn
   rw [List.getElem?_tail] at hk
   obtain ⟨r,h4,h5⟩:=h3 (k+1) (by have:=hG.len;omega)
   rw [Array.getElem?_toList,h4] at hk
   cases hk
   exact (rowK f).K_one ((rowK f).K_of_M h5) _ (List.mem_singleton.2 rfl)
  ·cases hk
 obtain ⟨l1,l2⟩:=shift_facts w g n c cur h1 hn.1 h2 hc hone
 obtain ⟨l3,l4⟩:=shift_facts w.drew g n c cur h1 hn.1 h2 hc hone
 have hadd0:(⟨g,0,none⟩:Addr).add 0=⟨g,0,none⟩:=by unfold Addr.add;split <;> simp_all
 clear hone
 have HC1:=am h1
 have HC2:=am h2
 have HC3:=am h3
 obtain ⟨arr,harr⟩:∃ arr,(cur.toList.tail.take (n - 1)++cur.toList.drop (n - 1)).toArray=arr:=⟨_,rfl⟩
 rw [harr] at l2 l4
 have hasz:arr.size=cur.size:=by
  rw [← harr]
  simp only [List.size_toArray,List.length_append,List.length_take,List.length_tail,List.length_drop,Array.length_toList]
  omega
 have HARR:=am harr
 have HW:Aside0 ((w.drew.setRow g arr).heap[g]?=some (.cells arr 354 (0,0))):=⟨setRow_heap w.drew g cur arr _ (0,0) h1⟩
 obtain ⟨zs,hzl,hcl⟩:=run_clear (w.drew.setRow g arr) g (n - 1) (n - (n - 1)) (c - (n - 1)) arr HW.out (by omega) (by omega)
 have HZL:=am hzl
 have HASZ:=am hasz
 clear hG h1 h2 h3 harr hasz hzl
 go_enter Tryz.func448,Tryz.ntmps448
 have hcf:=eq_false hc1
 have hcl:(1≤c)=True:=eq_true (by omega)
 clear hc1
 have mixed:Tryz.prog.follows .mixedOrders=true:=by kernel_rfl
 go_wp2
 go_region_with_o (fail)
 all_goals
  go_wp2
  go_ret
  refine ⟨rfl,⟨by rw [List.length_drop,HG.out.len],_,setRow_heap _ g _ _ _ (0,0) HW.out,?_,?_⟩,?_⟩
  ·simp only [List.size_toArray,List.length_append,List.length_take,Array.length_toList]
   have:=HASZ.out
   have:=HC2.out
   omega
  ·intro k hk
   have hkn:k < n - 1:=by rw [List.length_drop,HG.out.len] at hk;exact hk
   obtain ⟨r,h4,h5⟩:=HC3.out (k+1) (by rw [HG.out.len];omega)
   refine ⟨r,?_,?_⟩
   ·have e1:arr[k]?=cur[k+1]?:=by
     rw [← HARR.out,List.getElem?_toArray,List.getElem?_append_left (by rw [List.length_take,List.length_tail,Array.length_toList];have:=HC2.out;omega),List.getElem?_take,if_pos hkn,List.getElem?_tail,Array.getElem?_toList]
    have ha:k < arr.size:=by rw [HASZ.out];have:=HC2.out;omega
    rw [List.getElem?_toArray,List.getElem?_append_left (by rw [List.length_take,Array.length_toList];omega),List.getElem?_take,if_pos hkn,Array.getElem?_toList,e1]
    exact h4
   ·have e:(xss.drop 1)[k]=xss[k+1]'(by rw [HG.out.len];omega):=by
     rw [List.getElem_drop]
     congr 1
     omega
    rw [e]
    exact Kd.M_step h5 (fun q hq _=>by rw [setRow_other _ _ _ _ hq,setRow_other _ _ _ _ hq];rfl)
  ·exact ⟨rfl,rfl,rfl,by rw [setRow_size,setRow_size];rfl,fun q hq=>by
    rw [setRow_other _ _ _ _ hq,setRow_other _ _ _ _ hq];rfl⟩
variable {f:Nat→Nat}
theorem deleteOne_calls (w:World) (N g:Nat) (xss:List TRow) (hG:Grid f w N g 1 xss):
  Calls Tryz.prog 448 #[.slice (some ⟨g,0,none⟩) 1 1,.int .i64 0,.int .i64 1] w fun e w'=>(∃ A c,e=.returned (.slice A 0 c))∧OnlyIn w w' (fun k=>k=g):=by
 obtain ⟨cur,h1,h2,h3⟩:=hG.at_
 have h1d:w.drew.heap[g]?=some (.cells cur 354 (0,0)):=h1
 obtain ⟨zs,hzl,hcl⟩:=run_clear w.drew g 0 1 1 cur h1d (by omega) (by omega)
 have hadd0:(⟨g,0,none⟩:Addr).add 0=⟨g,0,none⟩:=by unfold Addr.add;split <;> simp_all
 clear hG h1 h2 h3 h1d hzl
 go_enter Tryz.func448,Tryz.ntmps448
 have mixed:Tryz.prog.follows .mixedOrders=true:=by kernel_rfl
 go_wp2
 go_region_with_o (fail)
 all_goals
  go_wp2
  go_ret
  exact ⟨⟨_,_,rfl⟩,⟨rfl,rfl,rfl,by rw [setRow_size];rfl,fun q hq=>by rw [setRow_other _ _ _ _ hq];rfl⟩⟩
variable {f:Nat→Nat}
def promoted (xss:List TRow):List TRow:=if emptyRow (xss.getD 0 ([],0)).1=true then xss.drop 1 else xss
theorem removeFirst_calls (w:World) (N g n c:Nat) (xss:List TRow) (hn:1≤n∧n≤1000) (hr:∀ xs∈xss,xs.1.length≤1000) (hG:Grid f w N g n xss) (hc:n≤c):
  Calls Tryz.prog 432 #[.slice (some ⟨g,0,none⟩) n c] w fun e w'=>∃ A c',e=.returned (.slice A (promoted xss).length c')∧(promoted xss).length≤c'∧OnlyIn w w' (fun k=>k=g)∧((promoted xss)≠[]→A=some ⟨g,0,none⟩∧Grid f w' N g (promoted xss).length (promoted xss)):=by
 have HG:=am hG
 have HN:=am hn
 have HCC:=am hc
 have h0:0 < xss.length:=by rw [hG.len];omega
 obtain ⟨A,c2,k1,k2,k3,k4,k5⟩:=hG.cell 0 h0
 have CE:=am (isEmptyRow_calls w A c2 xss[0].1 k4 k3 (hr _ (List.getElem_mem h0)))
 have HG0:=am (show (xss.getD 0 ([],0)).1=xss[0].1 by rw [List.getD_eq_getElem?_getD,List.getElem?_eq_getElem h0];rfl)
 obtain ⟨xs,hxs⟩:∃ xs,xss[0].1=xs:=⟨_,rfl⟩
 rw [hxs] at k1 CE HG0
 have hp:=eq_true (show 0 < n by omega)
 have hp2:(n=0)=False:=eq_false (by omega)
 clear hG hn hc k2 k3 k4 k5 hxs hr
 cases he:emptyRow xs with
 |true=>
  rw [he] at CE
  have HP:=am (show promoted xss=xss.drop 1 by unfold promoted;rw [HG0.out,if_pos he])
  clear he h0
  by_cases hc1:c=1
  ·have hn1:n=1:=by have:=HCC.out;have:=HN.out;omega
   subst hc1
   subst hn1
   have CD:=am (deleteOne_calls w N g xss HG.out)
   go_enter Tryz.func432,Tryz.ntmps432
   go_wp2_with (go_at_call 447;fail)
   refine CE.out.mono ?_
   rintro e w2 ⟨rfl,hw⟩
   rw [hw]
   clear hw
   go_wp2_with (go_at_call 448;fail)
   refine CD.out.mono ?_
   rintro e w2 ⟨⟨A2,c3,rfl⟩,hO⟩
   have HO:=am hO
   clear hO
   go_wp2
   go_ret
   have hd:xss.drop 1=[]:=List.drop_eq_nil_of_le (by rw [HG.out.len];omega)
   rw [HP.out,hd]
   exact ⟨A2,c3,rfl,Nat.zero_le _,HO.out,fun h=>absurd rfl h⟩
  ·have CD:=am (deleteFirst_calls w N g n c xss HN.out HG.out HCC.out hc1)
   clear hc1
   go_enter Tryz.func432,Tryz.ntmps432
   go_wp2_with (go_at_call 447;fail)
   refine CE.out.mono ?_
   rintro e w2 ⟨rfl,hw⟩
   rw [hw]
   clear hw
   go_wp2_with (go_at_call 448;fail)
   refine CD.out.mono ?_
   rintro e w2 ⟨rfl,hg2,hO⟩
   have HO:=am hO
   have HG2:=am hg2
   clear hO hg2
   go_wp2
   go_ret
   have hd:(xss.drop 1).length=n - 1:=by rw [List.length_drop,HG.out.len]
   rw [HP.out,hd]
   exact ⟨_,c,rfl,by have:=HCC.out;omega,HO.out,fun _=>⟨rfl,HG2.out⟩⟩
 |false=>
  rw [he] at CE
  have HP:=am (show promoted xss=xss by unfold promoted;rw [HG0.out,he];rfl)
  clear he h0
  go_enter Tryz.func432,Tryz.ntmps432
  go_wp2_with (go_at_call 447;fail)
  refine CE.out.mono ?_
  rintro e w2 ⟨rfl,hw⟩
  rw [hw]
  clear hw
  go_wp2
  go_ret
  rw [HP.out,HG.out.len]
  exact ⟨_,c,rfl,HCC.out,OnlyIn.refl _ _,fun _=>⟨rfl,HG.out⟩⟩
end Go.Proofs.YtbheflncgmhadaaGreat.Hand
namespace Go.Proofs.YtbheflncgmhadaaGreat.Hand
open Go.RowKit Go.Proofs.YtbheflncgmhadaaGreatW.PrintWords Go.Proofs.YtbheflncgmhadaaGreatW.PrintLast Go.Proofs.YtbheflncgmhadaaGreatW.PrintMore
variable {f:Nat→Nat}
theorem grid_of_R {w:World} {N:Nat} {ok:Nat→Prop} {v:Value} {xss:List TRow} (h:Kd.R (rowK f) 354 w N ok v xss) (hne:xss≠[]):∃ g c,v=.slice (some ⟨g,0,none⟩) xss.length c∧xss.length≤c∧N≤g∧Grid f w N g xss.length xss:=by
 obtain ⟨_,inner,hown,hr⟩:=h
 obtain ⟨h1,h2⟩:=hown
 rcases h2 with ⟨rfl,h0⟩|⟨g,cap,cur,rfl,hg,hh,hlc,hcm,hcs,htk⟩
 ·exact absurd (List.eq_nil_of_length_eq_zero h0) hne
 ·refine ⟨g,cap,rfl,hlc,hg,rfl,cur,hh,by rw [hcs];show _≤cap * 1;omega,fun j hj=>?_⟩
  have hm:=hr.2 j xss[j] (List.getElem?_eq_getElem hj)
  have hj2:j < inner.length:=by rw [h1];show j < xss.length * 1;omega
  have e1:(inner.drop (j * 1)).take 1=[inner[j]]:=by
   rw [Nat.mul_one,List.drop_eq_getElem_cons hj2]
   rfl
  have hm':(rowK f).M w N (fun k=>ok k∧some k≠(Value.slice (some ⟨g,0,none⟩) xss.length cap).ownBlock) xss[j] ((inner.drop (j * 1)).take 1):=hm
  rw [e1] at hm'
  refine ⟨inner[j],?_,(rowK f).M_mono (fun k hk e=>hk.2 (by rw [e];rfl)) hm'⟩
  have e2:(cur.toList.take (xss.length * 1))[j]?=some inner[j]:=by
   have htk':cur.toList.take (xss.length * 1)=inner:=htk
   rw [htk']
   exact List.getElem?_eq_getElem hj2
  rw [List.getElem?_take] at e2
  split at e2
  ·rw [Array.getElem?_toList] at e2
   exact e2
  ·cases e2
end Go.Proofs.YtbheflncgmhadaaGreat.Hand
namespace Go.Proofs.YtbheflncgmhadaaGreat.Hand
open Go.RowKit Go.Proofs.YtbheflncgmhadaaGreatW.PrintWords Go.Proofs.YtbheflncgmhadaaGreatW.PrintLast Go.Proofs.YtbheflncgmhadaaGreatW.PrintMore
attribute [local go_sem] run_store_func'
structure RowOk (N X C cm tp bs:Nat) (tab:Nat→Int) (po:PO) (w:World) (r:DT×List (DT×List UInt8)):Prop where
 look:∃ i kids par prev next,r.1=.node r.1.blk i kids∧Looked w anyN r.1.blk i kids par prev next∧DT.selL qCell kids=r.2.map fun p=>p.1.blk
 ok:∀ p∈r.2,CellOk N X C cm tp bs tab po w p
theorem RowOk.keep {N X C cm tp bs:Nat} {tab:Nat→Int} {po:PO} {w w1:World} {r:DT×List (DT×List UInt8)} (h:RowOk N X C cm tp bs tab po w r) (hb:Below w.heap.size w w1):RowOk N X C cm tp bs tab po w1 r:=by
 obtain ⟨i,kids,par,prev,next,h1,h2,h3⟩:=h.look
 exact ⟨⟨i,kids,par,prev,next,h1,h2.keep hb,h3⟩,fun p hp=>(h.ok p hp).keep hb⟩
theorem RowOk.calls {N X C cm tp bs:Nat} {tab:Nat→Int} {po:PO} {w:World} (hx:Cx N w X C cm tp bs tab po) {r:DT×List (DT×List UInt8)} (h:RowOk N X C cm tp bs tab po w r) (ri:Int):
  Calls Tryz.prog 429 #[.pointer (some ⟨tp,0,none⟩),.iface 187 (.pointer (some ⟨X,0,none⟩)),.int .i64 ri,.pointer (some ⟨r.1.blk,0,none⟩)] w fun e w'=>∃ v A c,e=.returned (.tuple #[v,.slice A 0 c])∧Kd.R bytesK 62 w' w.heap.size (fun _=>True) v (cellsOut tab r.2)∧Below w.heap.size w w':=by
 obtain ⟨i,kids,par,prev,next,_,h2,h3⟩:=h.look
 exact cellsInRow_calls hx h2 r.2 h3 h.ok ri
theorem R_apart {α β:Type} {d1:Kd α} {d2:Kd β} {e1 e2:Nat} {w:World} {b1 b2:Nat} {ok1 ok2:Nat→Prop} {v1 v2:Value} {xs:List α} {ys:List β} (h1:d1.R e1 w b1 ok1 v1 xs) (h2:d2.R e2 w b2 ok2 v2 ys) (ht:∀ q,q∈e1::d1.E→q≠e2):d1.R e1 w b1 (fun k=>ok1 k∧some k≠v2.ownBlock) v1 xs:=by
 refine Kd.R_mono (Kd.R_bound h1) (fun k hk=>⟨hk.1,fun e=>?_⟩)
 obtain ⟨_,_,_,q,hq,cells,hc⟩:=hk
 obtain ⟨inner,ho⟩:=Kd.R_own h2
 obtain ⟨c2,hc2⟩:=own_typed ho k e.symm
 rw [hc] at hc2
 injection hc2 with hc2
 injection hc2 with _ hc2 _
 exact ht q hq hc2
abbrev modK:Kd (Option Addr×Nat):=Kd.scalar (fun p=>.slice p.1 0 p.2) (fun _=>rfl)
theorem info263:(Tryz.prog.info? 354).map (fun i=>(i.zero,i.size,i.bytes))=some (some (.slice none 0 0),1,24):=by kernel_rfl
theorem infoMods:(Tryz.prog.info? 445).map (fun i=>(i.zero,i.size,i.bytes))=some (some (.slice none 0 0),1,24):=by kernel_rfl
theorem row_M {w:World} {base B:Nat} {v:Value} {xs:List (List Int)} (h:Kd.R bytesK 62 w B (fun _=>True) v xs) (hB:base≤B):rowK0.M w base (fun k=>B≤k∧k < w.heap.size) xs [v]:=by
 refine ⟨v,rfl,Kd.R_mono (Kd.R_lower (Kd.R_bound h) hB) (fun k hk=>⟨hk.2.1,hk.2.2.1⟩)⟩
theorem empties_of_R {w:World} {N:Nat} {ok:Nat→Prop} {v:Value} {ys:List (Option Addr×Nat)} (h:Kd.R modK 445 w N ok v ys) (hne:ys≠[]):∃ g c,v=.slice (some ⟨g,0,none⟩) ys.length c∧N≤g∧Empties w g ys.length:=by
 obtain ⟨_,inner,hown,hr⟩:=h
 have e:inner=ys.map fun p=>.slice p.1 0 p.2:=reps_scalar (enc:=fun p:Option Addr×Nat=>Value.slice p.1 0 p.2) hr
 subst e
 obtain ⟨h1,h2⟩:=hown
 rcases h2 with ⟨rfl,h0⟩|⟨g,cap,cur,rfl,hg,hh,hlc,hcm,hcs,htk⟩
 ·exact absurd (List.eq_nil_of_length_eq_zero h0) hne
 ·refine ⟨g,cap,rfl,hg,cur,hh,by rw [hcs];show _≤cap * 1;omega,fun j hj=>?_⟩
  have h3:(cur.toList.take (ys.length * 1))[j]?=some (.slice ys[j].1 0 ys[j].2):=by
   have:cur.toList.take (ys.length * 1)=ys.map fun p=>.slice p.1 0 p.2:=htk
   rw [this,List.getElem?_map,List.getElem?_eq_getElem hj];rfl
  rw [List.getElem?_take] at h3
  split at h3
  ·rw [Array.getElem?_toList] at h3
   exact ⟨_,_,h3⟩
  ·cases h3
def rowsOut (po:PO) (xss:List TRow):List TRow:=if po.promote then promoted (if po.skip then removed xss else xss) else (if po.skip then removed xss else xss)
theorem promoted_nil:promoted []=[]:=by decide
theorem removeFirst_nil (w:World) (A:Option Addr) (c:Nat):
  Calls Tryz.prog 432 #[.slice A 0 c] w fun e w'=>e=.returned (.slice A 0 c)∧w'=w:=by
 go_enter Tryz.func432,Tryz.ntmps432
 go_wp2
 go_ret
 exact ⟨rfl,rfl⟩
theorem R_other {α β:Type} {d1:Kd α} {d2:Kd β} {e1 e2:Nat} {w w1:World} {b1 b2:Nat} {ok1 ok2:Nat→Prop} {v1 v2:Value} {xs:List α} {ys:List β} (h1:d1.R e1 w b1 ok1 v1 xs) (h2:d2.R e2 w b2 ok2 v2 ys) (ht:∀ q,q∈e1::d1.E→q≠e2) (hg:w.grownBy w1 v2.ownBlock):d1.R e1 w1 b1 ok1 v1 xs:=
 Kd.R_mono (Kd.R_grown (R_apart h1 h2 ht) hg (fun k hk=>hk.2)) (fun k hk=>hk.1)
theorem S_apart {α β:Type} {d1:Kd α} {d2:Kd β} {e1 e2:Nat} {w:World} {b1 b2:Nat} {ok1 ok2:Nat→Prop} {v1 v2:Value} {xs:List α} {ys:List β} (h1:Kd.S d1 e1 w b1 ok1 v1 xs) (h2:d2.R e2 w b2 ok2 v2 ys) (ht:∀ q,q∈e1::d1.E→q≠e2):Kd.S d1 e1 w b1 (fun k=>ok1 k∧some k≠v2.ownBlock) v1 xs:=by
 obtain ⟨inner,ho⟩:=Kd.R_own h2
 exact Kd.S_apart' h1 (fun k hk=>own_typed ho k hk) ht
theorem S_other {α β:Type} {d1:Kd α} {d2:Kd β} {e1 e2:Nat} {w w1:World} {b1 b2:Nat} {ok1 ok2:Nat→Prop} {v1 v2:Value} {xs:List α} {ys:List β} (h1:Kd.S d1 e1 w b1 ok1 v1 xs) (h2:d2.R e2 w b2 ok2 v2 ys) (ht:∀ q,q∈e1::d1.E→q≠e2) (hg:w.grownBy w1 v2.ownBlock):Kd.S d1 e1 w1 b1 ok1 v1 xs:=
 Kd.S_mono (Kd.S_grown (S_apart h1 h2 ht) hg (fun k hk=>hk.2)) (fun k hk=>hk.1)
theorem S_only {α β:Type} {d1:Kd α} {d2:Kd β} {e1 e2:Nat} {w w1:World} {b1 b2:Nat} {ok1 ok2:Nat→Prop} {g l c:Nat} {v1:Value} {xs:List α} {ys:List β} (h1:Kd.S d1 e1 w b1 ok1 v1 xs) (h2:d2.R e2 w b2 ok2 (.slice (some ⟨g,0,none⟩) l c) ys) (ht:∀ q,q∈e1::d1.E→q≠e2) (hg:OnlyIn w w1 (fun k=>k=g)):Kd.S d1 e1 w1 b1 ok1 v1 xs:=
 Kd.S_mono (Kd.S_step (S_apart h1 h2 ht) (fun k hk _=>hg.block k (fun e=>hk.2 (by rw [e];rfl)))) (fun k hk=>hk.1)
theorem S_ready {α:Type} {d:Kd α} {e:Nat} {w w1:World} {base:Nat} {v:Value} {xs:List α} (h:Kd.S d e w base (fun _=>True) v xs) (hb:Below w.heap.size w w1):Kd.S d e w1 base (fun k=>True∧¬ (w.heap.size≤k∧k < w1.heap.size)) v xs:=
 Kd.S_mono (Kd.S_old h hb) (fun k hk=>⟨trivial,by omega⟩)
theorem R_some' {α:Type} {d:Kd α} {e:Nat} {w:World} {base:Nat} {ok:Nat→Prop} {v:Value} {xs:List α} (h:Kd.R d e w base ok v xs) (hne:xs≠[]):∃ g c,v=.slice (some ⟨g,0,none⟩) xs.length c∧xs.length≤c∧base≤g:=by
 obtain ⟨_,inner,h1,h2⟩:=h
 rcases h1.2 with ⟨rfl,h0⟩|⟨g,cap,cur,rfl,hg,hh,hlc,_⟩
 ·exact absurd (List.eq_nil_of_length_eq_zero h0) hne
 ·exact ⟨g,cap,rfl,hlc,hg⟩
theorem removed_len (xss:List TRow):(removed xss).length≤xss.length:=by
 unfold removed
 split
 ·exact Nat.zero_le _
 ·exact keepL_len _ _
theorem removed_bound (xss:List TRow) (n:Nat) (h:∀ xs∈xss,xs.1.length≤n):∀ xs∈removed xss,xs.1.length≤n:=by
 intro xs hx
 unfold removed at hx
 split at hx
 ·cases hx
 ·unfold keepL at hx
  obtain ⟨k,hk,rfl⟩:=List.mem_map.1 hx
  rw [List.getD_eq_getElem?_getD]
  cases h':xss[k]? with
  |none=>simp
  |some y=>exact h y (List.mem_of_getElem? h')
theorem removed_sub (xss:List TRow):∀ xs∈removed xss,xs=([],0)∨xs∈xss:=by
 intro xs hx
 unfold removed at hx
 split at hx
 ·cases hx
 ·unfold keepL at hx
  obtain ⟨k,hk,rfl⟩:=List.mem_map.1 hx
  rw [List.getD_eq_getElem?_getD]
  cases h':xss[k]? with
  |none=>exact .inl rfl
  |some y=>exact .inr (List.mem_of_getElem? h')
theorem promoted_sub (xss:List TRow):∀ xs∈promoted xss,xs∈xss:=by
 intro xs hx
 unfold promoted at hx
 split at hx
 ·exact List.mem_of_mem_drop hx
 ·exact hx
theorem promoted_len (xss:List TRow):(promoted xss).length≤xss.length:=by
 unfold promoted
 split
 ·rw [List.length_drop];omega
 ·exact Nat.le_refl _
theorem rowsOut_len (po:PO) (xss:List TRow):(rowsOut po xss).length≤xss.length:=by
 have h1:=removed_len xss
 have h2:=promoted_len xss
 have h3:=promoted_len (removed xss)
 unfold rowsOut
 cases po.promote <;> cases po.skip <;> simp <;> omega
theorem rowsOut_sub (po:PO) (xss:List TRow):∀ xs∈rowsOut po xss,xs=([],0)∨xs∈xss:=by
 intro xs hx
 unfold rowsOut at hx
 have h1:∀ ys:List TRow,xs∈(if po.promote then promoted ys else ys)→xs∈ys:=by
  intro ys h
  cases hp:po.promote <;> rw [hp] at h
  ·exact h
  ·exact promoted_sub ys xs h
 have hx':xs∈(if po.promote then promoted (if po.skip then removed xss else xss) else (if po.skip then removed xss else xss)):=hx
 have h2:=h1 _ hx'
 cases hs:po.skip <;> rw [hs] at h2
 ·exact .inr h2
 ·exact removed_sub xss xs h2
theorem Grid.lower {f:Nat→Nat} {w:World} {N N' g n:Nat} {xss:List TRow} (h:Grid f w N g n xss) (hN:N'≤N):Grid f w N' g n xss:=by
 obtain ⟨cur,h1,h2,h3⟩:=h.at_
 refine ⟨h.len,cur,h1,h2,fun j hj=>?_⟩
 obtain ⟨r,h4,h5⟩:=h3 j hj
 exact ⟨r,h4,(rowK f).M_lower hN h5⟩
def rowsIn0 (tab:Nat→Int) (l:List (DT×List (DT×List UInt8))):List (List (List Int)):=l.map fun r=>cellsOut tab r.2
def rowsIn (tab:Nat→Int) (l:List (DT×List (DT×List UInt8))):List TRow:=(rowsIn0 tab l).zipIdx
theorem OnlyIn.under {w w':World} {g N:Nat} (h:OnlyIn w w' (fun k=>k=g)) (hg:N≤g):Below N w w':=⟨h.os,h.tape,h.output,Nat.le_of_eq h.size.symm,fun k hk=>h.block k (fun e=>by omega)⟩
theorem collectRows_calls {N X C cm tp bs:Nat} {tab:Nat→Int} {po:PO} {w:World} (hx:Cx N w X C cm tp bs tab po) (hd:DT×List (DT×List UInt8)) (rows:List (DT×List (DT×List UInt8))) (hh:RowOk N X C cm tp bs tab po w hd) (hr:∀ r∈rows,RowOk N X C cm tp bs tab po w r) (hl:rows.length≤900) (hcl:∀ xs∈rowsIn tab (hd::rows),xs.1.length≤1000) (A:Option Addr) (c:Nat) (hA:∀ j (hj:j < rows.length),∃ g,A=some ⟨g,0,none⟩∧w.cell? ⟨g,j,none⟩=some (.pointer (some ⟨rows[j].1.blk,0,none⟩))):
  Calls Tryz.prog 415 #[.pointer (some ⟨tp,0,none⟩),.iface 187 (.pointer (some ⟨X,0,none⟩)),.pointer (some ⟨hd.1.blk,0,none⟩),.slice A rows.length c] w fun e w'=>∃ A' c',e=.returned (.slice A' (rowsOut po (rowsIn tab (hd::rows))).length c')∧(rowsOut po (rowsIn tab (hd::rows))).length≤c'∧Below w.heap.size w w'∧(rowsOut po (rowsIn tab (hd::rows))≠[]→∃ f g,A'=some ⟨g,0,none⟩∧w.heap.size≤g∧Grid f w' w.heap.size g (rowsOut po (rowsIn tab (hd::rows))).length (rowsOut po (rowsIn tab (hd::rows)))):=by
 have HX:=am hx
 have HR:=am hr
 have HL:=am hl
 have HCL:=am hcl
 have HA:=am hA
 have hw0:wrap64 ((rows.length:Int)+1)=(rows.length:Int)+1:=by unfold wrap64;omega
 obtain ⟨i0,hi0,hz0,hsz0,hby0⟩:=info_parts info263
 obtain ⟨W1,hmk1,hown1,hg1⟩:=run_make_own (P:=Tryz.prog) w w.heap.size 431 354 i0 _ 1 Tryz.underlying431 hi0 hz0 hsz0 .i64 .i64 (rows.length+1) (by rw [hby0];omega) (by unfold maxLen;omega) (Nat.le_refl _)
 have hmk1:(Instr.makeSlice 431 (.int .i64 0) (.int .i64 ((rows.length:Int)+1))).run Tryz.prog w=.ok (.slice (some ⟨w.heap.size,0,none⟩) 0 (rows.length+1)) W1:=hmk1
 obtain ⟨i1,hi1,hz1,hsz1,hby1⟩:=info_parts infoMods
 have hb1:Below w.heap.size w W1:=(Below.refl w.heap.size w).grown hg1 (Nat.le_refl _) (fun k hk=>by cases hk)
 obtain ⟨W2,hmk2,hown2,hg2⟩:=run_make_own (P:=Tryz.prog) W1 w.heap.size 444 445 i1 _ 1 Tryz.underlying444 hi1 hz1 hsz1 .i64 .i64 0 (by rw [hby1];omega) (by unfold maxLen;omega) hb1.size
 have hmk2:(Instr.makeSlice 444 (.int .i64 0) (.int .i64 0)).run Tryz.prog W1=.ok (.slice (some ⟨W1.heap.size,0,none⟩) 0 0) W2:=hmk2
 have hb2:Below W1.heap.size W1 W2:=(Below.refl W1.heap.size W1).grown hg2 (Nat.le_refl _) (fun k hk=>by cases hk)
 have HB2:=am (hb1.trans (hb2.mono hb1.size))
 have HRR:=am (show Kd.S rowK0 354 W2 w.heap.size (fun _=>True) (.slice (some ⟨w.heap.size,0,none⟩) 0 (rows.length+1)) [] from Kd.S_below ⟨fun _=>0,fun _ _=>trivial,[],hown1,Reps.none _ _⟩ hb2)
 have HMM:=am (show Kd.R modK 445 W2 w.heap.size (fun _=>True) (.slice (some ⟨W1.heap.size,0,none⟩) 0 0) [] from ⟨fun _ _=>trivial,[],hown2,Reps.none _ _⟩)
 have HC1:=am ((hh.keep HB2.out).calls (hx.keep (HB2.out.mono hx.le)) 0)
 clear hx hh hr hcl hA hi0 hz0 hsz0 hby0 hi1 hz1 hsz1 hby1 hb1 hb2 hown1 hown2 hg1 hg2
 go_enter Tryz.func415,Tryz.ntmps415
 go_wp2_with (go_at_call 429;fail)
 clear hmk1 hmk2
 refine HC1.out.mono ?_
 rintro e w3 ⟨v3,A3,c3,rfl,hr3,hb3⟩
 obtain ⟨Av,cv,rfl⟩:=Kd.R_slice hr3
 have HB3:=am (HB2.out.trans (hb3.mono HB2.out.size))
 have HM3:=am (row_M hr3 HB2.out.size)
 have HRR3:=am (S_ready HRR.out hb3)
 have HMM3:=am (Kd.R_below HMM.out hb3)
 have HLT:=am (Kd.S_lt HRR.out)
 have HOK3:=am (show ∀ k,(W2.heap.size≤k∧k < w3.heap.size)→True∧some k≠(Value.slice (some ⟨w.heap.size,0,none⟩) 0 (rows.length+1)).ownBlock from fun k hk=>⟨trivial,fun e=>by
  have:=HLT.out k e.symm
  omega⟩)
 have HNW3:=am (below_size HB3.out)
 clear hr3 hb3 HC1 HRR HMM
 go_wp2_with (first|(at_builtin;refine Kd.S_append rowK0 (w0:=w) w.heap.size rfl (.tmp _) (.tmp _) 431 354 (.slice none 0 0) 24 rfl Tryz.underlying431 info263 rfl (by decide) (by omega) (.slice (some ⟨w.heap.size,0,none⟩) 0 (rows.length+1)) [] (cellsOut tab hd.2) [.slice Av (cellsOut tab hd.2).length cv] (fun _=>True) (fun k=>W2.heap.size≤k∧k < w3.heap.size) rfl rfl HM3.out HOK3.out (fun _ _=>trivial) HRR3.out HB3.out HNW3.out (by simp) ?_;intro v4 w4 ho1 hb1 hg1 hat1;have HRR4:=am ho1;have HB4:=am hb1;have HMM4:=am (R_other HMM3.out (Kd.S_R HRR3.out) (by decide) hg1);clear ho1 hb1 hg1 hat1)|(at_builtin;refine Kd.R_append modK (w0:=w) w.heap.size rfl (.tmp _) (.tmp _) 444 445 (.slice none 0 0) 24 rfl Tryz.underlying444 infoMods rfl (by decide) (by omega) (.slice (some ⟨W1.heap.size,0,none⟩) 0 0) [] (A3,c3) [.slice A3 0 c3] (fun _=>True) (fun _=>False) rfl rfl rfl (fun _ hk=>hk.elim) (fun _ _=>trivial) HMM4.out HB4.out (below_size HB4.out) (by simp) ?_;intro v5 w5 ho1 hb1 hg1 hat1;have HMM5:=am ho1;have HB5:=am hb1;have HRR5:=am (S_other HRR4.out HMM4.out (by decide) hg1);clear ho1 hb1 hg1 hat1)|fail)
 clear HM3 HOK3 HLT HRR3 HMM3 HRR4 HMM4
 go_loopg [9,10,45] rows.length (fun gf v9 v10 vi wx=>∃ (j:Nat) (ms:List (Option Addr×Nat)),vi=.int .i64 (j:Int)∧Aside0 (j≤rows.length∧rows.length - j=gf∧ms.length=j+1)∧Aside0 (Kd.S rowK0 354 wx w.heap.size (fun _=>True) v9 (rowsIn0 tab (hd::rows.take j)))∧Aside0 (Kd.R modK 445 wx w.heap.size (fun _=>True) v10 ms)∧Aside0 (Below w.heap.size w wx))
 case atStart=>exact ⟨0,[(A3,c3)],rfl,⟨by omega,by omega,rfl⟩,HRR5,HMM5,HB5⟩
 case round=>
  obtain ⟨j,ms,rfl,HP,HS,HM,HBr⟩:=hrel
  by_cases hj:j < rows.length
  ·obtain ⟨g,hAg,hcell⟩:=HA.out j hj
   subst hAg
   have g0:wr.cell? ⟨g,j,none⟩=some (.pointer (some ⟨rows[j].1.blk,0,none⟩)):=cell_keep HBr.out hcell
   have hlt:decide ((j:Int) < (rows.length:Int))=true:=decide_eq_true (by omega)
   have hpp:=eq_true hj
   have hw1:wrap64 ((j:Int)+1)=((j+1:Nat):Int):=by unfold wrap64;omega
   have htk:rowsIn0 tab (hd::rows.take (j+1))=rowsIn0 tab (hd::rows.take j)++[cellsOut tab rows[j].2]:=by
    unfold rowsIn0
    rw [List.take_succ_eq_append_getElem hj,← List.cons_append,List.map_append];rfl
   have HC:=am (fun ri=>((HR.out rows[j] (List.getElem_mem hj)).keep HBr.out).calls (HX.out.keep (HBr.out.mono HX.out.le)) ri)
   have hll:(rowsIn0 tab (hd::rows.take j)).length=j+1:=by unfold rowsIn0;rw [List.length_map,List.length_cons,List.length_take];omega
   obtain ⟨L,hL⟩:∃ L,rowsIn0 tab (hd::rows.take j)=L:=⟨_,rfl⟩
   obtain ⟨p,hp⟩:∃ p,rows[j]=p:=⟨_,rfl⟩
   rw [hL] at HS htk hll
   rw [hp] at g0 htk HC
   have HTK:=am htk
   have HLL:=am hll
   have HJ:=am hj
   have HLT:=am (Kd.S_lt HS.out)
   clear hj hcell htk hL hp hll
   go_wp2_with (go_at_call 429;fail)
   refine (HC.out _).mono ?_
   rintro e w3 ⟨v3,A3,c3,rfl,hr3,hb3⟩
   obtain ⟨Av,cv,rfl⟩:=Kd.R_slice hr3
   have HB3:=am (HBr.out.trans (hb3.mono HBr.out.size))
   have HM3:=am (row_M hr3 HBr.out.size)
   have HS3:=am (S_ready HS.out hb3)
   have HMM3:=am (Kd.R_below HM.out hb3)
   have HOK3:=am (show ∀ k,(wr.heap.size≤k∧k < w3.heap.size)→True∧some k≠u9.ownBlock from fun k hk=>⟨trivial,fun e=>by
    have:=HLT.out k e.symm
    omega⟩)
   have HNW3:=am (below_size HB3.out)
   clear hr3 hb3 HC g0
   go_wp2_with (first|(at_builtin;refine Kd.S_append rowK0 (w0:=w) w.heap.size rfl (.tmp _) (.tmp _) 431 354 (.slice none 0 0) 24 rfl Tryz.underlying431 info263 rfl (by decide) (by omega) u9 L (cellsOut tab p.2) [.slice Av (cellsOut tab p.2).length cv] (fun _=>True) (fun k=>wr.heap.size≤k∧k < w3.heap.size) rfl rfl HM3.out HOK3.out (fun _ _=>trivial) HS3.out HB3.out HNW3.out (by have:=HLL.out;have:=HJ.out;omega) ?_;intro v4 w4 ho1 hb1 hg1 hat1;have HS4:=am ho1;have HB4:=am hb1;have HMM4:=am (R_other HMM3.out (Kd.S_R HS3.out) (by decide) hg1);clear ho1 hb1 hg1 hat1)|(at_builtin;refine Kd.R_append modK (w0:=w) w.heap.size rfl (.tmp _) (.tmp _) 444 445 (.slice none 0 0) 24 rfl Tryz.underlying444 infoMods rfl (by decide) (by omega) u10 ms (A3,c3) [.slice A3 0 c3] (fun _=>True) (fun _=>False) rfl rfl rfl (fun _ hk=>hk.elim) (fun _ _=>trivial) HMM4.out HB4.out (below_size HB4.out) (by have:=HP.out.2.2;have:=HJ.out;omega) ?_;intro v5 w5 ho1 hb1 hg1 hat1;have HM5:=am ho1;have HB5':=am hb1;have HS5:=am (S_other HS4.out HMM4.out (by decide) hg1);clear ho1 hb1 hg1 hat1)|fail)
   go_roundg (rows.length - (j+1))
   case measure=>have:=HP.out;have:=HJ.out;omega
   case rel=>
    refine ⟨j+1,ms++[(A3,c3)],by rw [hw1],⟨by have:=HJ.out;omega,rfl,by rw [List.length_append,List.length_singleton];have:=HP.out;omega⟩,⟨?_⟩,HM5,HB5'⟩
    rw [HTK.out]
    exact HS5.out
  ·have hlt:decide ((j:Int) < (rows.length:Int))=false:=decide_eq_false (by omega)
   have hpp:=eq_false hj
   have ej:j=rows.length:=by have:=HP.out;omega
   have hall:rowsIn0 tab (hd::rows.take j)=rowsIn0 tab (hd::rows):=by rw [ej,List.take_length]
   rw [hall] at HS
   have hne:rowsIn0 tab (hd::rows)≠[]:=by unfold rowsIn0;simp
   obtain ⟨g1,c1,hv9,hl1,hg1⟩:=R_some' (Kd.S_R HS.out) hne
   subst hv9
   obtain ⟨g2,c2,hv10,hg2,he2⟩:=empties_of_R HM.out (fun h=>by have:=HP.out.2.2;rw [h] at this;simp at this)
   subst hv10
   have hms:1≤ms.length∧ms.length≤1000:=by have:=HP.out.2.2;omega
   have CG:=am (applyGrouped_calls wr (some ⟨g1,0,none⟩) (rowsIn0 tab (hd::rows)).length c1 g2 ms.length c2 hms he2)
   have HNE:=am hne
   have HG2:=am hg2
   have HL1:=am hl1
   have HLEN:=am (show (rowsIn tab (hd::rows)).length=(rowsIn0 tab (hd::rows)).length∧(rowsIn0 tab (hd::rows)).length=rows.length+1 by unfold rowsIn rowsIn0;simp)
   clear hj ej hall hne hl1 hg1 hg2 he2 hms
   go_wp2_with (go_at_call 430;fail)
   refine CG.out.mono ?_
   rintro e w4 ⟨rfl,hO⟩
   have HS4:=am (S_only HS.out HM.out (by decide) hO)
   have HB4:=am (HBr.out.trans (hO.under HG2.out))
   have HX4:=am (HX.out.keep (HB4.out.mono HX.out.le))
   clear hO CG
   obtain ⟨f,hR4⟩:=HS4.out
   have hR5:Kd.R (rowK f) 354 w4 w.heap.size (fun _=>True) (.slice (some ⟨g1,0,none⟩) (rowsIn0 tab (hd::rows)).length c1) (rowsIn tab (hd::rows)):=hR4
   obtain ⟨g',c',e1,hlc',hNg,hG⟩:=grid_of_R hR5 (fun h=>by have:=HLEN.out;rw [h,List.length_nil] at this;omega)
   injection e1 with e1 e2 e3
   injection e1 with e1
   injection e1 with e1 _ _
   subst e1 e3
   have HG:=am hG
   have HNG:=am hNg
   have hl0:=HLEN.out
   obtain ⟨L0,hL0⟩:∃ L0,rowsIn0 tab (hd::rows)=L0:=⟨_,rfl⟩
   obtain ⟨L,hL⟩:∃ L,rowsIn tab (hd::rows)=L:=⟨_,rfl⟩
   rw [hL] at HG hlc' HCL hl0
   rw [hL0] at hl0
   rw [hL0]
   have HLe:=am hL
   have hn0:L.length=L0.length:=hl0.1
   have HLC:=am hlc'
   have HN0:=am hl0
   have pskip:=HX4.out.now.plug.skip
   have ppro:=HX4.out.now.plug.promote
   rw [← hn0]
   clear hR4 hR5 hG hNg hlc' hL hL0 hl0 hn0 HS HS4 HM HNE HLEN hlt hpp
   cases hsk:po.skip with
   |false=>
    rw [hsk] at pskip
    have HSK:=am hsk
    clear hsk
    cases hpr:po.promote with
    |false=>
     rw [hpr] at ppro
     have HPR:=am hpr
     clear hpr
     go_wp2
     go_ret
     have hro:rowsOut po L=L:=by unfold rowsOut;rw [HSK.out,HPR.out];rfl
     rw [HLe.out,hro]
     exact ⟨_,c1,rfl,HLC.out,HB4.out,fun _=>⟨f,g1,rfl,HNG.out,HG.out⟩⟩
    |true=>
     rw [hpr] at ppro
     have HPR:=am hpr
     have CF:=am (removeFirst_calls w4 w.heap.size g1 L.length c1 L (by have:=HN0.out;omega) HCL.out HG.out HLC.out)
     clear hpr
     go_wp2_with (go_at_call 432;fail)
     refine CF.out.mono ?_
     rintro e w5 ⟨A2,c2,rfl,h1,h2,h3⟩
     have H1:=am h1
     have H2:=am h2
     have H3:=am h3
     clear h1 h2 h3 CF
     go_wp2
     go_ret
     have hro:rowsOut po L=promoted L:=by unfold rowsOut;rw [HSK.out,HPR.out];rfl
     rw [HLe.out,hro]
     exact ⟨_,c2,rfl,H1.out,HB4.out.trans (H2.out.under HNG.out),fun hne=>⟨f,g1,(H3.out hne).1,HNG.out,(H3.out hne).2⟩⟩
   |true=>
    rw [hsk] at pskip
    have HSK:=am hsk
    have CE:=am (removeEmpty_calls w4 w.heap.size g1 L.length c1 L (by have:=HN0.out;omega) HCL.out HG.out HLC.out)
    clear hsk pskip ppro
    have pskip:=HX4.out.now.plug.skip
    rw [HSK.out] at pskip
    go_wp2_with (go_at_call 431;fail)
    refine CE.out.mono ?_
    rintro e w5 ⟨A2,c2,rfl,h1,h2,h3⟩
    have HB5':=am (HB4.out.trans (h2.below HNG.out HB4.out.size))
    have H1:=am h1
    have H3:=am h3
    have HX5:=am (HX.out.keep (HB5'.out.mono HX.out.le))
    have ppro:=HX5.out.now.plug.promote
    clear h1 h2 h3 CE pskip
    cases hpr:po.promote with
    |false=>
     rw [hpr] at ppro
     have HPR:=am hpr
     clear hpr
     go_wp2
     go_ret
     have hro:rowsOut po L=removed L:=by unfold rowsOut;rw [HSK.out,HPR.out];rfl
     rw [HLe.out,hro]
     exact ⟨_,c2,rfl,H1.out,HB5'.out,fun hne=>⟨f,g1,(H3.out hne).1,HNG.out,(H3.out hne).2⟩⟩
    |true=>
     rw [hpr] at ppro
     have HPR:=am hpr
     have hro:rowsOut po L=promoted (removed L):=by unfold rowsOut;rw [HSK.out,HPR.out];rfl
     have HRO:=am hro
     clear hpr hro
     by_cases h0:removed L=[]
     ·have hlz:(removed L).length=0:=by rw [h0];rfl
      have H0:=am h0
      rw [hlz]
      have CF:=am (removeFirst_nil w5 A2 c2)
      clear h0 hlz
      go_wp2_with (go_at_call 432;fail)
      refine CF.out.mono ?_
      rintro e w6 ⟨rfl,hw⟩
      rw [hw]
      clear hw CF
      go_wp2
      go_ret
      rw [HLe.out,HRO.out,H0.out,promoted_nil]
      exact ⟨A2,c2,rfl,Nat.zero_le _,HB5'.out,fun hne=>absurd rfl hne⟩
     ·obtain ⟨rfl,hg3⟩:=H3.out h0
      have hl3:1≤(removed L).length:=by
       have:(removed L).length≠0:=fun h=>h0 (List.eq_nil_of_length_eq_zero h)
       omega
      have CF:=am (removeFirst_calls w5 w.heap.size g1 (removed L).length c2 (removed L) ⟨hl3,by have:=removed_len L;have:=HN0.out;omega⟩ (removed_bound L 1000 HCL.out) hg3 H1.out)
      clear h0 hg3 hl3
      go_wp2_with (go_at_call 432;fail)
      refine CF.out.mono ?_
      rintro e w6 ⟨A3,c3,rfl,h1,h2,h3⟩
      have H1':=am h1
      have H2':=am h2
      have H3':=am h3
      clear h1 h2 h3 CF
      go_wp2
      go_ret
      rw [HLe.out,HRO.out]
      exact ⟨_,c3,rfl,H1'.out,HB5'.out.trans (H2'.out.under HNG.out),fun hne=>⟨f,g1,(H3'.out hne).1,HNG.out,(H3'.out hne).2⟩⟩
theorem at_num {w:World} {A:Option Addr} {xs:List Int} (h:Kd.C (Kd.int .u8) w A xs.length xs) (j:Nat) (hj:j < xs.length):∃ ad,A=some ad∧w.cell? (ad.add j)=some (.int .u8 xs[j]):=by
 obtain ⟨ad,cs,e,_,hK,hc0⟩:=Kd.C_get h (0:Int) (j:Int) (by omega) (by omega)
 have hg:xs.getD (j:Int).toNat (0:Int)=xs[j]:=by simp [hj]
 rw [hg] at hK
 have hK':cs=[.int .u8 xs[j]]:=hK
 subst hK'
 refine ⟨ad,e,?_⟩
 have hq:=hc0 0 _ rfl
 rw [show (Kd.int .u8).sz=1 from rfl,Nat.mul_one,Nat.add_zero,Int.toNat_natCast] at hq
 exact hq
theorem zzHas_calls (w:World) (A:Option Addr) (c:Nat) (xs:List Int) (h:Kd.C (Kd.int .u8) w A xs.length xs) (hl:xs.length≤4000000000000) (hno:∀ y∈xs,y≠10):
  Calls Tryz.prog 433 #[.slice A xs.length c,.int .u8 10] w fun e w'=>e=.returned (.bool false)∧w'=w:=by
 have HA:=am h
 have HL:=am hl
 have HNO:=am hno
 clear h hl hno
 go_enter Tryz.func433,Tryz.ntmps433
 go_wp2
 go_loopg [5] xs.length (fun gf v5 wx=>∃ (j:Nat),v5=.int .i64 (j:Int)∧Aside0 (j≤xs.length∧xs.length - j=gf)∧wx=w)
 case atStart=>exact ⟨0,rfl,⟨by omega,by omega⟩,rfl⟩
 case round=>
  obtain ⟨j,rfl,HP,hwx⟩:=hrel
  subst hwx
  by_cases hj:j < xs.length
  ·have hpp:=eq_true hj
   obtain ⟨ad,rfl,k1⟩:=at_num HA.out j hj
   have hne:(xs[j]==10)=false:=beq_eq_false_iff_ne.mpr (HNO.out _ (List.getElem_mem hj))
   have hw1:wrap64 ((j:Int)+1)=((j+1:Nat):Int):=by have:=HL.out;unfold wrap64;omega
   have HJ:=am hj
   obtain ⟨x,hx⟩:∃ x,xs[j]=x:=⟨_,rfl⟩
   rw [hx] at k1 hne
   clear hj hx
   go_wp2
   go_roundg (xs.length - (j+1))
   case measure=>have:=HP.out;have:=HJ.out;omega
   case rel=>exact ⟨j+1,by rw [hw1],⟨by have:=HJ.out;omega,rfl⟩,rfl⟩
  ·have hpp:=eq_false hj
   clear hj
   go_wp2
   go_ret
   exact ⟨rfl,rfl⟩
theorem noNewline_calls (w:World) (A:Option Addr) (c:Nat) (xs:List Int) (h:Kd.C (Kd.int .u8) w A xs.length xs) (hl:xs.length≤4000000000000) (hno:∀ y∈xs,y≠10):
  Calls Tryz.prog 416 #[.slice A xs.length c] w fun e w'=>e=.returned (.bool false)∧w'=w:=by
 have CZ:=am (zzHas_calls w A c xs h hl hno)
 clear h hl hno
 go_enter Tryz.func416,Tryz.ntmps416
 go_wp2_with (go_at_call 433;fail)
 refine CZ.out.mono ?_
 rintro e w1 ⟨rfl,hw⟩
 rw [hw]
 clear hw CZ
 go_wp2
 go_ret
 exact ⟨rfl,rfl⟩
theorem runeCount_calls (w:World) (A:Option Addr) (c:Nat) (xs:List Int) (h:Kd.C (Kd.int .u8) w A xs.length xs) (hl:xs.length≤4000000000000) (hno:∀ y∈xs,0≤y∧y < 128):
  Calls Tryz.prog 420 #[.slice A xs.length c] w fun e w'=>e=.returned (.int .i64 (xs.length:Int))∧w'=w:=by
 have HA:=am h
 have HL:=am hl
 have HNO:=am hno
 clear h hl hno
 go_enter Tryz.func420,Tryz.ntmps420
 go_wp2
 go_loopg [4] xs.length (fun gf v4 wx=>∃ (j:Nat),v4=.int .i64 (j:Int)∧Aside0 (j≤xs.length∧xs.length - j=gf)∧wx=w)
 case atStart=>exact ⟨0,rfl,⟨by omega,by omega⟩,rfl⟩
 case round=>
  obtain ⟨j,rfl,HP,hwx⟩:=hrel
  subst hwx
  by_cases hj:j < xs.length
  ·have hpp:=eq_true hj
   have hlt:decide ((j:Int) < (xs.length:Int))=true:=decide_eq_true (by omega)
   obtain ⟨ad,rfl,k1⟩:=at_num HA.out j hj
   have hy:=HNO.out _ (List.getElem_mem hj)
   have hge:decide (xs[j]≥128)=false:=decide_eq_false (by omega)
   have hge2:(128≤xs[j])=False:=eq_false (by omega)
   have hw1:wrap64 ((j:Int)+1)=((j+1:Nat):Int):=by have:=HL.out;unfold wrap64;omega
   have HJ:=am hj
   obtain ⟨x,hx⟩:∃ x,xs[j]=x:=⟨_,rfl⟩
   rw [hx] at k1 hge hge2
   clear hj hx hy
   go_wp2
   go_roundg (xs.length - (j+1))
   case measure=>have:=HP.out;have:=HJ.out;omega
   case rel=>exact ⟨j+1,by rw [hw1],⟨by have:=HJ.out;omega,rfl⟩,rfl⟩
  ·have hpp:=eq_false hj
   have hlt:decide ((j:Int) < (xs.length:Int))=false:=decide_eq_false (by omega)
   have HJ:=am hj
   clear hj
   go_wp2
   go_ret
   have e:j=xs.length:=by have:=HP.out;have:=HJ.out;omega
   rw [e]
   exact ⟨rfl,rfl⟩
end Go.Proofs.YtbheflncgmhadaaGreat.Hand
