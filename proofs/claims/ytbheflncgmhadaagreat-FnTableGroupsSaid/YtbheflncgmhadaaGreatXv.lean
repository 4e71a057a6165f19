/- The law's tests, printed. Conditions: those in each statement. -/
import Derived.Test.YtbheflncgmhadaaGreatProg
import Derived.Below
import Derived.Deep.Draws
import Derived.Deep.AppendLies
import Derived.Maps.AppendAt
import Derived.OwnWalk
import Derived.Laws.BytesArg
import Derived.Laws.MakeOwn
import Derived.Laws.OwnMore
import Derived.Deep.OwnRows
import Derived.Tactics
import Derived.Lib.ConvBytes
import Derived.Laws.Slices
import Derived.WalkKit
import Derived.KernelRfl
import Derived.RowKit3
import Derived.Deep.LoopGhost
import Derived.Deep.QuietTactic
import Derived.BigQuiet
import Derived.WideLaws
import Derived.Deep.DeepCutAuto
import Derived.Deep.CutBlock
import Derived.Deep.RegionHeld3
import Derived.Laws.Rows
import Derived.Lib.AppendStr
import Derived.ArgAppend
import Derived.Laws.IdiomCopy
import Derived.OrdersHeld
import Derived.Laws.BitsLemmas
import Derived.RowKit
import Derived.Test.YtbheflncgmhadaaGreatXa
set_option linter.unusedVariables false
set_option linter.unusedSimpArgs false
set_option maxHeartbeats 40000000
set_option maxRecDepth 100000
namespace Go.Proofs.YtbheflncgmhadaaGreat.PzzFits10
open Go.RowKit Go.Proofs.YtbheflncgmhadaaGreatW.PrintWords Go.Proofs.YtbheflncgmhadaaGreatW.PrintLast Go.Proofs.YtbheflncgmhadaaGreatW.PrintMore
structure S27 where
 f0:ByteArray
 f1:Bool
 f2:ByteArray
 f3:Int
 f4:Int
def z27:S27:=⟨(⟨#[]⟩:ByteArray),false,(⟨#[]⟩:ByteArray),(0:Int),(0:Int)⟩
def k27:Kd S27:=Kd.iso (Kd.pair Kd.string (Kd.pair Kd.bool (Kd.pair Kd.string (Kd.pair (Kd.int .i64) (Kd.int .i64))))) (fun x:S27=>(x.f0,x.f1,x.f2,x.f3,x.f4))
theorem k27_open {w:World} {x:S27} {cs:List Value} (h:k27.K w x cs):cs=[.string x.f0,.bool x.f1,.string x.f2,.int .i64 x.f3,.int .i64 x.f4]:=by
 obtain ⟨_,_,rfl,rfl,⟨_,_,rfl,rfl,⟨_,_,rfl,rfl,⟨_,_,rfl,rfl,rfl⟩⟩⟩⟩:=h
 exact rfl
theorem k27_mk (w:World) (x:S27)  : k27.K w x [.string x.f0,.bool x.f1,.string x.f2,.int .i64 x.f3,.int .i64 x.f4]:=⟨[.string x.f0],[.bool x.f1,.string x.f2,.int .i64 x.f3,.int .i64 x.f4],rfl,rfl,⟨[.bool x.f1],[.string x.f2,.int .i64 x.f3,.int .i64 x.f4],rfl,rfl,⟨[.string x.f2],[.int .i64 x.f3,.int .i64 x.f4],rfl,rfl,⟨[.int .i64 x.f3],[.int .i64 x.f4],rfl,rfl,rfl⟩⟩⟩⟩
def rd_T27 (xs:List S27) (i:Int):S27:=xs.getD i.toNat z27
theorem at_T27 {w:World} {A:Option Addr} {n:Nat} {xs:List S27} (h:Kd.C k27 w A n xs) (i:Int) (h0:0≤i) (h1:i < n):∃ ad ,A=some ad∧w.cell? (ad.add (i.toNat * 5))=some (.string (rd_T27 xs i).f0)∧w.cell? ⟨(ad.add (i.toNat * 5)).block,(ad.add (i.toNat * 5)).off+1,none⟩=some (.bool (rd_T27 xs i).f1)∧w.cell? ⟨(ad.add (i.toNat * 5)).block,(ad.add (i.toNat * 5)).off+2,none⟩=some (.string (rd_T27 xs i).f2)∧w.cell? ⟨(ad.add (i.toNat * 5)).block,(ad.add (i.toNat * 5)).off+3,none⟩=some (.int .i64 (rd_T27 xs i).f3)∧w.cell? ⟨(ad.add (i.toNat * 5)).block,(ad.add (i.toNat * 5)).off+4,none⟩=some (.int .i64 (rd_T27 xs i).f4):=by
 obtain ⟨ad,c,e,_,hK,hc0⟩:=Kd.C_get h z27 i h0 h1
 have hc:∀ j u,c[j]?=some u→w.cell? (ad.add (i.toNat * 5+j))=some u:=hc0
 obtain rfl:=k27_open hK
 exact ⟨ad,e,hc 0 _ rfl,by rw [← add_field _ _ 1 (by omega)];exact hc 1 _ rfl,by rw [← add_field _ _ 2 (by omega)];exact hc 2 _ rfl,by rw [← add_field _ _ 3 (by omega)];exact hc 3 _ rfl,by rw [← add_field _ _ 4 (by omega)];exact hc 4 _ rfl⟩
def rd_L4 (xs:List (List S27)) (i:Int):(List S27):=xs.getD i.toNat ([]:List S27)
theorem at_L4 {w:World} {A:Option Addr} {n:Nat} {xs:List (List S27)} (h:Kd.C (Kd.slice 27 k27) w A n xs) (i:Int) (h0:0≤i) (h1:i < n):∃ ad A0 c0,A=some ad∧w.cell? (ad.add i.toNat)=some (.slice A0 (rd_L4 xs i).length c0)∧(rd_L4 xs i).length≤c0∧k27.C w A0 (rd_L4 xs i).length (rd_L4 xs i):=by
 obtain ⟨ad,c,e,_,hK,hc0⟩:=Kd.C_get h ([]:List S27) i h0 h1
 have hc:∀ j u,c[j]?=some u→w.cell? (ad.add (i.toNat * 1+j))=some u:=hc0
 obtain ⟨A0,c0,rfl,l0,g0⟩:=hK
 exact ⟨ad,A0,c0,e,by have hq:=hc 0 _ rfl;rwa [Nat.mul_one,Nat.add_zero] at hq,l0,g0⟩
def laws_zzFits12.f (a0_0:ByteArray) (a0_1:Bool) (a0_2:ByteArray) (a0_3:Int) (a0_4:Int):Option (Bool):=if (a0_0.size:Int) > 2147483647 then (some false) else (if (a0_2.size:Int) > 2147483647 then (some false) else (some true))
theorem laws_zzFits12.calls (a0_0:ByteArray) (a0_1:Bool) (a0_2:ByteArray) (a0_3:Int) (a0_4:Int) (r:Bool) (w:World) (h:laws_zzFits12.f a0_0 a0_1 a0_2 a0_3 a0_4=some r):
  Calls Tryz.prog 20 #[.agg #[.string a0_0,.bool a0_1,.string a0_2,.int .i64 a0_3,.int .i64 a0_4]] w fun e w'=>e=.returned (.bool r)∧Below w.heap.size w w':=by
 have hu27:=Tryz.underlying27
 have HB:=am (Below.refl w.heap.size w)
 have H:(if (a0_0.size:Int) > 2147483647 then (some false) else (if (a0_2.size:Int) > 2147483647 then (some false) else (some true)))=some r:=h
 clear h
 by_cases c2:(a0_0.size:Int) > 2147483647
 ·rw [if_pos c2] at H
  have c2b0:decide (2147483647 < (a0_0.size:Int))=true:=decide_eq_true c2
  have c2b1:decide (2147483647 < a0_0.size)=true:=decide_eq_true (by omega)
  clear c2
  obtain rfl:=Option.some.inj H
  go_enter Tryz.func20,Tryz.ntmps20
  go_wp2_with (first|((with_reducible refine gate_dst (N:=1) rfl ?_);refine box_event ?hg (N:=1) ?hd (cs:=#[.string a0_0,.bool a0_1,.string a0_2,.int .i64 a0_3,.int .i64 a0_4]) (t:=27) ?hr ?_;(case hd=>rfl);(case hg=>rfl);(case hr=>first|(go_simp;done)|(go_simp;rfl));intro gb101 hg w3 hbox hb;have n0_:=am (below_step (by repeat (first|(with_reducible first|exact HB.out|apply below_alloc|apply pw_below_drewN|apply below_drew1)|exact HB.out)) hb);have n1_:=am (hbox);have n2_:=am ((by rw [hg];exact (below_size (by repeat (first|(with_reducible first|exact HB.out|apply below_alloc|apply pw_below_drewN|apply below_drew1)|exact HB.out))):w.heap.size≤gb101));have n3_:=am ((by rw [hg];exact (below_size (by repeat (first|(with_reducible first|exact HB.out|apply below_alloc|apply pw_below_drewN|apply below_drew1)|exact HB.out))):w.heap.size≤gb101));clear HB;have HB:=n0_;have BK101:=n1_;have GW101:=n2_;have GE101:=n3_;clear n0_ n1_ n2_ n3_;clear hb hbox hg;have hcz4_0:w3.cell? ⟨gb101,0,none⟩=some (.string a0_0):=(blk_cell BK101.out 0).trans rfl;have hcz4_1:w3.cell? ⟨gb101,1,none⟩=some (.bool a0_1):=(blk_cell BK101.out 1).trans rfl;have hcz4_2:w3.cell? ⟨gb101,2,none⟩=some (.string a0_2):=(blk_cell BK101.out 2).trans rfl;have hcz4_3:w3.cell? ⟨gb101,3,none⟩=some (.int .i64 a0_3):=(blk_cell BK101.out 3).trans rfl;have hcz4_4:w3.cell? ⟨gb101,4,none⟩=some (.int .i64 a0_4):=(blk_cell BK101.out 4).trans rfl;have hfz4_0:=blk_frozen BK101.out 0;have hfz4_1:=blk_frozen BK101.out 1;have hfz4_2:=blk_frozen BK101.out 2;have hfz4_3:=blk_frozen BK101.out 3;have hfz4_4:=blk_frozen BK101.out 4))
  go_ret
  exact ⟨by first|rfl|(simp [errW_none,errW_some] <;> rfl)|(simp [*,errW_none,errW_some] <;> rfl),by repeat (first|(with_reducible first|exact HB.out|apply below_alloc|apply pw_below_drewN|apply below_drew1|refine below_set ?_ GE101.out)|exact HB.out)⟩
 ·rw [if_neg c2] at H
  have c2b0:decide (2147483647 < (a0_0.size:Int))=false:=decide_eq_false c2
  have c2b1:decide (2147483647 < a0_0.size)=false:=decide_eq_false (by omega)
  clear c2
  by_cases c5:(a0_2.size:Int) > 2147483647
  ·rw [if_pos c5] at H
   have c5b0:decide (2147483647 < (a0_2.size:Int))=true:=decide_eq_true c5
   have c5b1:decide (2147483647 < a0_2.size)=true:=decide_eq_true (by omega)
   clear c5
   obtain rfl:=Option.some.inj H
   go_enter Tryz.func20,Tryz.ntmps20
   go_wp2_with (first|((with_reducible refine gate_dst (N:=1) rfl ?_);refine box_event ?hg (N:=1) ?hd (cs:=#[.string a0_0,.bool a0_1,.string a0_2,.int .i64 a0_3,.int .i64 a0_4]) (t:=27) ?hr ?_;(case hd=>rfl);(case hg=>rfl);(case hr=>first|(go_simp;done)|(go_simp;rfl));intro gb101 hg w6 hbox hb;have n0_:=am (below_step (by repeat (first|(with_reducible first|exact HB.out|apply below_alloc|apply pw_below_drewN|apply below_drew1)|exact HB.out)) hb);have n1_:=am (hbox);have n2_:=am ((by rw [hg];exact (below_size (by repeat (first|(with_reducible first|exact HB.out|apply below_alloc|apply pw_below_drewN|apply below_drew1)|exact HB.out))):w.heap.size≤gb101));have n3_:=am ((by rw [hg];exact (below_size (by repeat (first|(with_reducible first|exact HB.out|apply below_alloc|apply pw_below_drewN|apply below_drew1)|exact HB.out))):w.heap.size≤gb101));clear HB;have HB:=n0_;have BK101:=n1_;have GW101:=n2_;have GE101:=n3_;clear n0_ n1_ n2_ n3_;clear hb hbox hg;have hcz7_0:w6.cell? ⟨gb101,0,none⟩=some (.string a0_0):=(blk_cell BK101.out 0).trans rfl;have hcz7_1:w6.cell? ⟨gb101,1,none⟩=some (.bool a0_1):=(blk_cell BK101.out 1).trans rfl;have hcz7_2:w6.cell? ⟨gb101,2,none⟩=some (.string a0_2):=(blk_cell BK101.out 2).trans rfl;have hcz7_3:w6.cell? ⟨gb101,3,none⟩=some (.int .i64 a0_3):=(blk_cell BK101.out 3).trans rfl;have hcz7_4:w6.cell? ⟨gb101,4,none⟩=some (.int .i64 a0_4):=(blk_cell BK101.out 4).trans rfl;have hfz7_0:=blk_frozen BK101.out 0;have hfz7_1:=blk_frozen BK101.out 1;have hfz7_2:=blk_frozen BK101.out 2;have hfz7_3:=blk_frozen BK101.out 3;have hfz7_4:=blk_frozen BK101.out 4))
   go_ret
   exact ⟨by first|rfl|(simp [errW_none,errW_some] <;> rfl)|(simp [*,errW_none,errW_some] <;> rfl),by repeat (first|(with_reducible first|exact HB.out|apply below_alloc|apply pw_below_drewN|apply below_drew1|refine below_set ?_ GE101.out)|exact HB.out)⟩
  ·rw [if_neg c5] at H
   have c5b0:decide (2147483647 < (a0_2.size:Int))=false:=decide_eq_false c5
   have c5b1:decide (2147483647 < a0_2.size)=false:=decide_eq_false (by omega)
   clear c5
   obtain rfl:=Option.some.inj H
   go_enter Tryz.func20,Tryz.ntmps20
   go_wp2_with (first|((with_reducible refine gate_dst (N:=1) rfl ?_);refine box_event ?hg (N:=1) ?hd (cs:=#[.string a0_0,.bool a0_1,.string a0_2,.int .i64 a0_3,.int .i64 a0_4]) (t:=27) ?hr ?_;(case hd=>rfl);(case hg=>rfl);(case hr=>first|(go_simp;done)|(go_simp;rfl));intro gb101 hg w8 hbox hb;have n0_:=am (below_step (by repeat (first|(with_reducible first|exact HB.out|apply below_alloc|apply pw_below_drewN|apply below_drew1)|exact HB.out)) hb);have n1_:=am (hbox);have n2_:=am ((by rw [hg];exact (below_size (by repeat (first|(with_reducible first|exact HB.out|apply below_alloc|apply pw_below_drewN|apply below_drew1)|exact HB.out))):w.heap.size≤gb101));have n3_:=am ((by rw [hg];exact (below_size (by repeat (first|(with_reducible first|exact HB.out|apply below_alloc|apply pw_below_drewN|apply below_drew1)|exact HB.out))):w.heap.size≤gb101));clear HB;have HB:=n0_;have BK101:=n1_;have GW101:=n2_;have GE101:=n3_;clear n0_ n1_ n2_ n3_;clear hb hbox hg;have hcz9_0:w8.cell? ⟨gb101,0,none⟩=some (.string a0_0):=(blk_cell BK101.out 0).trans rfl;have hcz9_1:w8.cell? ⟨gb101,1,none⟩=some (.bool a0_1):=(blk_cell BK101.out 1).trans rfl;have hcz9_2:w8.cell? ⟨gb101,2,none⟩=some (.string a0_2):=(blk_cell BK101.out 2).trans rfl;have hcz9_3:w8.cell? ⟨gb101,3,none⟩=some (.int .i64 a0_3):=(blk_cell BK101.out 3).trans rfl;have hcz9_4:w8.cell? ⟨gb101,4,none⟩=some (.int .i64 a0_4):=(blk_cell BK101.out 4).trans rfl;have hfz9_0:=blk_frozen BK101.out 0;have hfz9_1:=blk_frozen BK101.out 1;have hfz9_2:=blk_frozen BK101.out 2;have hfz9_3:=blk_frozen BK101.out 3;have hfz9_4:=blk_frozen BK101.out 4))
   go_ret
   exact ⟨by first|rfl|(simp [errW_none,errW_some] <;> rfl)|(simp [*,errW_none,errW_some] <;> rfl),by repeat (first|(with_reducible first|exact HB.out|apply below_alloc|apply pw_below_drewN|apply below_drew1|refine below_set ?_ GE101.out)|exact HB.out)⟩
def laws_zzFits11.l0:Nat→List (S27)→Int→Int→Option (Bool)
 |0,_,_,_=>none
 |k+1,x8,x9,x10=>if x10 < x9 then (if 0≤x10 then (if x10 < (x8.length:Int) then ((laws_zzFits12.f ((rd_T27 x8 x10).f0) ((rd_T27 x8 x10).f1) ((rd_T27 x8 x10).f2) ((rd_T27 x8 x10).f3) ((rd_T27 x8 x10).f4)).bind fun t104=>(if t104=true then (laws_zzFits11.l0 k x8 x9 (wrap64 (x10+1))) else (some false))) else (none)) else (none)) else (some true)
def laws_zzFits11.f (k:Nat) (l0:List (S27)):Option (Bool):=if (l0.length:Int) > 2147483647 then (some false) else (laws_zzFits11.l0 k l0 (l0.length:Int) 0)
theorem laws_zzFits11.mono_l:∀ k,(∀ y0 y1 y2,LeO (laws_zzFits11.l0 k y0 y1 y2) (laws_zzFits11.l0 (k+1) y0 y1 y2))
 |0=>fun _ _ _ r h=>by simp [laws_zzFits11.l0] at h
 |k+1=>by
  have ih0:=laws_zzFits11.mono_l k
  ·intro y0 y1 y2
   unfold laws_zzFits11.l0
   repeat' first
   |(with_reducible exact ih0 _ _ _)
   |(with_reducible exact LeO.refl _)
   |(with_reducible exact LeO.none _)
   |(with_reducible refine LeO.ite ?_ ?_)
   |(with_reducible refine LeO.bind ?_ (fun _=>?_))
   |exact ih0 _ _ _
   |exact LeO.none _
   |refine LeO.ite ?_ ?_
   |refine LeO.bind ?_ (fun _=>?_)
theorem laws_zzFits11.mono:∀ a0 k,LeO (laws_zzFits11.f k a0) (laws_zzFits11.f (k+1) a0):=by
 intro a0 k
 have ih0:=laws_zzFits11.mono_l k
 unfold laws_zzFits11.f
 repeat' first
  |(with_reducible exact ih0 _ _ _)
  |(with_reducible exact LeO.refl _)
  |(with_reducible exact LeO.none _)
  |(with_reducible refine LeO.ite ?_ ?_)
  |(with_reducible refine LeO.bind ?_ (fun _=>?_))
  |exact ih0 _ _ _
  |exact LeO.none _
  |refine LeO.ite ?_ ?_
  |refine LeO.bind ?_ (fun _=>?_)
theorem laws_zzFits11.calls (k:Nat) (A0:Option Addr) (c0:Nat) (l0:List (S27)) (r:Bool) (w:World) (hr0:Kd.C k27 w A0 l0.length l0) (hc0:l0.length≤c0) (h:laws_zzFits11.f k l0=some r):
  Calls Tryz.prog 11 #[.slice A0 l0.length c0] w fun e w'=>e=.returned (.bool r)∧Below w.heap.size w w':=by
 have hu27:=Tryz.underlying27
 have HR0:=am hr0
 have HC0:=am hc0
 clear hr0 hc0
 have HB:=am (Below.refl w.heap.size w)
 have H:(if (l0.length:Int) > 2147483647 then (some false) else (laws_zzFits11.l0 k l0 (l0.length:Int) 0))=some r:=h
 clear h
 by_cases c2:(l0.length:Int) > 2147483647
 ·rw [if_pos c2] at H
  have c2b0:decide (2147483647 < (l0.length:Int))=true:=decide_eq_true c2
  have c2b1:decide (2147483647 < l0.length)=true:=decide_eq_true (by omega)
  clear c2
  obtain rfl:=Option.some.inj H
  go_enter Tryz.func11,Tryz.ntmps11
  go_wp2
  go_ret
  exact ⟨by first|rfl|(simp [errW_none,errW_some] <;> rfl)|(simp [*,errW_none,errW_some] <;> rfl),by repeat (first|(with_reducible first|exact HB.out|apply below_alloc|apply pw_below_drewN|apply below_drew1)|exact HB.out)⟩
 ·rw [if_neg c2] at H
  have c2b0:decide (2147483647 < (l0.length:Int))=false:=decide_eq_false c2
  have c2b1:decide (2147483647 < l0.length)=false:=decide_eq_false (by omega)
  clear c2
  have H':=am H
  clear H
  go_enter Tryz.func11,Tryz.ntmps11
  go_wp2
  go_loopg [10] k (fun kq v10 w'=>∃ (x10_1:Int),v10=.int .i64 x10_1∧Aside0 (laws_zzFits11.l0 kq l0 (l0.length:Int) x10_1=some r)∧Aside0 (kq≤k)∧Aside0 (Below w.heap.size w w'))
  case atStart=>exact ⟨(0),(by first|rfl|(simp;done)|(simp [*];done)),H',⟨Nat.le_refl _⟩,⟨by repeat (first|(with_reducible first|exact HB.out|apply below_alloc|apply pw_below_drewN|apply below_drew1)|exact HB.out)⟩⟩
  case round=>
   clear H'
   try clear c1
   try clear c2
   try clear c2b0
   try clear c2b1
   try clear p2
   obtain ⟨x10_1,rfl,HA,HK1,HB⟩:=hrel
   cases gk with
   |zero=>exact absurd HA.out (by simp [laws_zzFits11.l0])
   |succ k1=>
    have H:=HA.out
    clear HA
    simp only [laws_zzFits11.l0] at H
    by_cases c3:x10_1 < (l0.length:Int)
    ·rw [if_pos c3] at H
     have c3b0:decide (x10_1 < (l0.length:Int))=true:=decide_eq_true c3
     clear c3
     by_cases c4:0≤x10_1
     ·rw [if_pos c4] at H
      have c4b0:decide (0≤x10_1)=true:=decide_eq_true c4
      clear c4
      by_cases c5:x10_1 < (l0.length:Int)
      ·rw [if_pos c5] at H
       have c5b0:decide (x10_1 < (l0.length:Int))=true:=decide_eq_true c5
       clear c5
       replace H:=Option.bind_eq_some_iff.mp H
       obtain ⟨t104,A60,H⟩:=H
       replace H:(if t104=true then (laws_zzFits11.l0 k1 l0 (l0.length:Int) (wrap64 (x10_1+1))) else (some false))=some r:=H
       have A6:=am A60
       clear A60
       by_cases c7:t104=true
       ·subst c7
        have H1:(laws_zzFits11.l0 k1 l0 (l0.length:Int) (wrap64 (x10_1+1)))=some r:=by rw [if_pos rfl] at H;exact H
        clear H
        have H:=H1
        clear H1
        have H':=am H
        clear H
        have p102:0≤(x10_1:Int):=of_decide_eq_true (by first|(with_reducible assumption)|assumption)
        have q102:x10_1 < (l0.length:Int):=of_decide_eq_true (by first|(with_reducible assumption)|assumption)
        obtain ⟨ad102,e102,hx102_0,hx102_1,hx102_2,hx102_3,hx102_4⟩:=at_T27 HR0.out x10_1 p102 q102
        cases e102
        replace hx102_0:=(HB.out.cell (World.block_lt_of_cell? w _ hx102_0)).trans hx102_0
        replace hx102_1:=(HB.out.cell (World.block_lt_of_cell? w _ hx102_1)).trans hx102_1
        replace hx102_2:=(HB.out.cell (World.block_lt_of_cell? w _ hx102_2)).trans hx102_2
        replace hx102_3:=(HB.out.cell (World.block_lt_of_cell? w _ hx102_3)).trans hx102_3
        replace hx102_4:=(HB.out.cell (World.block_lt_of_cell? w _ hx102_4)).trans hx102_4
        replace p102:=eq_true p102
        replace q102:=eq_true q102
        go_wp2_with (first|((with_reducible refine gate_dst (N:=4) rfl ?_);refine box_event ?hg (N:=4) ?hd (cs:=#[.string (⟨#[]⟩:ByteArray),.bool false,.string (⟨#[]⟩:ByteArray),.int .i64 0,.int .i64 0]) (t:=27) ?hr ?_;(case hd=>rfl);(case hg=>rfl);(case hr=>first|(go_simp;done)|(go_simp;rfl));intro gb103 hg w8 hbox hb;have n0_:=am (below_step (by repeat (first|(with_reducible first|exact HB.out|apply below_alloc|apply pw_below_drewN|apply below_drew1)|exact HB.out)) hb);have n1_:=am (hbox);have n2_:=am ((by rw [hg];exact (below_size (by repeat (first|(with_reducible first|exact HB.out|apply below_alloc|apply pw_below_drewN|apply below_drew1)|exact HB.out))):w.heap.size≤gb103));have n3_:=am ((by rw [hg];exact (below_size (by repeat (first|(with_reducible first|exact HB.out|apply below_alloc|apply pw_below_drewN|apply below_drew1)|exact HB.out))):w.heap.size≤gb103));clear HB;have HB:=n0_;have BK103:=n1_;have GW103:=n2_;have GE103:=n3_;clear n0_ n1_ n2_ n3_;clear hb hbox hg;have hcz9_0:w8.cell? ⟨gb103,0,none⟩=some (.string (⟨#[]⟩:ByteArray)):=(blk_cell BK103.out 0).trans rfl;have hcz9_1:w8.cell? ⟨gb103,1,none⟩=some (.bool false):=(blk_cell BK103.out 1).trans rfl;have hcz9_2:w8.cell? ⟨gb103,2,none⟩=some (.string (⟨#[]⟩:ByteArray)):=(blk_cell BK103.out 2).trans rfl;have hcz9_3:w8.cell? ⟨gb103,3,none⟩=some (.int .i64 0):=(blk_cell BK103.out 3).trans rfl;have hcz9_4:w8.cell? ⟨gb103,4,none⟩=some (.int .i64 0):=(blk_cell BK103.out 4).trans rfl;have hfz9_0:=blk_frozen BK103.out 0;have hfz9_1:=blk_frozen BK103.out 1;have hfz9_2:=blk_frozen BK103.out 2;have hfz9_3:=blk_frozen BK103.out 3;have hfz9_4:=blk_frozen BK103.out 4)|((with_reducible refine gate_callee (f:=20) rfl ?_);refine goesL_ (some 15) rfl rfl Tryz.func20 (by kernel_rfl) rfl #[.agg #[.string ((rd_T27 l0 x10_1).f0),.bool ((rd_T27 l0 x10_1).f1),.string ((rd_T27 l0 x10_1).f2),.int .i64 ((rd_T27 l0 x10_1).f3),.int .i64 ((rd_T27 l0 x10_1).f4)]] rfl (by (try simp only [List.map_toArray,List.map_cons,List.map_nil]);first|done|rfl|(simp only [List.length_drop,List.length_take];rfl)) ?_;(with_reducible refine (laws_zzFits12.calls ((rd_T27 l0 x10_1).f0) ((rd_T27 l0 x10_1).f1) ((rd_T27 l0 x10_1).f2) ((rd_T27 l0 x10_1).f3) ((rd_T27 l0 x10_1).f4) true _ A6.out).mono ?_);rintro e w10 ⟨rfl,hb⟩;refine ⟨_,rfl,?_⟩;have n0_:=am (blk_below (g:=gb103) (o:=.cells #[.string ((rd_T27 l0 x10_1).f0),.bool ((rd_T27 l0 x10_1).f1),.string ((rd_T27 l0 x10_1).f2),.int .i64 ((rd_T27 l0 x10_1).f3),.int .i64 ((rd_T27 l0 x10_1).f4)] 27 (0,0)) (by (with_reducible repeat (first|refine blk_drewN ?_ _|refine blk_drew ?_|refine blk_alloc ?_ _));refine blk_put (cs:=#[.string ((rd_T27 l0 x10_1).f0),.bool ((rd_T27 l0 x10_1).f1),.string ((rd_T27 l0 x10_1).f2),.int .i64 ((rd_T27 l0 x10_1).f3),.int .i64 0]) ?_ 4 _ rfl;(with_reducible repeat (first|refine blk_drewN ?_ _|refine blk_drew ?_|refine blk_alloc ?_ _));refine blk_put (cs:=#[.string ((rd_T27 l0 x10_1).f0),.bool ((rd_T27 l0 x10_1).f1),.string ((rd_T27 l0 x10_1).f2),.int .i64 0,.int .i64 0]) ?_ 3 _ rfl;(with_reducible repeat (first|refine blk_drewN ?_ _|refine blk_drew ?_|refine blk_alloc ?_ _));refine blk_put (cs:=#[.string ((rd_T27 l0 x10_1).f0),.bool ((rd_T27 l0 x10_1).f1),.string (⟨#[]⟩:ByteArray),.int .i64 0,.int .i64 0]) ?_ 2 _ rfl;(with_reducible repeat (first|refine blk_drewN ?_ _|refine blk_drew ?_|refine blk_alloc ?_ _));refine blk_put (cs:=#[.string ((rd_T27 l0 x10_1).f0),.bool false,.string (⟨#[]⟩:ByteArray),.int .i64 0,.int .i64 0]) ?_ 1 _ rfl;(with_reducible repeat (first|refine blk_drewN ?_ _|refine blk_drew ?_|refine blk_alloc ?_ _));refine blk_put (cs:=#[.string (⟨#[]⟩:ByteArray),.bool false,.string (⟨#[]⟩:ByteArray),.int .i64 0,.int .i64 0]) ?_ 0 _ rfl;(with_reducible repeat (first|refine blk_drewN ?_ _|refine blk_drew ?_|refine blk_alloc ?_ _));exact BK103.out) hb);have n1_:=am (below_step (by repeat (first|(with_reducible first|exact HB.out|apply below_alloc|apply pw_below_drewN|apply below_drew1|refine below_set ?_ GE103.out)|exact HB.out)) hb);clear BK103;clear HB;have BK103:=n0_;have HB:=n1_;clear n0_ n1_;(try clear hb);(try clear hb2);(try clear hk);(try clear hi)))
        go_roundg k1
        case measure=>have:=HK1.out;omega
        case rel=>exact ⟨(wrap64 (x10_1+1)),(by first|rfl|(simp;done)|(simp [*];done)),H',⟨by have:=HK1.out;omega⟩,⟨by repeat (first|(with_reducible first|exact HB.out|apply below_alloc|apply pw_below_drewN|apply below_drew1|refine below_set ?_ GE103.out)|exact HB.out)⟩⟩
       ·replace c7:=Bool.eq_false_iff.mpr c7
        subst c7
        have H1:(some false)=some r:=by rw [if_neg (show ¬ (false=true) by decide)] at H;exact H
        clear H
        have H:=H1
        clear H1
        obtain rfl:=Option.some.inj H
        have p102:0≤(x10_1:Int):=of_decide_eq_true (by first|(with_reducible assumption)|assumption)
        have q102:x10_1 < (l0.length:Int):=of_decide_eq_true (by first|(with_reducible assumption)|assumption)
        obtain ⟨ad102,e102,hx102_0,hx102_1,hx102_2,hx102_3,hx102_4⟩:=at_T27 HR0.out x10_1 p102 q102
        cases e102
        replace hx102_0:=(HB.out.cell (World.block_lt_of_cell? w _ hx102_0)).trans hx102_0
        replace hx102_1:=(HB.out.cell (World.block_lt_of_cell? w _ hx102_1)).trans hx102_1
        replace hx102_2:=(HB.out.cell (World.block_lt_of_cell? w _ hx102_2)).trans hx102_2
        replace hx102_3:=(HB.out.cell (World.block_lt_of_cell? w _ hx102_3)).trans hx102_3
        replace hx102_4:=(HB.out.cell (World.block_lt_of_cell? w _ hx102_4)).trans hx102_4
        replace p102:=eq_true p102
        replace q102:=eq_true q102
        go_wp2_with (first|((with_reducible refine gate_dst (N:=4) rfl ?_);refine box_event ?hg (N:=4) ?hd (cs:=#[.string (⟨#[]⟩:ByteArray),.bool false,.string (⟨#[]⟩:ByteArray),.int .i64 0,.int .i64 0]) (t:=27) ?hr ?_;(case hd=>rfl);(case hg=>rfl);(case hr=>first|(go_simp;done)|(go_simp;rfl));intro gb103 hg w11 hbox hb;have n0_:=am (below_step (by repeat (first|(with_reducible first|exact HB.out|apply below_alloc|apply pw_below_drewN|apply below_drew1)|exact HB.out)) hb);have n1_:=am (hbox);have n2_:=am ((by rw [hg];exact (below_size (by repeat (first|(with_reducible first|exact HB.out|apply below_alloc|apply pw_below_drewN|apply below_drew1)|exact HB.out))):w.heap.size≤gb103));have n3_:=am ((by rw [hg];exact (below_size (by repeat (first|(with_reducible first|exact HB.out|apply below_alloc|apply pw_below_drewN|apply below_drew1)|exact HB.out))):w.heap.size≤gb103));clear HB;have HB:=n0_;have BK103:=n1_;have GW103:=n2_;have GE103:=n3_;clear n0_ n1_ n2_ n3_;clear hb hbox hg;have hcz12_0:w11.cell? ⟨gb103,0,none⟩=some (.string (⟨#[]⟩:ByteArray)):=(blk_cell BK103.out 0).trans rfl;have hcz12_1:w11.cell? ⟨gb103,1,none⟩=some (.bool false):=(blk_cell BK103.out 1).trans rfl;have hcz12_2:w11.cell? ⟨gb103,2,none⟩=some (.string (⟨#[]⟩:ByteArray)):=(blk_cell BK103.out 2).trans rfl;have hcz12_3:w11.cell? ⟨gb103,3,none⟩=some (.int .i64 0):=(blk_cell BK103.out 3).trans rfl;have hcz12_4:w11.cell? ⟨gb103,4,none⟩=some (.int .i64 0):=(blk_cell BK103.out 4).trans rfl;have hfz12_0:=blk_frozen BK103.out 0;have hfz12_1:=blk_frozen BK103.out 1;have hfz12_2:=blk_frozen BK103.out 2;have hfz12_3:=blk_frozen BK103.out 3;have hfz12_4:=blk_frozen BK103.out 4)|((with_reducible refine gate_callee (f:=20) rfl ?_);refine goesL_ (some 15) rfl rfl Tryz.func20 (by kernel_rfl) rfl #[.agg #[.string ((rd_T27 l0 x10_1).f0),.bool ((rd_T27 l0 x10_1).f1),.string ((rd_T27 l0 x10_1).f2),.int .i64 ((rd_T27 l0 x10_1).f3),.int .i64 ((rd_T27 l0 x10_1).f4)]] rfl (by (try simp only [List.map_toArray,List.map_cons,List.map_nil]);first|done|rfl|(simp only [List.length_drop,List.length_take];rfl)) ?_;(with_reducible refine (laws_zzFits12.calls ((rd_T27 l0 x10_1).f0) ((rd_T27 l0 x10_1).f1) ((rd_T27 l0 x10_1).f2) ((rd_T27 l0 x10_1).f3) ((rd_T27 l0 x10_1).f4) false _ A6.out).mono ?_);rintro e w13 ⟨rfl,hb⟩;refine ⟨_,rfl,?_⟩;have n0_:=am (blk_below (g:=gb103) (o:=.cells #[.string ((rd_T27 l0 x10_1).f0),.bool ((rd_T27 l0 x10_1).f1),.string ((rd_T27 l0 x10_1).f2),.int .i64 ((rd_T27 l0 x10_1).f3),.int .i64 ((rd_T27 l0 x10_1).f4)] 27 (0,0)) (by (with_reducible repeat (first|refine blk_drewN ?_ _|refine blk_drew ?_|refine blk_alloc ?_ _));refine blk_put (cs:=#[.string ((rd_T27 l0 x10_1).f0),.bool ((rd_T27 l0 x10_1).f1),.string ((rd_T27 l0 x10_1).f2),.int .i64 ((rd_T27 l0 x10_1).f3),.int .i64 0]) ?_ 4 _ rfl;(with_reducible repeat (first|refine blk_drewN ?_ _|refine blk_drew ?_|refine blk_alloc ?_ _));refine blk_put (cs:=#[.string ((rd_T27 l0 x10_1).f0),.bool ((rd_T27 l0 x10_1).f1),.string ((rd_T27 l0 x10_1).f2),.int .i64 0,.int .i64 0]) ?_ 3 _ rfl;(with_reducible repeat (first|refine blk_drewN ?_ _|refine blk_drew ?_|refine blk_alloc ?_ _));refine blk_put (cs:=#[.string ((rd_T27 l0 x10_1).f0),.bool ((rd_T27 l0 x10_1).f1),.string (⟨#[]⟩:ByteArray),.int .i64 0,.int .i64 0]) ?_ 2 _ rfl;(with_reducible repeat (first|refine blk_drewN ?_ _|refine blk_drew ?_|refine blk_alloc ?_ _));refine blk_put (cs:=#[.string ((rd_T27 l0 x10_1).f0),.bool false,.string (⟨#[]⟩:ByteArray),.int .i64 0,.int .i64 0]) ?_ 1 _ rfl;(with_reducible repeat (first|refine blk_drewN ?_ _|refine blk_drew ?_|refine blk_alloc ?_ _));refine blk_put (cs:=#[.string (⟨#[]⟩:ByteArray),.bool false,.string (⟨#[]⟩:ByteArray),.int .i64 0,.int .i64 0]) ?_ 0 _ rfl;(with_reducible repeat (first|refine blk_drewN ?_ _|refine blk_drew ?_|refine blk_alloc ?_ _));exact BK103.out) hb);have n1_:=am (below_step (by repeat (first|(with_reducible first|exact HB.out|apply below_alloc|apply pw_below_drewN|apply below_drew1|refine below_set ?_ GE103.out)|exact HB.out)) hb);clear BK103;clear HB;have BK103:=n0_;have HB:=n1_;clear n0_ n1_;(try clear hb);(try clear hb2);(try clear hk);(try clear hi)))
        go_ret
        exact ⟨by first|rfl|(simp [errW_none,errW_some] <;> rfl)|(simp [*,errW_none,errW_some] <;> rfl),by repeat (first|(with_reducible first|exact HB.out|apply below_alloc|apply pw_below_drewN|apply below_drew1|refine below_set ?_ GE103.out)|exact HB.out)⟩
      ·rw [if_neg c5] at H
       exact absurd H (by simp)
     ·rw [if_neg c4] at H
      exact absurd H (by simp)
    ·rw [if_neg c3] at H
     have c3b0:decide (x10_1 < (l0.length:Int))=false:=decide_eq_false c3
     clear c3
     obtain rfl:=Option.some.inj H
     go_wp2
     go_ret
     exact ⟨by first|rfl|(simp [errW_none,errW_some] <;> rfl)|(simp [*,errW_none,errW_some] <;> rfl),by repeat (first|(with_reducible first|exact HB.out|apply below_alloc|apply pw_below_drewN|apply below_drew1)|exact HB.out)⟩
def laws_zzFits10.l0:Nat→List (List (S27))→Int→Int→Option (Bool)
 |0,_,_,_=>none
 |k+1,x8,x9,x10=>if x10 < x9 then (if 0≤x10 then (if x10 < (x8.length:Int) then ((laws_zzFits11.f k (rd_L4 x8 x10)).bind fun t106=>(if t106=true then (laws_zzFits10.l0 k x8 x9 (wrap64 (x10+1))) else (some false))) else (none)) else (none)) else (some true)
def laws_zzFits10.f (k:Nat) (l0:List (List (S27))):Option (Bool):=if (l0.length:Int) > 2147483647 then (some false) else (laws_zzFits10.l0 k l0 (l0.length:Int) 0)
theorem laws_zzFits10.calls (k:Nat) (A0:Option Addr) (c0:Nat) (l0:List (List (S27))) (r:Bool) (w:World) (hr0:Kd.C (Kd.slice 27 k27) w A0 l0.length l0) (hc0:l0.length≤c0) (h:laws_zzFits10.f k l0=some r):
  Calls Tryz.prog 4 #[.slice A0 l0.length c0] w fun e w'=>e=.returned (.bool r)∧Below w.heap.size w w':=by
 have HR0:=am hr0
 have HC0:=am hc0
 clear hr0 hc0
 have HB:=am (Below.refl w.heap.size w)
 have H:(if (l0.length:Int) > 2147483647 then (some false) else (laws_zzFits10.l0 k l0 (l0.length:Int) 0))=some r:=h
 clear h
 by_cases c2:(l0.length:Int) > 2147483647
 ·rw [if_pos c2] at H
  have c2b0:decide (2147483647 < (l0.length:Int))=true:=decide_eq_true c2
  have c2b1:decide (2147483647 < l0.length)=true:=decide_eq_true (by omega)
  clear c2
  obtain rfl:=Option.some.inj H
  go_enter Tryz.func4,Tryz.ntmps4
  go_wp2
  go_ret
  exact ⟨by first|rfl|(simp [errW_none,errW_some] <;> rfl)|(simp [*,errW_none,errW_some] <;> rfl),by repeat (first|(with_reducible first|exact HB.out|apply below_alloc|apply pw_below_drewN|apply below_drew1)|exact HB.out)⟩
 ·rw [if_neg c2] at H
  have c2b0:decide (2147483647 < (l0.length:Int))=false:=decide_eq_false c2
  have c2b1:decide (2147483647 < l0.length)=false:=decide_eq_false (by omega)
  clear c2
  have H':=am H
  clear H
  go_enter Tryz.func4,Tryz.ntmps4
  go_wp2
  go_loopg [10] k (fun kq v10 w'=>∃ (x10_1:Int),v10=.int .i64 x10_1∧Aside0 (laws_zzFits10.l0 kq l0 (l0.length:Int) x10_1=some r)∧Aside0 (kq≤k)∧Aside0 (Below w.heap.size w w'))
  case atStart=>exact ⟨(0),(by first|rfl|(simp;done)|(simp [*];done)),H',⟨Nat.le_refl _⟩,⟨by repeat (first|(with_reducible first|exact HB.out|apply below_alloc|apply pw_below_drewN|apply below_drew1)|exact HB.out)⟩⟩
  case round=>
   clear H'
   try clear c2
   try clear c2b0
   try clear c2b1
   try clear p2
   obtain ⟨x10_1,rfl,HA,HK1,HB⟩:=hrel
   cases gk with
   |zero=>exact absurd HA.out (by simp [laws_zzFits10.l0])
   |succ k1=>
    have H:=HA.out
    clear HA
    simp only [laws_zzFits10.l0] at H
    by_cases c3:x10_1 < (l0.length:Int)
    ·rw [if_pos c3] at H
     have c3b0:decide (x10_1 < (l0.length:Int))=true:=decide_eq_true c3
     clear c3
     by_cases c4:0≤x10_1
     ·rw [if_pos c4] at H
      have c4b0:decide (0≤x10_1)=true:=decide_eq_true c4
      clear c4
      by_cases c5:x10_1 < (l0.length:Int)
      ·rw [if_pos c5] at H
       have c5b0:decide (x10_1 < (l0.length:Int))=true:=decide_eq_true c5
       clear c5
       replace H:=Option.bind_eq_some_iff.mp H
       obtain ⟨t106,A60,H⟩:=H
       replace H:(if t106=true then (laws_zzFits10.l0 k1 l0 (l0.length:Int) (wrap64 (x10_1+1))) else (some false))=some r:=H
       have A6:=am A60
       clear A60
       by_cases c7:t106=true
       ·subst c7
        have H1:(laws_zzFits10.l0 k1 l0 (l0.length:Int) (wrap64 (x10_1+1)))=some r:=by rw [if_pos rfl] at H;exact H
        clear H
        have H:=H1
        clear H1
        have H':=am H
        clear H
        have p105:0≤(x10_1:Int):=of_decide_eq_true (by first|(with_reducible assumption)|assumption)
        have q105:x10_1 < (l0.length:Int):=of_decide_eq_true (by first|(with_reducible assumption)|assumption)
        obtain ⟨ad105,A105_0,c105_0,e105,hx105_0,hl105_0,hi105_0⟩:=at_L4 HR0.out x10_1 p105 q105
        cases e105
        replace hx105_0:=(HB.out.cell (World.block_lt_of_cell? w _ hx105_0)).trans hx105_0
        have HR105_0:=am hi105_0
        have HC105_0:=am hl105_0
        clear hi105_0 hl105_0
        replace p105:=eq_true p105
        replace q105:=eq_true q105
        go_wp2_with (first|((with_reducible refine gate_callee (f:=11) rfl ?_);refine goesL_ (some 15) rfl rfl Tryz.func11 (by kernel_rfl) rfl #[.slice A105_0 (rd_L4 l0 x10_1).length c105_0] rfl (by (try simp only [List.map_toArray,List.map_cons,List.map_nil]);first|done|rfl|(simp only [List.length_drop,List.length_take];rfl)) ?_;(with_reducible refine (laws_zzFits11.calls k1 _ _ (rd_L4 l0 x10_1) true _ ?side1 ?side2 A6.out).mono ?_);(case side1=>repeat (first|exact (Kd.C_below HR105_0.out HB.out)|(with_reducible refine Kd.C_alloc ?_ _)|(with_reducible refine Kd.C_drewN ?_ _)|(with_reducible refine Kd.C_drew ?_)));(case side2=>exact HC105_0.out);rintro e w8 ⟨rfl,hb⟩;refine ⟨_,rfl,?_⟩;have n0_:=am (below_step (by repeat (first|(with_reducible first|exact HB.out|apply below_alloc|apply pw_below_drewN|apply below_drew1)|exact HB.out)) hb);clear HB;have HB:=n0_;clear n0_;(try clear hb);(try clear hb2);(try clear hk);(try clear hi)))
        go_roundg k1
        case measure=>have:=HK1.out;omega
        case rel=>exact ⟨(wrap64 (x10_1+1)),(by first|rfl|(simp;done)|(simp [*];done)),H',⟨by have:=HK1.out;omega⟩,⟨by repeat (first|(with_reducible first|exact HB.out|apply below_alloc|apply pw_below_drewN|apply below_drew1)|exact HB.out)⟩⟩
       ·replace c7:=Bool.eq_false_iff.mpr c7
        subst c7
        have H1:(some false)=some r:=by rw [if_neg (show ¬ (false=true) by decide)] at H;exact H
        clear H
        have H:=H1
        clear H1
        obtain rfl:=Option.some.inj H
        have p105:0≤(x10_1:Int):=of_decide_eq_true (by first|(with_reducible assumption)|assumption)
        have q105:x10_1 < (l0.length:Int):=of_decide_eq_true (by first|(with_reducible assumption)|assumption)
        obtain ⟨ad105,A105_0,c105_0,e105,hx105_0,hl105_0,hi105_0⟩:=at_L4 HR0.out x10_1 p105 q105
        cases e105
        replace hx105_0:=(HB.out.cell (World.block_lt_of_cell? w _ hx105_0)).trans hx105_0
        have HR105_0:=am hi105_0
        have HC105_0:=am hl105_0
        clear hi105_0 hl105_0
        replace p105:=eq_true p105
        replace q105:=eq_true q105
        go_wp2_with (first|((with_reducible refine gate_callee (f:=11) rfl ?_);refine goesL_ (some 15) rfl rfl Tryz.func11 (by kernel_rfl) rfl #[.slice A105_0 (rd_L4 l0 x10_1).length c105_0] rfl (by (try simp only [List.map_toArray,List.map_cons,List.map_nil]);first|done|rfl|(simp only [List.length_drop,List.length_take];rfl)) ?_;(with_reducible refine (laws_zzFits11.calls k1 _ _ (rd_L4 l0 x10_1) false _ ?side1 ?side2 A6.out).mono ?_);(case side1=>repeat (first|exact (Kd.C_below HR105_0.out HB.out)|(with_reducible refine Kd.C_alloc ?_ _)|(with_reducible refine Kd.C_drewN ?_ _)|(with_reducible refine Kd.C_drew ?_)));(case side2=>exact HC105_0.out);rintro e w9 ⟨rfl,hb⟩;refine ⟨_,rfl,?_⟩;have n0_:=am (below_step (by repeat (first|(with_reducible first|exact HB.out|apply below_alloc|apply pw_below_drewN|apply below_drew1)|exact HB.out)) hb);clear HB;have HB:=n0_;clear n0_;(try clear hb);(try clear hb2);(try clear hk);(try clear hi)))
        go_ret
        exact ⟨by first|rfl|(simp [errW_none,errW_some] <;> rfl)|(simp [*,errW_none,errW_some] <;> rfl),by repeat (first|(with_reducible first|exact HB.out|apply below_alloc|apply pw_below_drewN|apply below_drew1)|exact HB.out)⟩
      ·rw [if_neg c5] at H
       exact absurd H (by simp)
     ·rw [if_neg c4] at H
      exact absurd H (by simp)
    ·rw [if_neg c3] at H
     have c3b0:decide (x10_1 < (l0.length:Int))=false:=decide_eq_false c3
     clear c3
     obtain rfl:=Option.some.inj H
     go_wp2
     go_ret
     exact ⟨by first|rfl|(simp [errW_none,errW_some] <;> rfl)|(simp [*,errW_none,errW_some] <;> rfl),by repeat (first|(with_reducible first|exact HB.out|apply below_alloc|apply pw_below_drewN|apply below_drew1)|exact HB.out)⟩
end Go.Proofs.YtbheflncgmhadaaGreat.PzzFits10
