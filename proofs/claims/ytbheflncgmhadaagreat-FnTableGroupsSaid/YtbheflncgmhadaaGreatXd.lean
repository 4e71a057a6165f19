/- Leaf functions: guarded, replacing of bytes. Conditions: those in each statement. -/
import Derived.Test.YtbheflncgmhadaaGreatXa
import Derived.Defers
import Derived.Recover
import Derived.Lib.ConvBytes
import Derived.Lib.OthersKept
import Derived.Lib.FieldsU
import Derived.WalkKit
import Derived.Test.YtbheflncgmhadaaGreatProg
import Derived.Below
import Derived.Deep.Draws
import Derived.Deep.AppendLies
import Derived.Maps.AppendAt
import Derived.OwnWalk
import Derived.Laws.BytesArg
import Derived.Laws.MakeOwn
import Derived.Laws.OwnMore
import Derived.Deep.OwnRows
import Derived.Tactics
import Derived.Laws.Slices
import Derived.KernelRfl
import Derived.RowKit3
import Derived.Deep.LoopGhost
import Derived.Deep.QuietTactic
import Derived.BigQuiet
import Derived.WideLaws
import Derived.Deep.DeepCutAuto
import Derived.Deep.CutBlock
import Derived.Deep.RegionHeld3
import Derived.Laws.Rows
import Derived.Lib.AppendStr
import Derived.ArgAppend
import Derived.Laws.IdiomCopy
import Derived.OrdersHeld
import Derived.Laws.BitsLemmas
import Derived.RowKit
import Derived.Shelf.LaysM
import Derived.Shelf.Lays7
import Derived.Shelf.Bytes.GrowSlice
import Derived.Shelf.Small.Bits
import Derived.Shelf.Strings.Repeat
import Derived.Shelf.Spec.RuneCount
set_option linter.unusedVariables false
set_option linter.unusedSimpArgs false
set_option maxHeartbeats 40000000
set_option maxRecDepth 100000
namespace Go.Proofs.YtbheflncgmhadaaGreat.Hand
open Go.RowKit Go.Proofs.YtbheflncgmhadaaGreatW.PrintWords Go.Proofs.YtbheflncgmhadaaGreatW.PrintLast Go.Proofs.YtbheflncgmhadaaGreatW.PrintMore
def bytesI (bs:List UInt8):List Int:=bs.map fun c=>(c.toNat:Int)
theorem bytesI_length (bs:List UInt8):(bytesI bs).length=bs.length:=List.length_map ..
theorem catch_idle (p:Addr) (w:World):
  CallsD Tryz.prog 23 #[.pointer (some p)] .returning w fun e u' w'=>e=.returned (.tuple #[])∧u'=.returning∧w'=w:=by
 refine callsD_of_wpS Tryz.func23 rfl fun c₀ cs hu=>?_
 apply wpS_seq
 apply wpS_region
 simp [wpOpsS,go_sem,recoverD,hu,Tryz.ntmps23,Exit.thenS]
 refine wpS_cond (t:=false) (by simp [Act.eval,Array.replicate]) ?_
 simp only [Bool.false_eq_true,if_false]
 refine wpS_of_wp (wp_skip ?_)
 cases c₀
 simp_all [bodyPostS,results,Tryz.results23]
theorem guarded_calls (g:FuncId) (first cap:Array Value) (w:World) (R:World→Prop) (hg:(callFunc g (first++cap)).run Tryz.prog (w.alloc (.cells #[.bool false] 4))=.ok (.enter g (first++cap)) (w.alloc (.cells #[.bool false] 4)))
  (h:Calls Tryz.prog g (first++cap) (w.alloc (.cells #[.bool false] 4)) (fun e w'=>(∃ x,e=.returned x)∧w'.heap[w.heap.size]?=some (.cells #[.bool false] 4 (0,0))∧R w')):
  Calls Tryz.prog 14 #[.func (.func g) first cap] w fun e w'=>e=.returned (.bool false)∧∃ w2,R w2∧Below w2.heap.size w2 w':=by
 have hmf:∀ (fn:Fn) (first cap:Array Value) (w:World),(Instr.makeFunc fn first cap).run Tryz.prog w=.ok (.func fn first cap) w:=fun _ _ _ _=>rfl
 have H:=am h
 clear h
 go_enter_defers Tryz.func14,Tryz.ntmps14
 go_wp2
 refine H.out.mono ?_
 rintro e w2 ⟨⟨x,rfl⟩,h0,hR⟩
 have hc0:w2.cell? ⟨w.heap.size,0,none⟩=some (.bool false):=by simp [World.cell?,h0]
 have hf0:w2.frozen? ⟨w.heap.size,0,none⟩=false:=by simp [World.frozen?,h0]
 have H0:=am h0
 clear h0
 go_wp2
 have hs:w2.setCell ⟨w.heap.size,0,none⟩ (.bool false)=w2:=by
  rw [setCell_eq_setRow w2 w.heap.size 0 _ _ _ _ H0.out]
  exact setRow_self w2 w.heap.size _ _ _ H0.out
 rw [hs]
 refine leaves_cons (f:=23) (args:=#[.pointer (some ⟨w.heap.size,0,none⟩)]) (by simp) (by simp [go_sem]) ?_
 refine (catch_idle ⟨w.heap.size,0,none⟩ _).mono ?_
 rintro e u' w'' ⟨rfl,rfl,rfl⟩
 have hB:∃ w2',R w2'∧Below w2'.heap.size w2' w'':=⟨w'',hR,Below.refl _ _⟩
 have HB:=am hB
 clear hB hR
 simp [Leaves,settle,results,Tryz.results14,go_sem,hc0]
 exact HB.out
theorem C_mk {w:World} {b o:Nat} {bs:List UInt8} (h63:bs.length≤9223372036854775806) (h:∀ j (hj:j < bs.length),w.cell? ⟨b,o+j,none⟩=some (.int .u8 (bs[j].toNat:Int))):
  Kd.C (Kd.int .u8) w (some ⟨b,o,none⟩) (bytesI bs).length (bytesI bs):=by
 refine ⟨rfl,by rw [bytesI_length];omega,fun _=>⟨_,rfl,fun j p hp=>?_⟩⟩
 have hj:j < bs.length:=by
  have:=(List.getElem?_eq_some_iff.1 hp).1
  rw [bytesI_length] at this;exact this
 have hv:p=(bs[j].toNat:Int):=by
  simp [bytesI,hj] at hp
  exact hp.symm
 refine ⟨[.int .u8 p],rfl,rfl,fun i u hi=>?_⟩
 cases i with
 |zero=>
  simp at hi
  subst hi
  change w.cell? ((⟨b,o,none⟩:Addr).add (j * 1+0))=_
  rw [Addr.add_lit,Nat.mul_one,Nat.add_zero,h j hj,hv]
 |succ i=>simp at hi
theorem bytes_C (w:World) (s:ByteArray) (h63:s.size≤9223372036854775806):Kd.C (Kd.int .u8) (Lib.bytesWorld w 5 s) (some ⟨w.heap.size,0,none⟩) (bytesI s.data.toList).length (bytesI s.data.toList):=by
 have hl:s.data.toList.length=s.size:=by rw [Array.length_toList];rfl
 refine C_mk (by rw [hl];exact h63) fun j hj=>?_
 rw [Nat.zero_add,Lib.bytesWorld_cell w 5 s j (by omega)]
 congr 3
 rw [List.getD_eq_getElem?_getD,List.getElem?_eq_getElem hj];rfl
theorem bytesWorld_below (w:World) (s:ByteArray):Below w.heap.size w (Lib.bytesWorld w 5 s):=by
 exact ⟨rfl,rfl,rfl,by rw [Lib.bytesWorld_size];omega,fun k hk=>Lib.bytesWorld_at_old w 5 s k hk⟩
theorem info5:(Tryz.prog.info? 5).map (fun i=>(i.zero,i.size,i.bytes))=some (some (.int .u8 0),1,1):=by kernel_rfl
end Go.Proofs.YtbheflncgmhadaaGreat.Hand
namespace Go.Proofs.YtbheflncgmhadaaGreat.PTrimUnnecessaryHardLineBreaks
open Go.RowKit Go.Proofs.YtbheflncgmhadaaGreatW.PrintWords Go.Proofs.YtbheflncgmhadaaGreatW.PrintLast Go.Proofs.YtbheflncgmhadaaGreatW.PrintMore
theorem info5:(Tryz.prog.info? 5).map (fun i=>(i.zero,i.size,i.bytes))=some (some (.int .u8 0),1,1):=by kernel_rfl
def textutils_zzReplaceAll.l0:Nat→List Int→ByteArray→ByteArray→List Int→Int→Option (List Int)
 |0,_,_,_,_,_=>none
 |k+1,x0,x1,x2,x7,x8=>if x8 < (x0.length:Int) then (if (wrap64 (x8+(x1.size:Int)))≤(x0.length:Int) then (if 0≤x8 then (if x8≤(wrap64 (x8+(x1.size:Int))) then (if (strOfNums ((x0.take ((wrap64 (x8+(x1.size:Int))):Int).toNat).drop (x8:Int).toNat)).toList=x1.toList then (if x7.length+x2.size < 140737488355328 then (textutils_zzReplaceAll.l0 k x0 x1 x2 (x7++bytesOf x2) (wrap64 (x8+(x1.size:Int)))) else (none)) else (if x7.length < 140737488355328 then (textutils_zzReplaceAll.l0 k x0 x1 x2 (x7++[rd x0 x8]) (wrap64 (x8+1))) else (none))) else (none)) else (none)) else (if 0≤x8 then (if x7.length < 140737488355328 then (textutils_zzReplaceAll.l0 k x0 x1 x2 (x7++[rd x0 x8]) (wrap64 (x8+1))) else (none)) else (none))) else (some x7)
def textutils_zzReplaceAll.f (k:Nat) (l0:List Int) (a1:ByteArray) (a2:ByteArray):Option (List Int):=textutils_zzReplaceAll.l0 k l0 a1 a2 ([]:List Int) 0
theorem textutils_zzReplaceAll.calls (k:Nat) (A0:Option Addr) (c0:Nat) (l0:List Int) (a1:ByteArray) (a2:ByteArray) (r:List Int) (w:World) (hr0:Kd.C (Kd.int .u8) w A0 l0.length l0) (hc0:l0.length≤c0) (h:textutils_zzReplaceAll.f k l0 a1 a2=some r):
  Calls Tryz.prog 164 #[.slice A0 l0.length c0,.string a1,.string a2] w fun e w'=>∃ v0_:Value,e=.returned (v0_)∧Kd.R (Kd.int .u8) 5 w' w.heap.size (fun _=>True) v0_ r∧Below w.heap.size w w':=by
 have HR0:=am hr0
 have HC0:=am hc0
 clear hr0 hc0
 have HB:=am (Below.refl w.heap.size w)
 have H:(textutils_zzReplaceAll.l0 k l0 a1 a2 ([]:List Int) 0)=some r:=h
 clear h
 have H':=am H
 clear H
 go_enter Tryz.func164,Tryz.ntmps164
 go_wp2
 go_loopg [7,8] k (fun kq v7 v8 w'=>∃ (x7_1:List Int) (x8_1:Int),v8=.int .i64 x8_1∧Aside0 (textutils_zzReplaceAll.l0 kq l0 a1 a2 x7_1 x8_1=some r)∧Aside0 (kq≤k)∧Aside0 (Kd.R (Kd.int .u8) 5 w' w.heap.size (fun _=>True) v7 x7_1)∧Aside0 (Below w.heap.size w w'))
 case atStart=>exact ⟨(([]:List Int)),(0),(by first|rfl|(simp;done)|(simp [*];done)),H',⟨Nat.le_refl _⟩,⟨by first|exact Kd.R_nil _ _ _ _ _|exact Kd.N_nil _ _ _ _ _|exact Kd.V_nil _ _ _ _ _|exact Kd.Q_nil _ _ _ _ _|exact Kd.S_nil _ _ _ _ _⟩,⟨by repeat (first|(with_reducible first|exact HB.out|apply below_alloc|apply pw_below_drewN|apply below_drew1)|exact HB.out)⟩⟩
 case round=>
  clear H'
  try clear c1
  try clear p2
  obtain ⟨x7_1,x8_1,rfl,HA,HK1,HO_7,HB⟩:=hrel
  cases gk with
  |zero=>exact absurd HA.out (by simp [textutils_zzReplaceAll.l0])
  |succ k1=>
   have H:=HA.out
   clear HA
   simp only [textutils_zzReplaceAll.l0] at H
   by_cases c4:x8_1 < (l0.length:Int)
   ·rw [if_pos c4] at H
    have c4b0:decide (x8_1 < (l0.length:Int))=true:=decide_eq_true c4
    clear c4
    by_cases c5:(wrap64 (x8_1+(a1.size:Int)))≤(l0.length:Int)
    ·rw [if_pos c5] at H
     have c5b0:decide ((wrap64 (x8_1+(a1.size:Int)))≤(l0.length:Int))=true:=decide_eq_true c5
     clear c5
     by_cases c6:0≤x8_1
     ·rw [if_pos c6] at H
      have c6b0:=eq_true c6
      have c6b1:decide (0≤x8_1)=true:=decide_eq_true c6
      clear c6
      by_cases c7:x8_1≤(wrap64 (x8_1+(a1.size:Int)))
      ·rw [if_pos c7] at H
       have c7b0:=eq_true c7
       have c7b1:decide (x8_1≤(wrap64 (x8_1+(a1.size:Int))))=true:=decide_eq_true c7
       have c8b0:=eq_true (of_decide_eq_true (by first|(with_reducible assumption)|assumption):(wrap64 (x8_1+(a1.size:Int)))≤(l0.length:Int))
       by_cases c9:(strOfNums ((l0.take ((wrap64 (x8_1+(a1.size:Int))):Int).toNat).drop (x8_1:Int).toNat)).toList=a1.toList
       ·rw [if_pos c9] at H
        have c9b0:((strOfNums ((l0.take ((wrap64 (x8_1+(a1.size:Int))):Int).toNat).drop (x8_1:Int).toNat)).toList==a1.toList)=true:=beq_iff_eq.mpr c9
        have c9b1:((strOfNums ((l0.take ((wrap64 (x8_1+(a1.size:Int))):Int).toNat).drop (x8_1:Int).toNat)).toList != a1.toList)=false:=bne_eq_false_iff_eq.mpr c9
        clear c9
        by_cases c10:x7_1.length+a2.size < 140737488355328
        ·rw [if_pos c10] at H
         have LMc10:=am c10
         clear c10
         obtain ⟨y102,hy102⟩:∃ y_:List Int,y_=(x7_1++bytesOf a2):=⟨_,rfl⟩
         replace H:(textutils_zzReplaceAll.l0 k1 l0 a1 a2 y102 (wrap64 (x8_1+(a1.size:Int))))=some r:=by first|(rw [hy102];with_reducible exact H)|(have H2_:=(Option.bind_some _ _).symm.trans H;rw [hy102];with_reducible exact H2_)|(have H2_:=(Option.bind_some _ _).symm.trans H;with_reducible exact H2_)|with_reducible exact H|(rw [hy102];exact H)|exact H
         have Ny102:=am hy102
         clear hy102
         have H':=am H
         clear H
         obtain ⟨i011,hi011,_,hsz11,_⟩:=info_parts info5
         obtain ⟨A11,hcut11,hA11,hC11⟩:=print_mid_of (P:=Tryz.prog) (Value.int .u8) 0 62 5 .i64 .i64 Tryz.underlying62 hi011 hsz11 A0 c0 l0 x8_1 (wrap64 (x8_1+(a1.size:Int))) (of_decide_eq_true (by first|(with_reducible assumption)|assumption)) (by first|omega|exact of_decide_eq_true (by first|(with_reducible assumption)|assumption)) (of_decide_eq_true (by first|(with_reducible assumption)|assumption)) HC0.out
         have HR101:=am (Kd.C_of_reads (h1:=fun _=>rfl) (hA11 _ (Kd.reads_of_C HR0.out)))
         have HC101:=am hC11
         clear hA11 hC11 hi011 hsz11
         have hcv12:=Kd.C_string (P:=Tryz.prog) (A:=A11) (c:=(c0 - x8_1.toNat)) Tryz.underlying62 Tryz.underlying5 Tryz.underlying9 (Kd.C_below HR101.out HB.out)
         have hln1:((l0.take ((wrap64 (x8_1+(a1.size:Int))):Int).toNat).drop (x8_1:Int).toNat).length=(wrap64 (x8_1+(a1.size:Int))).toNat - (x8_1:Int).toNat:=by
          have h8:=of_eq_true c8b0
          rw [List.length_drop,List.length_take]
          omega
         rw [hln1] at hcv12
         clear hln1
         go_wp2_with (first|(at_builtin;refine print_append_str (w0:=w) w.heap.size rfl (.tmp 32) _ 62 9 5 rfl Tryz.underlying62 Tryz.underlying9 info5 u7 x7_1 a2 rfl rfl ?aO ?aB ?aS ?aL ?_;(case aB=>exact (by repeat (first|(with_reducible first|exact HB.out|apply below_alloc|apply pw_below_drewN|apply below_drew1)|exact HB.out)));(case aO=>exact (Kd.own_of_R (by (with_reducible repeat (first|apply Kd.R_alloc|apply Kd.R_drewN|apply Kd.R_drew));exact HO_7.out)));(case aS=>exact (below_size (by repeat (first|(with_reducible first|exact HB.out|apply below_alloc|apply pw_below_drewN|apply below_drew1)|exact HB.out))));(case aL=>have:=LMc10.out;omega);intro v103 w13 ho0 hb hg;have ho:=Kd.R_of_own (h1:=fun _=>rfl) (ok:=fun _=>True) ho0 (fun _ _=>trivial);clear ho0;have hat:=True.intro;rw [← Ny102.out] at ho;change Kd.R (Kd.int .u8) 5 w13 w.heap.size (fun _=>True) v103 y102 at ho;have n0_:=am (hb);have n1_:=am (ho);clear HB;clear HO_7;have HB:=n0_;have HO104:=n1_;clear n0_ n1_;clear ho hb hg hat))
         go_roundg k1
         case measure=>have:=HK1.out;omega
         case rel=>exact ⟨(y102),(wrap64 (x8_1+(a1.size:Int))),(by first|rfl|(simp;done)|(simp [*];done)),H',⟨by have:=HK1.out;omega⟩,⟨by (with_reducible repeat (first|apply Kd.R_alloc|apply Kd.R_drewN|apply Kd.R_drew));exact HO104.out⟩,⟨by repeat (first|(with_reducible first|exact HB.out|apply below_alloc|apply pw_below_drewN|apply below_drew1)|exact HB.out)⟩⟩
        ·rw [if_neg c10] at H
         exact absurd H (by simp)
       ·rw [if_neg c9] at H
        have c9b0:((strOfNums ((l0.take ((wrap64 (x8_1+(a1.size:Int))):Int).toNat).drop (x8_1:Int).toNat)).toList==a1.toList)=false:=beq_eq_false_iff_ne.mpr c9
        have c9b1:((strOfNums ((l0.take ((wrap64 (x8_1+(a1.size:Int))):Int).toNat).drop (x8_1:Int).toNat)).toList != a1.toList)=true:=bne_iff_ne.mpr c9
        by_cases c14:x7_1.length < 140737488355328
        ·rw [if_pos c14] at H
         have LMc14:=am c14
         clear c14
         obtain ⟨y106,hy106⟩:∃ y_:List Int,y_=(x7_1++[rd l0 x8_1]):=⟨_,rfl⟩
         replace H:(textutils_zzReplaceAll.l0 k1 l0 a1 a2 y106 (wrap64 (x8_1+1)))=some r:=by first|(rw [hy106];with_reducible exact H)|(have H2_:=(Option.bind_some _ _).symm.trans H;rw [hy106];with_reducible exact H2_)|(have H2_:=(Option.bind_some _ _).symm.trans H;with_reducible exact H2_)|with_reducible exact H|(rw [hy106];exact H)|exact H
         have Ny106:=am hy106
         clear hy106
         have H':=am H
         clear H
         obtain ⟨i015,hi015,_,hsz15,_⟩:=info_parts info5
         obtain ⟨A15,hcut15,hA15,hC15⟩:=print_mid_of (P:=Tryz.prog) (Value.int .u8) 0 62 5 .i64 .i64 Tryz.underlying62 hi015 hsz15 A0 c0 l0 x8_1 (wrap64 (x8_1+(a1.size:Int))) (of_decide_eq_true (by first|(with_reducible assumption)|assumption)) (by first|omega|exact of_decide_eq_true (by first|(with_reducible assumption)|assumption)) (of_decide_eq_true (by first|(with_reducible assumption)|assumption)) HC0.out
         have HR101:=am (Kd.C_of_reads (h1:=fun _=>rfl) (hA15 _ (Kd.reads_of_C HR0.out)))
         have HC101:=am hC15
         clear hA15 hC15 hi015 hsz15
         have hcv16:=Kd.C_string (P:=Tryz.prog) (A:=A15) (c:=(c0 - x8_1.toNat)) Tryz.underlying62 Tryz.underlying5 Tryz.underlying9 (Kd.C_below HR101.out HB.out)
         have hln2:((l0.take ((wrap64 (x8_1+(a1.size:Int))):Int).toNat).drop (x8_1:Int).toNat).length=(wrap64 (x8_1+(a1.size:Int))).toNat - (x8_1:Int).toNat:=by
          have h8:=of_eq_true c8b0
          rw [List.length_drop,List.length_take]
          omega
         rw [hln2] at hcv16
         clear hln2
         have p105:0≤(x8_1:Int):=of_decide_eq_true (by first|(with_reducible assumption)|assumption)
         have q105:x8_1 < (l0.length:Int):=of_decide_eq_true (by first|(with_reducible assumption)|assumption)
         obtain ⟨ad105,e105,hx105_0⟩:=Kd.at_int HR0.out x8_1 p105 q105
         cases e105
         replace hx105_0:=(HB.out.cell (World.block_lt_of_cell? w _ hx105_0)).trans hx105_0
         replace p105:=eq_true p105
         replace q105:=eq_true q105
         go_wp2_with (first|((with_reducible refine gate_builtin (b:=.append) (xs:=#[.tmp 39,.tmp 44]) rfl ?_);(try (refine gate_guard (by rfl) ?_;dsimp only));at_builtin;refine Kd.R_append (Kd.int .u8) (w0:=w) w.heap.size rfl (.tmp 39) (.tmp 44) 62 5 (.int .u8 0) 1 rfl Tryz.underlying62 info5 rfl (by decide) (by omega) u7 x7_1 (rd l0 x8_1) [.int .u8 (rd l0 x8_1)] (fun _=>True) (fun _=>False) rfl rfl ?aP (fun _ hk=>hk.elim) ?aF ?aO ?aB ?aS ?aL ?_;(case aP=>exact rfl);(case aB=>exact (by repeat (first|(with_reducible first|exact HB.out|apply below_alloc|apply pw_below_drewN|apply below_drew1)|exact HB.out)));(case aF=>exact (fun _ _=>trivial));(case aO=>exact (by (with_reducible repeat (first|apply Kd.R_alloc|apply Kd.R_drewN|apply Kd.R_drew));exact HO_7.out));(case aS=>exact (below_size (by repeat (first|(with_reducible first|exact HB.out|apply below_alloc|apply pw_below_drewN|apply below_drew1)|exact HB.out))));(case aL=>have:=LMc14.out;omega);intro v107 w17 ho hb hg hat;rw [← Ny106.out] at ho;have n0_:=am (hb);have n1_:=am (ho);clear HB;clear HO_7;have HB:=n0_;have HO108:=n1_;clear n0_ n1_;clear ho hb hg hat))
         go_roundg k1
         case measure=>have:=HK1.out;omega
         case rel=>exact ⟨(y106),(wrap64 (x8_1+1)),(by first|rfl|(simp;done)|(simp [*];done)),H',⟨by have:=HK1.out;omega⟩,⟨by (with_reducible repeat (first|apply Kd.R_alloc|apply Kd.R_drewN|apply Kd.R_drew));exact HO108.out⟩,⟨by repeat (first|(with_reducible first|exact HB.out|apply below_alloc|apply pw_below_drewN|apply below_drew1)|exact HB.out)⟩⟩
        ·rw [if_neg c14] at H
         exact absurd H (by simp)
      ·rw [if_neg c7] at H
       exact absurd H (by simp)
     ·rw [if_neg c6] at H
      exact absurd H (by simp)
    ·rw [if_neg c5] at H
     have c5b0:decide ((wrap64 (x8_1+(a1.size:Int)))≤(l0.length:Int))=false:=decide_eq_false c5
     clear c5
     by_cases c18:0≤x8_1
     ·rw [if_pos c18] at H
      have c18b0:decide (0≤x8_1)=true:=decide_eq_true c18
      clear c18
      by_cases c19:x7_1.length < 140737488355328
      ·rw [if_pos c19] at H
       have LMc19:=am c19
       clear c19
       obtain ⟨y110,hy110⟩:∃ y_:List Int,y_=(x7_1++[rd l0 x8_1]):=⟨_,rfl⟩
       replace H:(textutils_zzReplaceAll.l0 k1 l0 a1 a2 y110 (wrap64 (x8_1+1)))=some r:=by first|(rw [hy110];with_reducible exact H)|(have H2_:=(Option.bind_some _ _).symm.trans H;rw [hy110];with_reducible exact H2_)|(have H2_:=(Option.bind_some _ _).symm.trans H;with_reducible exact H2_)|with_reducible exact H|(rw [hy110];exact H)|exact H
       have Ny110:=am hy110
       clear hy110
       have H':=am H
       clear H
       have p109:0≤(x8_1:Int):=of_decide_eq_true (by first|(with_reducible assumption)|assumption)
       have q109:x8_1 < (l0.length:Int):=of_decide_eq_true (by first|(with_reducible assumption)|assumption)
       obtain ⟨ad109,e109,hx109_0⟩:=Kd.at_int HR0.out x8_1 p109 q109
       cases e109
       replace hx109_0:=(HB.out.cell (World.block_lt_of_cell? w _ hx109_0)).trans hx109_0
       replace p109:=eq_true p109
       replace q109:=eq_true q109
       go_wp2_with (first|((with_reducible refine gate_builtin (b:=.append) (xs:=#[.tmp 39,.tmp 44]) rfl ?_);(try (refine gate_guard (by rfl) ?_;dsimp only));at_builtin;refine Kd.R_append (Kd.int .u8) (w0:=w) w.heap.size rfl (.tmp 39) (.tmp 44) 62 5 (.int .u8 0) 1 rfl Tryz.underlying62 info5 rfl (by decide) (by omega) u7 x7_1 (rd l0 x8_1) [.int .u8 (rd l0 x8_1)] (fun _=>True) (fun _=>False) rfl rfl ?aP (fun _ hk=>hk.elim) ?aF ?aO ?aB ?aS ?aL ?_;(case aP=>exact rfl);(case aB=>exact (by repeat (first|(with_reducible first|exact HB.out|apply below_alloc|apply pw_below_drewN|apply below_drew1)|exact HB.out)));(case aF=>exact (fun _ _=>trivial));(case aO=>exact (by (with_reducible repeat (first|apply Kd.R_alloc|apply Kd.R_drewN|apply Kd.R_drew));exact HO_7.out));(case aS=>exact (below_size (by repeat (first|(with_reducible first|exact HB.out|apply below_alloc|apply pw_below_drewN|apply below_drew1)|exact HB.out))));(case aL=>have:=LMc19.out;omega);intro v111 w20 ho hb hg hat;rw [← Ny110.out] at ho;have n0_:=am (hb);have n1_:=am (ho);clear HB;clear HO_7;have HB:=n0_;have HO112:=n1_;clear n0_ n1_;clear ho hb hg hat))
       go_roundg k1
       case measure=>have:=HK1.out;omega
       case rel=>exact ⟨(y110),(wrap64 (x8_1+1)),(by first|rfl|(simp;done)|(simp [*];done)),H',⟨by have:=HK1.out;omega⟩,⟨by (with_reducible repeat (first|apply Kd.R_alloc|apply Kd.R_drewN|apply Kd.R_drew));exact HO112.out⟩,⟨by repeat (first|(with_reducible first|exact HB.out|apply below_alloc|apply pw_below_drewN|apply below_drew1)|exact HB.out)⟩⟩
      ·rw [if_neg c19] at H
       exact absurd H (by simp)
     ·rw [if_neg c18] at H
      exact absurd H (by simp)
   ·rw [if_neg c4] at H
    have c4b0:decide (x8_1 < (l0.length:Int))=false:=decide_eq_false c4
    clear c4
    obtain rfl:=Option.some.inj H
    go_wp2
    go_ret
    exact ⟨_,by first|rfl|(simp [errW_none,errW_some] <;> rfl)|(simp [*,errW_none,errW_some] <;> rfl),by (with_reducible repeat (first|apply Kd.R_alloc|apply Kd.R_drewN|apply Kd.R_drew));exact HO_7.out,by repeat (first|(with_reducible first|exact HB.out|apply below_alloc|apply pw_below_drewN|apply below_drew1)|exact HB.out)⟩
def textutils_TrimUnnecessaryHardLineBreaks.f (k:Nat) (l0:List Int):Option (List Int):=(textutils_zzReplaceAll.f k l0 (⟨#[32,32,10,10]⟩:ByteArray) (⟨#[10,10]⟩:ByteArray)).bind fun t113=>((textutils_zzReplaceAll.f k t113 (⟨#[32,32,10,32,32,10]⟩:ByteArray) (⟨#[10,10]⟩:ByteArray)).bind fun t116=>((textutils_zzReplaceAll.f k t116 (⟨#[32,32,10,32,10]⟩:ByteArray) (⟨#[10,10]⟩:ByteArray)).bind fun t119=>(some t119)))
theorem textutils_TrimUnnecessaryHardLineBreaks.calls (k:Nat) (A0:Option Addr) (c0:Nat) (l0:List Int) (r:List Int) (w:World) (hr0:Kd.C (Kd.int .u8) w A0 l0.length l0) (hc0:l0.length≤c0) (h:textutils_TrimUnnecessaryHardLineBreaks.f k l0=some r):
  Calls Tryz.prog 153 #[.slice A0 l0.length c0] w fun e w'=>∃ v0_:Value,e=.returned (v0_)∧Kd.R (Kd.int .u8) 5 w' w.heap.size (fun _=>True) v0_ r∧Below w.heap.size w w':=by
 have HR0:=am hr0
 have HC0:=am hc0
 clear hr0 hc0
 have HB:=am (Below.refl w.heap.size w)
 have H:((textutils_zzReplaceAll.f k l0 (⟨#[32,32,10,10]⟩:ByteArray) (⟨#[10,10]⟩:ByteArray)).bind fun t113=>((textutils_zzReplaceAll.f k t113 (⟨#[32,32,10,32,32,10]⟩:ByteArray) (⟨#[10,10]⟩:ByteArray)).bind fun t116=>((textutils_zzReplaceAll.f k t116 (⟨#[32,32,10,32,10]⟩:ByteArray) (⟨#[10,10]⟩:ByteArray)).bind fun t119=>(some t119))))=some r:=h
 clear h
 replace H:=Option.bind_eq_some_iff.mp H
 obtain ⟨t113,A20,H⟩:=H
 replace H:((textutils_zzReplaceAll.f k t113 (⟨#[32,32,10,32,32,10]⟩:ByteArray) (⟨#[10,10]⟩:ByteArray)).bind fun t116=>((textutils_zzReplaceAll.f k t116 (⟨#[32,32,10,32,10]⟩:ByteArray) (⟨#[10,10]⟩:ByteArray)).bind fun t119=>(some t119)))=some r:=H
 have A2:=am A20
 clear A20
 replace H:=Option.bind_eq_some_iff.mp H
 obtain ⟨t116,A30,H⟩:=H
 replace H:((textutils_zzReplaceAll.f k t116 (⟨#[32,32,10,32,10]⟩:ByteArray) (⟨#[10,10]⟩:ByteArray)).bind fun t119=>(some t119))=some r:=H
 have A3:=am A30
 clear A30
 replace H:=Option.bind_eq_some_iff.mp H
 obtain ⟨t119,A40,H⟩:=H
 replace H:(some t119)=some r:=H
 have A4:=am A40
 clear A40
 obtain rfl:=Option.some.inj H
 go_enter Tryz.func153,Tryz.ntmps153
 go_wp2_with (first|((with_reducible refine gate_callee (f:=164) rfl ?_);refine goesL_ (some 4) rfl rfl Tryz.func164 (by kernel_rfl) rfl #[.slice A0 l0.length c0,.string (⟨#[32,32,10,10]⟩:ByteArray),.string (⟨#[10,10]⟩:ByteArray)] rfl (by (try simp only [List.map_toArray,List.map_cons,List.map_nil]);first|done|rfl|(simp only [List.length_drop,List.length_take];rfl)) ?_;(with_reducible refine (textutils_zzReplaceAll.calls k _ _ l0 (⟨#[32,32,10,10]⟩:ByteArray) (⟨#[10,10]⟩:ByteArray) t113 _ ?side1 ?side2 A2.out).mono ?_);(case side1=>repeat (first|exact HR0.out|(with_reducible refine Kd.C_alloc ?_ _)|(with_reducible refine Kd.C_drewN ?_ _)|(with_reducible refine Kd.C_drew ?_)));(case side2=>exact HC0.out);rintro e w5 ⟨v114,rfl,ho0,hb⟩;refine ⟨_,rfl,?_⟩;have n0_:=am (Kd.R_lower ho0 (below_size (by repeat (first|(with_reducible first|exact HB.out|apply below_alloc|apply pw_below_drewN|apply below_drew1)|exact HB.out))));have n1_:=am (below_step (by repeat (first|(with_reducible first|exact HB.out|apply below_alloc|apply pw_below_drewN|apply below_drew1)|exact HB.out)) hb);clear HB;have HO115:=n0_;have HB:=n1_;clear n0_ n1_;(try clear hb);(try clear hb2);(try clear hk);(try clear hi);(try clear ho0);obtain ⟨Ao6,co6,eo6⟩:=Kd.R_slice HO115.out;subst eo6)|((with_reducible refine gate_callee (f:=164) rfl ?_);refine goesL_ (some 6) rfl rfl Tryz.func164 (by kernel_rfl) rfl #[.slice Ao6 t113.length co6,.string (⟨#[32,32,10,32,32,10]⟩:ByteArray),.string (⟨#[10,10]⟩:ByteArray)] rfl (by (try simp only [List.map_toArray,List.map_cons,List.map_nil]);first|done|rfl|(simp only [List.length_drop,List.length_take];rfl)) ?_;(with_reducible refine (textutils_zzReplaceAll.calls k _ _ t113 (⟨#[32,32,10,32,32,10]⟩:ByteArray) (⟨#[10,10]⟩:ByteArray) t116 _ ?side1 ?side2 A3.out).mono ?_);(case side1=>repeat (first|exact (Kd.R_reads' HO115.out).2.2|(with_reducible refine Kd.C_alloc ?_ _)|(with_reducible refine Kd.C_drewN ?_ _)|(with_reducible refine Kd.C_drew ?_)));(case side2=>exact (Kd.R_reads' HO115.out).2.1);rintro e w7 ⟨v117,rfl,ho0,hb⟩;refine ⟨_,rfl,?_⟩;have n0_:=am (Kd.R_elder' (by (with_reducible repeat (first|apply Kd.R_alloc|apply Kd.R_drewN|apply Kd.R_drew));exact HO115.out) (Kd.R_base ho0) hb);have n1_:=am (Kd.R_lower (Kd.R_new' ho0 (Kd.R_lt (by (with_reducible repeat (first|apply Kd.R_alloc|apply Kd.R_drewN|apply Kd.R_drew));exact HO115.out))) (below_size (by repeat (first|(with_reducible first|exact HB.out|apply below_alloc|apply pw_below_drewN|apply below_drew1)|exact HB.out))));have n2_:=am (below_step (by repeat (first|(with_reducible first|exact HB.out|apply below_alloc|apply pw_below_drewN|apply below_drew1)|exact HB.out)) hb);clear HO115;clear HB;have HO115:=n0_;have HO118:=n1_;have HB:=n2_;clear n0_ n1_ n2_;(try clear hb);(try clear hb2);(try clear hk);(try clear hi);(try clear ho0);obtain ⟨Ao8,co8,eo8⟩:=Kd.R_slice HO118.out;subst eo8)|((with_reducible refine gate_callee (f:=164) rfl ?_);refine goesL_ (some 8) rfl rfl Tryz.func164 (by kernel_rfl) rfl #[.slice Ao8 t116.length co8,.string (⟨#[32,32,10,32,10]⟩:ByteArray),.string (⟨#[10,10]⟩:ByteArray)] rfl (by (try simp only [List.map_toArray,List.map_cons,List.map_nil]);first|done|rfl|(simp only [List.length_drop,List.length_take];rfl)) ?_;(with_reducible refine (textutils_zzReplaceAll.calls k _ _ t116 (⟨#[32,32,10,32,10]⟩:ByteArray) (⟨#[10,10]⟩:ByteArray) t119 _ ?side1 ?side2 A4.out).mono ?_);(case side1=>repeat (first|exact (Kd.R_reads' HO118.out).2.2|(with_reducible refine Kd.C_alloc ?_ _)|(with_reducible refine Kd.C_drewN ?_ _)|(with_reducible refine Kd.C_drew ?_)));(case side2=>exact (Kd.R_reads' HO118.out).2.1);rintro e w9 ⟨v120,rfl,ho0,hb⟩;refine ⟨_,rfl,?_⟩;have n0_:=am (Kd.R_elder' (by (with_reducible repeat (first|apply Kd.R_alloc|apply Kd.R_drewN|apply Kd.R_drew));exact HO115.out) (Kd.R_base ho0) hb);have n1_:=am (Kd.R_elder' (by (with_reducible repeat (first|apply Kd.R_alloc|apply Kd.R_drewN|apply Kd.R_drew));exact HO118.out) (Kd.R_base ho0) hb);have n2_:=am (Kd.R_lower (Kd.R_new' (Kd.R_new' ho0 (Kd.R_lt (by (with_reducible repeat (first|apply Kd.R_alloc|apply Kd.R_drewN|apply Kd.R_drew));exact HO115.out))) (Kd.R_lt (by (with_reducible repeat (first|apply Kd.R_alloc|apply Kd.R_drewN|apply Kd.R_drew));exact HO118.out))) (below_size (by repeat (first|(with_reducible first|exact HB.out|apply below_alloc|apply pw_below_drewN|apply below_drew1)|exact HB.out))));have n3_:=am (below_step (by repeat (first|(with_reducible first|exact HB.out|apply below_alloc|apply pw_below_drewN|apply below_drew1)|exact HB.out)) hb);clear HO115;clear HO118;clear HB;have HO115:=n0_;have HO118:=n1_;have HO121:=n2_;have HB:=n3_;clear n0_ n1_ n2_ n3_;(try clear hb);(try clear hb2);(try clear hk);(try clear hi);(try clear ho0)))
 go_ret
 exact ⟨_,by first|rfl|(simp [errW_none,errW_some] <;> rfl)|(simp [*,errW_none,errW_some] <;> rfl),by (with_reducible repeat (first|apply Kd.R_alloc|apply Kd.R_drewN|apply Kd.R_drew));exact Kd.R_mono HO121.out (fun _ hk=>trivial),by repeat (first|(with_reducible first|exact HB.out|apply below_alloc|apply pw_below_drewN|apply below_drew1)|exact HB.out)⟩
end Go.Proofs.YtbheflncgmhadaaGreat.PTrimUnnecessaryHardLineBreaks
namespace Go.Proofs.YtbheflncgmhadaaGreat.PzzReplaceBytes
open Go.RowKit Go.Proofs.YtbheflncgmhadaaGreatW.PrintWords Go.Proofs.YtbheflncgmhadaaGreatW.PrintLast Go.Proofs.YtbheflncgmhadaaGreatW.PrintMore
theorem info5:(Tryz.prog.info? 5).map (fun i=>(i.zero,i.size,i.bytes))=some (some (.int .u8 0),1,1):=by kernel_rfl
def commonmark_zzReplaceBytes.l0:Nat→List Int→ByteArray→ByteArray→List Int→Int→Option (List Int)
 |0,_,_,_,_,_=>none
 |k+1,x0,x1,x2,x7,x8=>if x8 < (x0.length:Int) then (if (wrap64 (x8+(x1.size:Int)))≤(x0.length:Int) then (if 0≤x8 then (if x8≤(wrap64 (x8+(x1.size:Int))) then (if (strOfNums ((x0.take ((wrap64 (x8+(x1.size:Int))):Int).toNat).drop (x8:Int).toNat)).toList=x1.toList then (if x7.length+x2.size < 140737488355328 then (commonmark_zzReplaceBytes.l0 k x0 x1 x2 (x7++bytesOf x2) (wrap64 (x8+(x1.size:Int)))) else (none)) else (if x7.length < 140737488355328 then (commonmark_zzReplaceBytes.l0 k x0 x1 x2 (x7++[rd x0 x8]) (wrap64 (x8+1))) else (none))) else (none)) else (none)) else (if 0≤x8 then (if x7.length < 140737488355328 then (commonmark_zzReplaceBytes.l0 k x0 x1 x2 (x7++[rd x0 x8]) (wrap64 (x8+1))) else (none)) else (none))) else (some x7)
def commonmark_zzReplaceBytes.f (k:Nat) (l0:List Int) (a1:ByteArray) (a2:ByteArray):Option (List Int):=commonmark_zzReplaceBytes.l0 k l0 a1 a2 ([]:List Int) 0
theorem commonmark_zzReplaceBytes.calls (k:Nat) (A0:Option Addr) (c0:Nat) (l0:List Int) (a1:ByteArray) (a2:ByteArray) (r:List Int) (w:World) (hr0:Kd.C (Kd.int .u8) w A0 l0.length l0) (hc0:l0.length≤c0) (h:commonmark_zzReplaceBytes.f k l0 a1 a2=some r):
  Calls Tryz.prog 249 #[.slice A0 l0.length c0,.string a1,.string a2] w fun e w'=>∃ v0_:Value,e=.returned (v0_)∧Kd.R (Kd.int .u8) 5 w' w.heap.size (fun _=>True) v0_ r∧Below w.heap.size w w':=by
 have HR0:=am hr0
 have HC0:=am hc0
 clear hr0 hc0
 have HB:=am (Below.refl w.heap.size w)
 have H:(commonmark_zzReplaceBytes.l0 k l0 a1 a2 ([]:List Int) 0)=some r:=h
 clear h
 have H':=am H
 clear H
 go_enter Tryz.func249,Tryz.ntmps249
 go_wp2
 go_loopg [7,8] k (fun kq v7 v8 w'=>∃ (x7_1:List Int) (x8_1:Int),v8=.int .i64 x8_1∧Aside0 (commonmark_zzReplaceBytes.l0 kq l0 a1 a2 x7_1 x8_1=some r)∧Aside0 (kq≤k)∧Aside0 (Kd.R (Kd.int .u8) 5 w' w.heap.size (fun _=>True) v7 x7_1)∧Aside0 (Below w.heap.size w w'))
 case atStart=>exact ⟨(([]:List Int)),(0),(by first|rfl|(simp;done)|(simp [*];done)),H',⟨Nat.le_refl _⟩,⟨by first|exact Kd.R_nil _ _ _ _ _|exact Kd.N_nil _ _ _ _ _|exact Kd.V_nil _ _ _ _ _|exact Kd.Q_nil _ _ _ _ _|exact Kd.S_nil _ _ _ _ _⟩,⟨by repeat (first|(with_reducible first|exact HB.out|apply below_alloc|apply pw_below_drewN|apply below_drew1)|exact HB.out)⟩⟩
 case round=>
  clear H'
  try clear c2
  try clear p2
  obtain ⟨x7_1,x8_1,rfl,HA,HK1,HO_7,HB⟩:=hrel
  cases gk with
  |zero=>exact absurd HA.out (by simp [commonmark_zzReplaceBytes.l0])
  |succ k1=>
   have H:=HA.out
   clear HA
   simp only [commonmark_zzReplaceBytes.l0] at H
   by_cases c4:x8_1 < (l0.length:Int)
   ·rw [if_pos c4] at H
    have c4b0:decide (x8_1 < (l0.length:Int))=true:=decide_eq_true c4
    clear c4
    by_cases c5:(wrap64 (x8_1+(a1.size:Int)))≤(l0.length:Int)
    ·rw [if_pos c5] at H
     have c5b0:decide ((wrap64 (x8_1+(a1.size:Int)))≤(l0.length:Int))=true:=decide_eq_true c5
     clear c5
     by_cases c6:0≤x8_1
     ·rw [if_pos c6] at H
      have c6b0:=eq_true c6
      have c6b1:decide (0≤x8_1)=true:=decide_eq_true c6
      clear c6
      by_cases c7:x8_1≤(wrap64 (x8_1+(a1.size:Int)))
      ·rw [if_pos c7] at H
       have c7b0:=eq_true c7
       have c7b1:decide (x8_1≤(wrap64 (x8_1+(a1.size:Int))))=true:=decide_eq_true c7
       have c8b0:=eq_true (of_decide_eq_true (by first|(with_reducible assumption)|assumption):(wrap64 (x8_1+(a1.size:Int)))≤(l0.length:Int))
       by_cases c9:(strOfNums ((l0.take ((wrap64 (x8_1+(a1.size:Int))):Int).toNat).drop (x8_1:Int).toNat)).toList=a1.toList
       ·rw [if_pos c9] at H
        have c9b0:((strOfNums ((l0.take ((wrap64 (x8_1+(a1.size:Int))):Int).toNat).drop (x8_1:Int).toNat)).toList==a1.toList)=true:=beq_iff_eq.mpr c9
        have c9b1:((strOfNums ((l0.take ((wrap64 (x8_1+(a1.size:Int))):Int).toNat).drop (x8_1:Int).toNat)).toList != a1.toList)=false:=bne_eq_false_iff_eq.mpr c9
        clear c9
        by_cases c10:x7_1.length+a2.size < 140737488355328
        ·rw [if_pos c10] at H
         have LMc10:=am c10
         clear c10
         obtain ⟨y102,hy102⟩:∃ y_:List Int,y_=(x7_1++bytesOf a2):=⟨_,rfl⟩
         replace H:(commonmark_zzReplaceBytes.l0 k1 l0 a1 a2 y102 (wrap64 (x8_1+(a1.size:Int))))=some r:=by first|(rw [hy102];with_reducible exact H)|(have H2_:=(Option.bind_some _ _).symm.trans H;rw [hy102];with_reducible exact H2_)|(have H2_:=(Option.bind_some _ _).symm.trans H;with_reducible exact H2_)|with_reducible exact H|(rw [hy102];exact H)|exact H
         have Ny102:=am hy102
         clear hy102
         have H':=am H
         clear H
         obtain ⟨i011,hi011,_,hsz11,_⟩:=info_parts info5
         obtain ⟨A11,hcut11,hA11,hC11⟩:=print_mid_of (P:=Tryz.prog) (Value.int .u8) 0 62 5 .i64 .i64 Tryz.underlying62 hi011 hsz11 A0 c0 l0 x8_1 (wrap64 (x8_1+(a1.size:Int))) (of_decide_eq_true (by first|(with_reducible assumption)|assumption)) (by first|omega|exact of_decide_eq_true (by first|(with_reducible assumption)|assumption)) (of_decide_eq_true (by first|(with_reducible assumption)|assumption)) HC0.out
         have HR101:=am (Kd.C_of_reads (h1:=fun _=>rfl) (hA11 _ (Kd.reads_of_C HR0.out)))
         have HC101:=am hC11
         clear hA11 hC11 hi011 hsz11
         have hcv12:=Kd.C_string (P:=Tryz.prog) (A:=A11) (c:=(c0 - x8_1.toNat)) Tryz.underlying62 Tryz.underlying5 Tryz.underlying9 (Kd.C_below HR101.out HB.out)
         have hln1:((l0.take ((wrap64 (x8_1+(a1.size:Int))):Int).toNat).drop (x8_1:Int).toNat).length=(wrap64 (x8_1+(a1.size:Int))).toNat - (x8_1:Int).toNat:=by
          have h8:=of_eq_true c8b0
          rw [List.length_drop,List.length_take]
          omega
         rw [hln1] at hcv12
         clear hln1
         go_wp2_with (first|(at_builtin;refine print_append_str (w0:=w) w.heap.size rfl (.tmp 32) _ 62 9 5 rfl Tryz.underlying62 Tryz.underlying9 info5 u7 x7_1 a2 rfl rfl ?aO ?aB ?aS ?aL ?_;(case aB=>exact (by repeat (first|(with_reducible first|exact HB.out|apply below_alloc|apply pw_below_drewN|apply below_drew1)|exact HB.out)));(case aO=>exact (Kd.own_of_R (by (with_reducible repeat (first|apply Kd.R_alloc|apply Kd.R_drewN|apply Kd.R_drew));exact HO_7.out)));(case aS=>exact (below_size (by repeat (first|(with_reducible first|exact HB.out|apply below_alloc|apply pw_below_drewN|apply below_drew1)|exact HB.out))));(case aL=>have:=LMc10.out;omega);intro v103 w13 ho0 hb hg;have ho:=Kd.R_of_own (h1:=fun _=>rfl) (ok:=fun _=>True) ho0 (fun _ _=>trivial);clear ho0;have hat:=True.intro;rw [← Ny102.out] at ho;change Kd.R (Kd.int .u8) 5 w13 w.heap.size (fun _=>True) v103 y102 at ho;have n0_:=am (hb);have n1_:=am (ho);clear HB;clear HO_7;have HB:=n0_;have HO104:=n1_;clear n0_ n1_;clear ho hb hg hat))
         go_roundg k1
         case measure=>have:=HK1.out;omega
         case rel=>exact ⟨(y102),(wrap64 (x8_1+(a1.size:Int))),(by first|rfl|(simp;done)|(simp [*];done)),H',⟨by have:=HK1.out;omega⟩,⟨by (with_reducible repeat (first|apply Kd.R_alloc|apply Kd.R_drewN|apply Kd.R_drew));exact HO104.out⟩,⟨by repeat (first|(with_reducible first|exact HB.out|apply below_alloc|apply pw_below_drewN|apply below_drew1)|exact HB.out)⟩⟩
        ·rw [if_neg c10] at H
         exact absurd H (by simp)
       ·rw [if_neg c9] at H
        have c9b0:((strOfNums ((l0.take ((wrap64 (x8_1+(a1.size:Int))):Int).toNat).drop (x8_1:Int).toNat)).toList==a1.toList)=false:=beq_eq_false_iff_ne.mpr c9
        have c9b1:((strOfNums ((l0.take ((wrap64 (x8_1+(a1.size:Int))):Int).toNat).drop (x8_1:Int).toNat)).toList != a1.toList)=true:=bne_iff_ne.mpr c9
        by_cases c14:x7_1.length < 140737488355328
        ·rw [if_pos c14] at H
         have LMc14:=am c14
         clear c14
         obtain ⟨y106,hy106⟩:∃ y_:List Int,y_=(x7_1++[rd l0 x8_1]):=⟨_,rfl⟩
         replace H:(commonmark_zzReplaceBytes.l0 k1 l0 a1 a2 y106 (wrap64 (x8_1+1)))=some r:=by first|(rw [hy106];with_reducible exact H)|(have H2_:=(Option.bind_some _ _).symm.trans H;rw [hy106];with_reducible exact H2_)|(have H2_:=(Option.bind_some _ _).symm.trans H;with_reducible exact H2_)|with_reducible exact H|(rw [hy106];exact H)|exact H
         have Ny106:=am hy106
         clear hy106
         have H':=am H
         clear H
         obtain ⟨i015,hi015,_,hsz15,_⟩:=info_parts info5
         obtain ⟨A15,hcut15,hA15,hC15⟩:=print_mid_of (P:=Tryz.prog) (Value.int .u8) 0 62 5 .i64 .i64 Tryz.underlying62 hi015 hsz15 A0 c0 l0 x8_1 (wrap64 (x8_1+(a1.size:Int))) (of_decide_eq_true (by first|(with_reducible assumption)|assumption)) (by first|omega|exact of_decide_eq_true (by first|(with_reducible assumption)|assumption)) (of_decide_eq_true (by first|(with_reducible assumption)|assumption)) HC0.out
         have HR101:=am (Kd.C_of_reads (h1:=fun _=>rfl) (hA15 _ (Kd.reads_of_C HR0.out)))
         have HC101:=am hC15
         clear hA15 hC15 hi015 hsz15
         have hcv16:=Kd.C_string (P:=Tryz.prog) (A:=A15) (c:=(c0 - x8_1.toNat)) Tryz.underlying62 Tryz.underlying5 Tryz.underlying9 (Kd.C_below HR101.out HB.out)
         have hln2:((l0.take ((wrap64 (x8_1+(a1.size:Int))):Int).toNat).drop (x8_1:Int).toNat).length=(wrap64 (x8_1+(a1.size:Int))).toNat - (x8_1:Int).toNat:=by
          have h8:=of_eq_true c8b0
          rw [List.length_drop,List.length_take]
          omega
         rw [hln2] at hcv16
         clear hln2
         have p105:0≤(x8_1:Int):=of_decide_eq_true (by first|(with_reducible assumption)|assumption)
         have q105:x8_1 < (l0.length:Int):=of_decide_eq_true (by first|(with_reducible assumption)|assumption)
         obtain ⟨ad105,e105,hx105_0⟩:=Kd.at_int HR0.out x8_1 p105 q105
         cases e105
         replace hx105_0:=(HB.out.cell (World.block_lt_of_cell? w _ hx105_0)).trans hx105_0
         replace p105:=eq_true p105
         replace q105:=eq_true q105
         go_wp2_with (first|((with_reducible refine gate_builtin (b:=.append) (xs:=#[.tmp 39,.tmp 44]) rfl ?_);(try (refine gate_guard (by rfl) ?_;dsimp only));at_builtin;refine Kd.R_append (Kd.int .u8) (w0:=w) w.heap.size rfl (.tmp 39) (.tmp 44) 62 5 (.int .u8 0) 1 rfl Tryz.underlying62 info5 rfl (by decide) (by omega) u7 x7_1 (rd l0 x8_1) [.int .u8 (rd l0 x8_1)] (fun _=>True) (fun _=>False) rfl rfl ?aP (fun _ hk=>hk.elim) ?aF ?aO ?aB ?aS ?aL ?_;(case aP=>exact rfl);(case aB=>exact (by repeat (first|(with_reducible first|exact HB.out|apply below_alloc|apply pw_below_drewN|apply below_drew1)|exact HB.out)));(case aF=>exact (fun _ _=>trivial));(case aO=>exact (by (with_reducible repeat (first|apply Kd.R_alloc|apply Kd.R_drewN|apply Kd.R_drew));exact HO_7.out));(case aS=>exact (below_size (by repeat (first|(with_reducible first|exact HB.out|apply below_alloc|apply pw_below_drewN|apply below_drew1)|exact HB.out))));(case aL=>have:=LMc14.out;omega);intro v107 w17 ho hb hg hat;rw [← Ny106.out] at ho;have n0_:=am (hb);have n1_:=am (ho);clear HB;clear HO_7;have HB:=n0_;have HO108:=n1_;clear n0_ n1_;clear ho hb hg hat))
         go_roundg k1
         case measure=>have:=HK1.out;omega
         case rel=>exact ⟨(y106),(wrap64 (x8_1+1)),(by first|rfl|(simp;done)|(simp [*];done)),H',⟨by have:=HK1.out;omega⟩,⟨by (with_reducible repeat (first|apply Kd.R_alloc|apply Kd.R_drewN|apply Kd.R_drew));exact HO108.out⟩,⟨by repeat (first|(with_reducible first|exact HB.out|apply below_alloc|apply pw_below_drewN|apply below_drew1)|exact HB.out)⟩⟩
        ·rw [if_neg c14] at H
         exact absurd H (by simp)
      ·rw [if_neg c7] at H
       exact absurd H (by simp)
     ·rw [if_neg c6] at H
      exact absurd H (by simp)
    ·rw [if_neg c5] at H
     have c5b0:decide ((wrap64 (x8_1+(a1.size:Int)))≤(l0.length:Int))=false:=decide_eq_false c5
     clear c5
     by_cases c18:0≤x8_1
     ·rw [if_pos c18] at H
      have c18b0:decide (0≤x8_1)=true:=decide_eq_true c18
      clear c18
      by_cases c19:x7_1.length < 140737488355328
      ·rw [if_pos c19] at H
       have LMc19:=am c19
       clear c19
       obtain ⟨y110,hy110⟩:∃ y_:List Int,y_=(x7_1++[rd l0 x8_1]):=⟨_,rfl⟩
       replace H:(commonmark_zzReplaceBytes.l0 k1 l0 a1 a2 y110 (wrap64 (x8_1+1)))=some r:=by first|(rw [hy110];with_reducible exact H)|(have H2_:=(Option.bind_some _ _).symm.trans H;rw [hy110];with_reducible exact H2_)|(have H2_:=(Option.bind_some _ _).symm.trans H;with_reducible exact H2_)|with_reducible exact H|(rw [hy110];exact H)|exact H
       have Ny110:=am hy110
       clear hy110
       have H':=am H
       clear H
       have p109:0≤(x8_1:Int):=of_decide_eq_true (by first|(with_reducible assumption)|assumption)
       have q109:x8_1 < (l0.length:Int):=of_decide_eq_true (by first|(with_reducible assumption)|assumption)
       obtain ⟨ad109,e109,hx109_0⟩:=Kd.at_int HR0.out x8_1 p109 q109
       cases e109
       replace hx109_0:=(HB.out.cell (World.block_lt_of_cell? w _ hx109_0)).trans hx109_0
       replace p109:=eq_true p109
       replace q109:=eq_true q109
       go_wp2_with (first|((with_reducible refine gate_builtin (b:=.append) (xs:=#[.tmp 39,.tmp 44]) rfl ?_);(try (refine gate_guard (by rfl) ?_;dsimp only));at_builtin;refine Kd.R_append (Kd.int .u8) (w0:=w) w.heap.size rfl (.tmp 39) (.tmp 44) 62 5 (.int .u8 0) 1 rfl Tryz.underlying62 info5 rfl (by decide) (by omega) u7 x7_1 (rd l0 x8_1) [.int .u8 (rd l0 x8_1)] (fun _=>True) (fun _=>False) rfl rfl ?aP (fun _ hk=>hk.elim) ?aF ?aO ?aB ?aS ?aL ?_;(case aP=>exact rfl);(case aB=>exact (by repeat (first|(with_reducible first|exact HB.out|apply below_alloc|apply pw_below_drewN|apply below_drew1)|exact HB.out)));(case aF=>exact (fun _ _=>trivial));(case aO=>exact (by (with_reducible repeat (first|apply Kd.R_alloc|apply Kd.R_drewN|apply Kd.R_drew));exact HO_7.out));(case aS=>exact (below_size (by repeat (first|(with_reducible first|exact HB.out|apply below_alloc|apply pw_below_drewN|apply below_drew1)|exact HB.out))));(case aL=>have:=LMc19.out;omega);intro v111 w20 ho hb hg hat;rw [← Ny110.out] at ho;have n0_:=am (hb);have n1_:=am (ho);clear HB;clear HO_7;have HB:=n0_;have HO112:=n1_;clear n0_ n1_;clear ho hb hg hat))
       go_roundg k1
       case measure=>have:=HK1.out;omega
       case rel=>exact ⟨(y110),(wrap64 (x8_1+1)),(by first|rfl|(simp;done)|(simp [*];done)),H',⟨by have:=HK1.out;omega⟩,⟨by (with_reducible repeat (first|apply Kd.R_alloc|apply Kd.R_drewN|apply Kd.R_drew));exact HO112.out⟩,⟨by repeat (first|(with_reducible first|exact HB.out|apply below_alloc|apply pw_below_drewN|apply below_drew1)|exact HB.out)⟩⟩
      ·rw [if_neg c19] at H
       exact absurd H (by simp)
     ·rw [if_neg c18] at H
      exact absurd H (by simp)
   ·rw [if_neg c4] at H
    have c4b0:decide (x8_1 < (l0.length:Int))=false:=decide_eq_false c4
    clear c4
    obtain rfl:=Option.some.inj H
    go_wp2
    go_ret
    exact ⟨_,by first|rfl|(simp [errW_none,errW_some] <;> rfl)|(simp [*,errW_none,errW_some] <;> rfl),by (with_reducible repeat (first|apply Kd.R_alloc|apply Kd.R_drewN|apply Kd.R_drew));exact HO_7.out,by repeat (first|(with_reducible first|exact HB.out|apply below_alloc|apply pw_below_drewN|apply below_drew1)|exact HB.out)⟩
end Go.Proofs.YtbheflncgmhadaaGreat.PzzReplaceBytes
namespace Go.Proofs
open Go.Shelf
def Tryz.laysM290_ren:Go.Shelf.Ren:=⟨fun|290=>372|324=>378|n=>n,fun|37=>62|3=>3|0=>0|4=>4|20=>20|75=>64|5=>5|80=>171|9=>9|n=>n,fun|14=>6|n=>n⟩
theorem Tryz.laysM290:Go.Proofs.LaysM.n290 Tryz.prog Tryz.laysM290_ren:={
 mixed:=by kernel_rfl
 f290:=Tryz.func372.trans (congrArg some (by kernel_rfl))
 f324:=Tryz.func378.trans (congrArg some (by kernel_rfl))
 t0:=Tryz.underlying0
 a0:=Tryz.isAgg0
 z0:=Tryz.sizeOf0
 v0:=Tryz.zeroValue0
 t3:=Tryz.underlying3
 a3:=Tryz.isAgg3
 z3:=Tryz.sizeOf3
 v3:=Tryz.zeroValue3
 t4:=Tryz.underlying4
 a4:=Tryz.isAgg4
 z4:=Tryz.sizeOf4
 v4:=Tryz.zeroValue4
 t20:=Tryz.underlying20
 a20:=Tryz.isAgg20
 z20:=Tryz.sizeOf20
 v20:=Tryz.zeroValue20
 t37:=Tryz.underlying62
 a37:=Tryz.isAgg62
 z37:=Tryz.sizeOf62
 v37:=Tryz.zeroValue62
 t75:=Tryz.underlying64
 a75:=Tryz.isAgg64
 z75:=Tryz.sizeOf64
 v75:=Tryz.zeroValue64
 g14:=by kernel_rfl
 t5:=Tryz.underlying5
 a5:=Tryz.isAgg5
 z5:=Tryz.sizeOf5
 v5:=Tryz.zeroValue5
 t9:=Tryz.underlying9
 a9:=Tryz.isAgg9
 z9:=Tryz.sizeOf9
 v9:=Tryz.zeroValue9
 t80:=Tryz.underlying171
 a80:=Tryz.isAgg171
 z80:=Tryz.sizeOf171
 v80:=Tryz.zeroValue171
 i0:=by kernel_rfl
 i3:=by kernel_rfl
 i4:=by kernel_rfl
 i5:=by kernel_rfl
 i9:=by kernel_rfl
 i20:=by kernel_rfl
 i37:=by kernel_rfl
 i75:=by kernel_rfl
 i80:=by kernel_rfl
 m14:=by kernel_rfl }
def Tryz.lays125_ren:Go.Shelf.Ren:=⟨fun|125=>84|128=>96|129=>97|n=>n,fun|46=>224|3=>3|51=>155|53=>233|4=>4|5=>5|9=>9|n=>n,fun|n=>n⟩
theorem Tryz.lays125:Go.Proofs.Lays.n125 Tryz.prog Tryz.lays125_ren:={
 mixed:=by kernel_rfl
 f125:=Tryz.func84.trans (congrArg some (by kernel_rfl))
 f128:=Tryz.func96.trans (congrArg some (by kernel_rfl))
 f129:=Tryz.func97.trans (congrArg some (by kernel_rfl))
 t3:=Tryz.underlying3
 a3:=Tryz.isAgg3
 z3:=Tryz.sizeOf3
 v3:=Tryz.zeroValue3
 t4:=Tryz.underlying4
 a4:=Tryz.isAgg4
 z4:=Tryz.sizeOf4
 v4:=Tryz.zeroValue4
 t5:=Tryz.underlying5
 a5:=Tryz.isAgg5
 z5:=Tryz.sizeOf5
 v5:=Tryz.zeroValue5
 t9:=Tryz.underlying9
 a9:=Tryz.isAgg9
 z9:=Tryz.sizeOf9
 v9:=Tryz.zeroValue9
 t46:=Tryz.underlying224
 a46:=Tryz.isAgg224
 z46:=Tryz.sizeOf224
 v46:=Tryz.zeroValue224
 t51:=Tryz.underlying155
 a51:=Tryz.isAgg155
 z51:=Tryz.sizeOf155
 v51:=Tryz.zeroValue155
 t53:=Tryz.underlying233
 a53:=Tryz.isAgg233
 z53:=Tryz.sizeOf233
 v53:=Tryz.zeroValue233 }
def Tryz.lays105_ren:Go.Shelf.Ren:=⟨fun|105=>293|212=>339|99=>294|165=>340|166=>341|170=>342|169=>343|263=>364|264=>365|206=>344|240=>366|241=>367|276=>377|277=>360|n=>n,fun|9=>9|3=>3|4=>4|20=>20|0=>0|46=>224|109=>385|5=>5|72=>389|76=>208|51=>155|146=>399|53=>233|148=>401|70=>387|37=>62|75=>64|127=>259|164=>215|80=>171|n=>n,fun|n=>n⟩
theorem Tryz.lays105:Go.Proofs.Lays.n105 Tryz.prog Tryz.lays105_ren:={
 mixed:=by kernel_rfl
 f99:=Tryz.func294.trans (congrArg some (by kernel_rfl))
 f105:=Tryz.func293.trans (congrArg some (by kernel_rfl))
 f165:=Tryz.func340.trans (congrArg some (by kernel_rfl))
 f166:=Tryz.func341.trans (congrArg some (by kernel_rfl))
 f169:=Tryz.func343.trans (congrArg some (by kernel_rfl))
 f170:=Tryz.func342.trans (congrArg some (by kernel_rfl))
 f206:=Tryz.func344.trans (congrArg some (by kernel_rfl))
 f212:=Tryz.func339.trans (congrArg some (by kernel_rfl))
 f240:=Tryz.func366.trans (congrArg some (by kernel_rfl))
 f241:=Tryz.func367.trans (congrArg some (by kernel_rfl))
 f263:=Tryz.func364.trans (congrArg some (by kernel_rfl))
 f264:=Tryz.func365.trans (congrArg some (by kernel_rfl))
 f276:=Tryz.func377.trans (congrArg some (by kernel_rfl))
 f277:=Tryz.func360.trans (congrArg some (by kernel_rfl))
 t0:=Tryz.underlying0
 a0:=Tryz.isAgg0
 z0:=Tryz.sizeOf0
 v0:=Tryz.zeroValue0
 t3:=Tryz.underlying3
 a3:=Tryz.isAgg3
 z3:=Tryz.sizeOf3
 v3:=Tryz.zeroValue3
 t4:=Tryz.underlying4
 a4:=Tryz.isAgg4
 z4:=Tryz.sizeOf4
 v4:=Tryz.zeroValue4
 t5:=Tryz.underlying5
 a5:=Tryz.isAgg5
 z5:=Tryz.sizeOf5
 v5:=Tryz.zeroValue5
 t9:=Tryz.underlying9
 a9:=Tryz.isAgg9
 z9:=Tryz.sizeOf9
 v9:=Tryz.zeroValue9
 t20:=Tryz.underlying20
 a20:=Tryz.isAgg20
 z20:=Tryz.sizeOf20
 v20:=Tryz.zeroValue20
 t37:=Tryz.underlying62
 a37:=Tryz.isAgg62
 z37:=Tryz.sizeOf62
 v37:=Tryz.zeroValue62
 t46:=Tryz.underlying224
 a46:=Tryz.isAgg224
 z46:=Tryz.sizeOf224
 v46:=Tryz.zeroValue224
 t51:=Tryz.underlying155
 a51:=Tryz.isAgg155
 z51:=Tryz.sizeOf155
 v51:=Tryz.zeroValue155
 t53:=Tryz.underlying233
 a53:=Tryz.isAgg233
 z53:=Tryz.sizeOf233
 v53:=Tryz.zeroValue233
 t70:=Tryz.underlying387
 a70:=Tryz.isAgg387
 z70:=Tryz.sizeOf387
 v70:=Tryz.zeroValue387
 t72:=Tryz.underlying389
 a72:=Tryz.isAgg389
 z72:=Tryz.sizeOf389
 v72:=Tryz.zeroValue389
 t75:=Tryz.underlying64
 a75:=Tryz.isAgg64
 z75:=Tryz.sizeOf64
 v75:=Tryz.zeroValue64
 t76:=Tryz.underlying208
 a76:=Tryz.isAgg208
 z76:=Tryz.sizeOf208
 v76:=Tryz.zeroValue208
 t109:=Tryz.underlying385
 a109:=Tryz.isAgg385
 z109:=Tryz.sizeOf385
 v109:=Tryz.zeroValue385
 t127:=Tryz.underlying259
 a127:=Tryz.isAgg259
 z127:=Tryz.sizeOf259
 v127:=Tryz.zeroValue259
 t146:=Tryz.underlying399
 a146:=Tryz.isAgg399
 z146:=Tryz.sizeOf399
 v146:=Tryz.zeroValue399
 t148:=Tryz.underlying401
 a148:=Tryz.isAgg401
 z148:=Tryz.sizeOf401
 v148:=Tryz.zeroValue401
 t164:=Tryz.underlying215
 a164:=Tryz.isAgg215
 z164:=Tryz.sizeOf215
 v164:=Tryz.zeroValue215 }
end Go.Proofs
namespace Go.Proofs
open Go.Shelf Go.RowKit Go.Lib
theorem Tryz.growSlice_row (g l c n:Nat) (cur:Array Value) (w:World) (hg:w.heap[g]?=some (.cells cur 5 (0,0))) (hcs:cur.size=c) (hlc:l≤c) (hn:1≤n)
 (hlim:l+n≤140737488355328) (hc2:c≤140737488355328) (h1:∀ v∈cur.toList.take l,v.oneCell'=true):
 Calls Tryz.prog 372 #[.slice (some ⟨g,0,none⟩) l c,.int .i64 n] w fun e w'=>∃ cap2 cells,e=.returned (.slice (some ⟨w.heap.size,0,none⟩) l cap2)∧w'.heap[w.heap.size]?=some (.cells cells 5 (0,0)) ∧
  cells.size=cap2∧cells.toList.take l=cur.toList.take l∧l+n≤cap2∧cap2≤maxLen∧Below w.heap.size w w':=Any.bytes_growSlice_row Tryz.laysM290 g l c n cur w hg hcs hlc hn hlim hc2 h1
theorem Tryz.growSlice_nil (n:Nat) (w:World) (hn:1≤n) (hlim:n≤140737488355328):
 Calls Tryz.prog 372 #[.slice none 0 0,.int .i64 n] w fun e w'=>∃ cap2 cells,e=.returned (.slice (some ⟨w.heap.size,0,none⟩) 0 cap2)∧w'.heap[w.heap.size]?=some (.cells cells 5 (0,0)) ∧
  cells.size=cap2∧n≤cap2∧cap2≤maxLen∧Below w.heap.size w w':=Any.bytes_growSlice_nil Tryz.laysM290 n w hn hlim
theorem Tryz.bits_Len (x:Int) (w:World) (h0:0≤x) (h1:x≤18446744073709551615):
 Calls Tryz.prog 84 #[.int .u64 x] w fun e w'=>e=.returned (.int .i64 (Lib.bitLen x.toNat))∧w'=w:=Any.bits_Len Tryz.lays125 x w h0 h1
theorem Tryz.repeatExtra:Builder.Extra Tryz.prog Tryz.lays105_ren:={
 sizeBuilder:=by kernel_rfl
 liesBuilder:=by kernel_rfl
 t5:=Tryz.lays105.t5
 a5:=Tryz.lays105.a5
 z5:=Tryz.lays105.z5
 v5:=Tryz.lays105.v5
 infoByte:=by kernel_rfl
 cellsByte:=by kernel_rfl
 sizeByte:=by kernel_rfl
 neB5:=by decide }
theorem Tryz.strings_Repeat (s:ByteArray) (c:Nat) (w:World) (hc:c≤9223372036854775807) (hlen:s.size * c≤140737488355328):
 Calls Tryz.prog 293 #[.string s,.int .i64 c] w fun e w'=>e=.returned (.string ⟨(Lib.repeatL s.data.toList c).toArray⟩)∧Below w.heap.size w w':=Any.strings_Repeat Tryz.lays105 Tryz.repeatExtra s c w hc hlen
end Go.Proofs
namespace Go.Proofs.YtbheflncgmhadaaGreat.PzzReplaceTable
open Go.Proofs.YtbheflncgmhadaaGreat.PzzReplaceBytes (info5)
open Go.RowKit Go.Proofs.YtbheflncgmhadaaGreatW.PrintWords Go.Proofs.YtbheflncgmhadaaGreatW.PrintLast Go.Proofs.YtbheflncgmhadaaGreatW.PrintMore
def table_zzReplaceBytes.l0:Nat→List Int→ByteArray→ByteArray→List Int→Int→Option (List Int)
 |0,_,_,_,_,_=>none
 |k+1,x0,x1,x2,x7,x8=>if x8 < (x0.length:Int) then (if (wrap64 (x8+(x1.size:Int)))≤(x0.length:Int) then (if 0≤x8 then (if x8≤(wrap64 (x8+(x1.size:Int))) then (if (strOfNums ((x0.take ((wrap64 (x8+(x1.size:Int))):Int).toNat).drop (x8:Int).toNat)).toList=x1.toList then (if x7.length+x2.size < 140737488355328 then (table_zzReplaceBytes.l0 k x0 x1 x2 (x7++bytesOf x2) (wrap64 (x8+(x1.size:Int)))) else (none)) else (if x7.length < 140737488355328 then (table_zzReplaceBytes.l0 k x0 x1 x2 (x7++[rd x0 x8]) (wrap64 (x8+1))) else (none))) else (none)) else (none)) else (if 0≤x8 then (if x7.length < 140737488355328 then (table_zzReplaceBytes.l0 k x0 x1 x2 (x7++[rd x0 x8]) (wrap64 (x8+1))) else (none)) else (none))) else (some x7)
def table_zzReplaceBytes.f (k:Nat) (l0:List Int) (a1:ByteArray) (a2:ByteArray):Option (List Int):=table_zzReplaceBytes.l0 k l0 a1 a2 ([]:List Int) 0
theorem table_zzReplaceBytes.calls (k:Nat) (A0:Option Addr) (c0:Nat) (l0:List Int) (a1:ByteArray) (a2:ByteArray) (r:List Int) (w:World) (hr0:Kd.C (Kd.int .u8) w A0 l0.length l0) (hc0:l0.length≤c0) (h:table_zzReplaceBytes.f k l0 a1 a2=some r):
  Calls Tryz.prog 417 #[.slice A0 l0.length c0,.string a1,.string a2] w fun e w'=>∃ v0_:Value,e=.returned (v0_)∧Kd.R (Kd.int .u8) 5 w' w.heap.size (fun _=>True) v0_ r∧Below w.heap.size w w':=by
 have HR0:=am hr0
 have HC0:=am hc0
 clear hr0 hc0
 have HB:=am (Below.refl w.heap.size w)
 have H:(table_zzReplaceBytes.l0 k l0 a1 a2 ([]:List Int) 0)=some r:=h
 clear h
 have H':=am H
 clear H
 go_enter Tryz.func417,Tryz.ntmps417
 go_wp2
 go_loopg [7,8] k (fun kq v7 v8 w'=>∃ (x7_1:List Int) (x8_1:Int),v8=.int .i64 x8_1∧Aside0 (table_zzReplaceBytes.l0 kq l0 a1 a2 x7_1 x8_1=some r)∧Aside0 (kq≤k)∧Aside0 (Kd.R (Kd.int .u8) 5 w' w.heap.size (fun _=>True) v7 x7_1)∧Aside0 (Below w.heap.size w w'))
 case atStart=>exact ⟨(([]:List Int)),(0),(by first|rfl|(simp;done)|(simp [*];done)),H',⟨Nat.le_refl _⟩,⟨by first|exact Kd.R_nil _ _ _ _ _|exact Kd.N_nil _ _ _ _ _|exact Kd.V_nil _ _ _ _ _|exact Kd.Q_nil _ _ _ _ _|exact Kd.S_nil _ _ _ _ _⟩,⟨by repeat (first|(with_reducible first|exact HB.out|apply below_alloc|apply pw_below_drewN|apply below_drew1)|exact HB.out)⟩⟩
 case round=>
  clear H'
  try clear c2
  try clear p2
  obtain ⟨x7_1,x8_1,rfl,HA,HK1,HO_7,HB⟩:=hrel
  cases gk with
  |zero=>exact absurd HA.out (by simp [table_zzReplaceBytes.l0])
  |succ k1=>
   have H:=HA.out
   clear HA
   simp only [table_zzReplaceBytes.l0] at H
   by_cases c4:x8_1 < (l0.length:Int)
   ·rw [if_pos c4] at H
    have c4b0:decide (x8_1 < (l0.length:Int))=true:=decide_eq_true c4
    clear c4
    by_cases c5:(wrap64 (x8_1+(a1.size:Int)))≤(l0.length:Int)
    ·rw [if_pos c5] at H
     have c5b0:decide ((wrap64 (x8_1+(a1.size:Int)))≤(l0.length:Int))=true:=decide_eq_true c5
     clear c5
     by_cases c6:0≤x8_1
     ·rw [if_pos c6] at H
      have c6b0:=eq_true c6
      have c6b1:decide (0≤x8_1)=true:=decide_eq_true c6
      clear c6
      by_cases c7:x8_1≤(wrap64 (x8_1+(a1.size:Int)))
      ·rw [if_pos c7] at H
       have c7b0:=eq_true c7
       have c7b1:decide (x8_1≤(wrap64 (x8_1+(a1.size:Int))))=true:=decide_eq_true c7
       have c8b0:=eq_true (of_decide_eq_true (by first|(with_reducible assumption)|assumption):(wrap64 (x8_1+(a1.size:Int)))≤(l0.length:Int))
       by_cases c9:(strOfNums ((l0.take ((wrap64 (x8_1+(a1.size:Int))):Int).toNat).drop (x8_1:Int).toNat)).toList=a1.toList
       ·rw [if_pos c9] at H
        have c9b0:((strOfNums ((l0.take ((wrap64 (x8_1+(a1.size:Int))):Int).toNat).drop (x8_1:Int).toNat)).toList==a1.toList)=true:=beq_iff_eq.mpr c9
        have c9b1:((strOfNums ((l0.take ((wrap64 (x8_1+(a1.size:Int))):Int).toNat).drop (x8_1:Int).toNat)).toList != a1.toList)=false:=bne_eq_false_iff_eq.mpr c9
        clear c9
        by_cases c10:x7_1.length+a2.size < 140737488355328
        ·rw [if_pos c10] at H
         have LMc10:=am c10
         clear c10
         obtain ⟨y102,hy102⟩:∃ y_:List Int,y_=(x7_1++bytesOf a2):=⟨_,rfl⟩
         replace H:(table_zzReplaceBytes.l0 k1 l0 a1 a2 y102 (wrap64 (x8_1+(a1.size:Int))))=some r:=by first|(rw [hy102];with_reducible exact H)|(have H2_:=(Option.bind_some _ _).symm.trans H;rw [hy102];with_reducible exact H2_)|(have H2_:=(Option.bind_some _ _).symm.trans H;with_reducible exact H2_)|with_reducible exact H|(rw [hy102];exact H)|exact H
         have Ny102:=am hy102
         clear hy102
         have H':=am H
         clear H
         obtain ⟨i011,hi011,_,hsz11,_⟩:=info_parts info5
         obtain ⟨A11,hcut11,hA11,hC11⟩:=print_mid_of (P:=Tryz.prog) (Value.int .u8) 0 62 5 .i64 .i64 Tryz.underlying62 hi011 hsz11 A0 c0 l0 x8_1 (wrap64 (x8_1+(a1.size:Int))) (of_decide_eq_true (by first|(with_reducible assumption)|assumption)) (by first|omega|exact of_decide_eq_true (by first|(with_reducible assumption)|assumption)) (of_decide_eq_true (by first|(with_reducible assumption)|assumption)) HC0.out
         have HR101:=am (Kd.C_of_reads (h1:=fun _=>rfl) (hA11 _ (Kd.reads_of_C HR0.out)))
         have HC101:=am hC11
         clear hA11 hC11 hi011 hsz11
         have hcv12:=Kd.C_string (P:=Tryz.prog) (A:=A11) (c:=(c0 - x8_1.toNat)) Tryz.underlying62 Tryz.underlying5 Tryz.underlying9 (Kd.C_below HR101.out HB.out)
         have hln1:((l0.take ((wrap64 (x8_1+(a1.size:Int))):Int).toNat).drop (x8_1:Int).toNat).length=(wrap64 (x8_1+(a1.size:Int))).toNat - (x8_1:Int).toNat:=by
          have h8:=of_eq_true c8b0
          rw [List.length_drop,List.length_take]
          omega
         rw [hln1] at hcv12
         clear hln1
         go_wp2_with (first|(at_builtin;refine print_append_str (w0:=w) w.heap.size rfl (.tmp 32) _ 62 9 5 rfl Tryz.underlying62 Tryz.underlying9 info5 u7 x7_1 a2 rfl rfl ?aO ?aB ?aS ?aL ?_;(case aB=>exact (by repeat (first|(with_reducible first|exact HB.out|apply below_alloc|apply pw_below_drewN|apply below_drew1)|exact HB.out)));(case aO=>exact (Kd.own_of_R (by (with_reducible repeat (first|apply Kd.R_alloc|apply Kd.R_drewN|apply Kd.R_drew));exact HO_7.out)));(case aS=>exact (below_size (by repeat (first|(with_reducible first|exact HB.out|apply below_alloc|apply pw_below_drewN|apply below_drew1)|exact HB.out))));(case aL=>have:=LMc10.out;omega);intro v103 w13 ho0 hb hg;have ho:=Kd.R_of_own (h1:=fun _=>rfl) (ok:=fun _=>True) ho0 (fun _ _=>trivial);clear ho0;have hat:=True.intro;rw [← Ny102.out] at ho;change Kd.R (Kd.int .u8) 5 w13 w.heap.size (fun _=>True) v103 y102 at ho;have n0_:=am (hb);have n1_:=am (ho);clear HB;clear HO_7;have HB:=n0_;have HO104:=n1_;clear n0_ n1_;clear ho hb hg hat))
         go_roundg k1
         case measure=>have:=HK1.out;omega
         case rel=>exact ⟨(y102),(wrap64 (x8_1+(a1.size:Int))),(by first|rfl|(simp;done)|(simp [*];done)),H',⟨by have:=HK1.out;omega⟩,⟨by (with_reducible repeat (first|apply Kd.R_alloc|apply Kd.R_drewN|apply Kd.R_drew));exact HO104.out⟩,⟨by repeat (first|(with_reducible first|exact HB.out|apply below_alloc|apply pw_below_drewN|apply below_drew1)|exact HB.out)⟩⟩
        ·rw [if_neg c10] at H
         exact absurd H (by simp)
       ·rw [if_neg c9] at H
        have c9b0:((strOfNums ((l0.take ((wrap64 (x8_1+(a1.size:Int))):Int).toNat).drop (x8_1:Int).toNat)).toList==a1.toList)=false:=beq_eq_false_iff_ne.mpr c9
        have c9b1:((strOfNums ((l0.take ((wrap64 (x8_1+(a1.size:Int))):Int).toNat).drop (x8_1:Int).toNat)).toList != a1.toList)=true:=bne_iff_ne.mpr c9
        by_cases c14:x7_1.length < 140737488355328
        ·rw [if_pos c14] at H
         have LMc14:=am c14
         clear c14
         obtain ⟨y106,hy106⟩:∃ y_:List Int,y_=(x7_1++[rd l0 x8_1]):=⟨_,rfl⟩
         replace H:(table_zzReplaceBytes.l0 k1 l0 a1 a2 y106 (wrap64 (x8_1+1)))=some r:=by first|(rw [hy106];with_reducible exact H)|(have H2_:=(Option.bind_some _ _).symm.trans H;rw [hy106];with_reducible exact H2_)|(have H2_:=(Option.bind_some _ _).symm.trans H;with_reducible exact H2_)|with_reducible exact H|(rw [hy106];exact H)|exact H
         have Ny106:=am hy106
         clear hy106
         have H':=am H
         clear H
         obtain ⟨i015,hi015,_,hsz15,_⟩:=info_parts info5
         obtain ⟨A15,hcut15,hA15,hC15⟩:=print_mid_of (P:=Tryz.prog) (Value.int .u8) 0 62 5 .i64 .i64 Tryz.underlying62 hi015 hsz15 A0 c0 l0 x8_1 (wrap64 (x8_1+(a1.size:Int))) (of_decide_eq_true (by first|(with_reducible assumption)|assumption)) (by first|omega|exact of_decide_eq_true (by first|(with_reducible assumption)|assumption)) (of_decide_eq_true (by first|(with_reducible assumption)|assumption)) HC0.out
         have HR101:=am (Kd.C_of_reads (h1:=fun _=>rfl) (hA15 _ (Kd.reads_of_C HR0.out)))
         have HC101:=am hC15
         clear hA15 hC15 hi015 hsz15
         have hcv16:=Kd.C_string (P:=Tryz.prog) (A:=A15) (c:=(c0 - x8_1.toNat)) Tryz.underlying62 Tryz.underlying5 Tryz.underlying9 (Kd.C_below HR101.out HB.out)
         have hln2:((l0.take ((wrap64 (x8_1+(a1.size:Int))):Int).toNat).drop (x8_1:Int).toNat).length=(wrap64 (x8_1+(a1.size:Int))).toNat - (x8_1:Int).toNat:=by
          have h8:=of_eq_true c8b0
          rw [List.length_drop,List.length_take]
          omega
         rw [hln2] at hcv16
         clear hln2
         have p105:0≤(x8_1:Int):=of_decide_eq_true (by first|(with_reducible assumption)|assumption)
         have q105:x8_1 < (l0.length:Int):=of_decide_eq_true (by first|(with_reducible assumption)|assumption)
         obtain ⟨ad105,e105,hx105_0⟩:=Kd.at_int HR0.out x8_1 p105 q105
         cases e105
         replace hx105_0:=(HB.out.cell (World.block_lt_of_cell? w _ hx105_0)).trans hx105_0
         replace p105:=eq_true p105
         replace q105:=eq_true q105
         go_wp2_with (first|((with_reducible refine gate_builtin (b:=.append) (xs:=#[.tmp 39,.tmp 44]) rfl ?_);(try (refine gate_guard (by rfl) ?_;dsimp only));at_builtin;refine Kd.R_append (Kd.int .u8) (w0:=w) w.heap.size rfl (.tmp 39) (.tmp 44) 62 5 (.int .u8 0) 1 rfl Tryz.underlying62 info5 rfl (by decide) (by omega) u7 x7_1 (rd l0 x8_1) [.int .u8 (rd l0 x8_1)] (fun _=>True) (fun _=>False) rfl rfl ?aP (fun _ hk=>hk.elim) ?aF ?aO ?aB ?aS ?aL ?_;(case aP=>exact rfl);(case aB=>exact (by repeat (first|(with_reducible first|exact HB.out|apply below_alloc|apply pw_below_drewN|apply below_drew1)|exact HB.out)));(case aF=>exact (fun _ _=>trivial));(case aO=>exact (by (with_reducible repeat (first|apply Kd.R_alloc|apply Kd.R_drewN|apply Kd.R_drew));exact HO_7.out));(case aS=>exact (below_size (by repeat (first|(with_reducible first|exact HB.out|apply below_alloc|apply pw_below_drewN|apply below_drew1)|exact HB.out))));(case aL=>have:=LMc14.out;omega);intro v107 w17 ho hb hg hat;rw [← Ny106.out] at ho;have n0_:=am (hb);have n1_:=am (ho);clear HB;clear HO_7;have HB:=n0_;have HO108:=n1_;clear n0_ n1_;clear ho hb hg hat))
         go_roundg k1
         case measure=>have:=HK1.out;omega
         case rel=>exact ⟨(y106),(wrap64 (x8_1+1)),(by first|rfl|(simp;done)|(simp [*];done)),H',⟨by have:=HK1.out;omega⟩,⟨by (with_reducible repeat (first|apply Kd.R_alloc|apply Kd.R_drewN|apply Kd.R_drew));exact HO108.out⟩,⟨by repeat (first|(with_reducible first|exact HB.out|apply below_alloc|apply pw_below_drewN|apply below_drew1)|exact HB.out)⟩⟩
        ·rw [if_neg c14] at H
         exact absurd H (by simp)
      ·rw [if_neg c7] at H
       exact absurd H (by simp)
     ·rw [if_neg c6] at H
      exact absurd H (by simp)
    ·rw [if_neg c5] at H
     have c5b0:decide ((wrap64 (x8_1+(a1.size:Int)))≤(l0.length:Int))=false:=decide_eq_false c5
     clear c5
     by_cases c18:0≤x8_1
     ·rw [if_pos c18] at H
      have c18b0:decide (0≤x8_1)=true:=decide_eq_true c18
      clear c18
      by_cases c19:x7_1.length < 140737488355328
      ·rw [if_pos c19] at H
       have LMc19:=am c19
       clear c19
       obtain ⟨y110,hy110⟩:∃ y_:List Int,y_=(x7_1++[rd l0 x8_1]):=⟨_,rfl⟩
       replace H:(table_zzReplaceBytes.l0 k1 l0 a1 a2 y110 (wrap64 (x8_1+1)))=some r:=by first|(rw [hy110];with_reducible exact H)|(have H2_:=(Option.bind_some _ _).symm.trans H;rw [hy110];with_reducible exact H2_)|(have H2_:=(Option.bind_some _ _).symm.trans H;with_reducible exact H2_)|with_reducible exact H|(rw [hy110];exact H)|exact H
       have Ny110:=am hy110
       clear hy110
       have H':=am H
       clear H
       have p109:0≤(x8_1:Int):=of_decide_eq_true (by first|(with_reducible assumption)|assumption)
       have q109:x8_1 < (l0.length:Int):=of_decide_eq_true (by first|(with_reducible assumption)|assumption)
       obtain ⟨ad109,e109,hx109_0⟩:=Kd.at_int HR0.out x8_1 p109 q109
       cases e109
       replace hx109_0:=(HB.out.cell (World.block_lt_of_cell? w _ hx109_0)).trans hx109_0
       replace p109:=eq_true p109
       replace q109:=eq_true q109
       go_wp2_with (first|((with_reducible refine gate_builtin (b:=.append) (xs:=#[.tmp 39,.tmp 44]) rfl ?_);(try (refine gate_guard (by rfl) ?_;dsimp only));at_builtin;refine Kd.R_append (Kd.int .u8) (w0:=w) w.heap.size rfl (.tmp 39) (.tmp 44) 62 5 (.int .u8 0) 1 rfl Tryz.underlying62 info5 rfl (by decide) (by omega) u7 x7_1 (rd l0 x8_1) [.int .u8 (rd l0 x8_1)] (fun _=>True) (fun _=>False) rfl rfl ?aP (fun _ hk=>hk.elim) ?aF ?aO ?aB ?aS ?aL ?_;(case aP=>exact rfl);(case aB=>exact (by repeat (first|(with_reducible first|exact HB.out|apply below_alloc|apply pw_below_drewN|apply below_drew1)|exact HB.out)));(case aF=>exact (fun _ _=>trivial));(case aO=>exact (by (with_reducible repeat (first|apply Kd.R_alloc|apply Kd.R_drewN|apply Kd.R_drew));exact HO_7.out));(case aS=>exact (below_size (by repeat (first|(with_reducible first|exact HB.out|apply below_alloc|apply pw_below_drewN|apply below_drew1)|exact HB.out))));(case aL=>have:=LMc19.out;omega);intro v111 w20 ho hb hg hat;rw [← Ny110.out] at ho;have n0_:=am (hb);have n1_:=am (ho);clear HB;clear HO_7;have HB:=n0_;have HO112:=n1_;clear n0_ n1_;clear ho hb hg hat))
       go_roundg k1
       case measure=>have:=HK1.out;omega
       case rel=>exact ⟨(y110),(wrap64 (x8_1+1)),(by first|rfl|(simp;done)|(simp [*];done)),H',⟨by have:=HK1.out;omega⟩,⟨by (with_reducible repeat (first|apply Kd.R_alloc|apply Kd.R_drewN|apply Kd.R_drew));exact HO112.out⟩,⟨by repeat (first|(with_reducible first|exact HB.out|apply below_alloc|apply pw_below_drewN|apply below_drew1)|exact HB.out)⟩⟩
      ·rw [if_neg c19] at H
       exact absurd H (by simp)
     ·rw [if_neg c18] at H
      exact absurd H (by simp)
   ·rw [if_neg c4] at H
    have c4b0:decide (x8_1 < (l0.length:Int))=false:=decide_eq_false c4
    clear c4
    obtain rfl:=Option.some.inj H
    go_wp2
    go_ret
    exact ⟨_,by first|rfl|(simp [errW_none,errW_some] <;> rfl)|(simp [*,errW_none,errW_some] <;> rfl),by (with_reducible repeat (first|apply Kd.R_alloc|apply Kd.R_drewN|apply Kd.R_drew));exact HO_7.out,by repeat (first|(with_reducible first|exact HB.out|apply below_alloc|apply pw_below_drewN|apply below_drew1)|exact HB.out)⟩
end Go.Proofs.YtbheflncgmhadaaGreat.PzzReplaceTable
