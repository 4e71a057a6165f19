/- Buffers, texts, blanks. Conditions: those in each statement. -/
import Derived.Test.YtbheflncgmhadaaGreatXd
import Derived.Laws.MakeOwn
import Derived.Deep.LoopGhost
import Derived.Shelf.RegionOpenPlain
import Derived.Lib.BufferOwn
import Derived.Lib.BufferMore
import Derived.Lib.BufferGrow
import Derived.RegionTactic
import Derived.Deep.RegionWith
import Derived.Deep.Draws
import Derived.BigCall
import Derived.BigGuard
import Derived.Laws.Cover3
import Derived.Lib.BufferWrite
import Derived.Laws.CopyRow
import Derived.OwnWalk
set_option linter.unusedVariables false
set_option linter.unusedSimpArgs false
set_option maxHeartbeats 40000000
set_option maxRecDepth 100000
namespace Go.Proofs.YtbheflncgmhadaaGreat.Hand
open Go.RowKit Go.Proofs.YtbheflncgmhadaaGreatW.PrintWords Go.Proofs.YtbheflncgmhadaaGreatW.PrintLast Go.Proofs.YtbheflncgmhadaaGreatW.PrintMore
theorem strOf_bytesI (s:ByteArray):strOfNums (bytesI s.data.toList)=s:=by
 cases s with
 |mk d=>
  unfold strOfNums bytesI
  congr 1
  apply Array.ext'
  simp only [List.map_map]
  have:((fun n:Int=>UInt8.ofNat n.toNat)∘fun c:UInt8=>(c.toNat:Int))=id:=by funext c;simp
  rw [this,List.map_id]
theorem bytesI_snoc (s:ByteArray) (i:Nat) (h:i < s.size):bytesI (s.data.toList.take (i+1))=bytesI (s.data.toList.take i)++[((s[i]'h).toNat:Int)]:=by
 have hl:i < s.data.toList.length:=by rw [Array.length_toList];exact h
 rw [List.take_succ_eq_append_getElem hl,bytesI,bytesI,List.map_append]
 simp
 rfl
theorem bytesI_take_length (s:ByteArray) (i:Nat) (h:i≤s.size):(bytesI (s.data.toList.take i)).length=i:=by
 rw [bytesI_length,List.length_take,Array.length_toList]
 exact Nat.min_eq_left h
theorem entities_calls (s:ByteArray) (w:World) (h3:s.size≤4000000000000) (hs:∀ (i:Nat) (h:i < s.size),(s[i]'h).toNat≠60∧(s[i]'h).toNat≠62):
  Calls Tryz.prog 149 #[.string s] w fun e w'=>e=.returned (.string s)∧Below w.heap.size w w':=by
 obtain ⟨i0,hi0,hz0,hsz0,hby0⟩:=info_parts info5
 obtain ⟨W0,hmk,hown0,hg0⟩:=run_make_own (P:=Tryz.prog) w w.heap.size 62 5 i0 _ 1 Tryz.underlying62 hi0 hz0 hsz0 .i64 .i64 s.size (by rw [hby0];omega) (by unfold maxLen;omega) (Nat.le_refl _)
 have HS:=am hs
 have H3:=am h3
 clear hs h3
 go_enter Tryz.func149,Tryz.ntmps149
 go_wp2
 have HG:=am ((Below.refl w.heap.size w).grown hg0 (Nat.le_refl _) (fun k hk=>by cases hk))
 have HO0:=am hown0
 clear hg0 hown0 hmk
 go_loopg [3,4] s.size (fun gf v3 v4 wx=>∃ (i:Nat),v4=.int .i64 (i:Int)∧Aside0 (wx.ownsRow w.heap.size 5 1 v3 (bytesI (s.data.toList.take i)).length (nums .u8 (bytesI (s.data.toList.take i))))∧Aside0 (Below w.heap.size w wx)∧Aside0 (i≤s.size∧s.size - i≤gf))
 case atStart=>exact ⟨0,rfl,HO0,HG,⟨Nat.zero_le _,by omega⟩⟩
 case round=>
  obtain ⟨i,rfl,HO,HB,HP⟩:=hrel
  by_cases hlt:i < s.size
  ·obtain ⟨g',rfl⟩:∃ g',gk=g'+1:=⟨gk - 1,by have:=HP.out;omega⟩
   have hpp:=eq_true hlt
   have c4b:decide ((i:Int) < (s.size:Int))=true:=decide_eq_true (by omega)
   have hw1:wrap64 ((i:Int)+1)=((i+1:Nat):Int):=by have:=H3.out;unfold wrap64;omega
   have d1:(((s[i]'hlt).toNat:Int)==60)=false:=beq_eq_false_iff_ne.mpr (by have:=(HS.out i hlt).1;omega)
   have d2:(((s[i]'hlt).toNat:Int)==62)=false:=beq_eq_false_iff_ne.mpr (by have:=(HS.out i hlt).2;omega)
   obtain ⟨acc,hacc⟩:∃ acc,bytesI (s.data.toList.take i)=acc:=⟨_,rfl⟩
   rw [hacc] at HO
   have HACC:=am hacc
   have HL:=am (show acc.length≤4000000000000 by rw [← hacc,bytesI_take_length s i (by omega)];have:=H3.out;omega)
   clear hacc
   go_wp2_with (first|(at_builtin;refine Kd.R_append (Kd.int .u8) (w0:=w) w.heap.size rfl (.tmp 17) (.tmp 21) 62 5 (.int .u8 0) 1 rfl Tryz.underlying62 info5 rfl (by decide) (by omega) u3 acc ((s[i]'hlt).toNat:Int) [.int .u8 ((s[i]'hlt).toNat:Int)] (fun _=>True) (fun _=>False) rfl rfl ?aP (fun _ hk=>hk.elim) ?aF ?aO ?aB ?aS ?aL ?_;(case aP=>exact rfl);(case aB=>exact HB.out);(case aF=>exact (fun _ _=>trivial));(case aO=>exact Kd.R_of_own (h1:=fun _=>rfl) HO.out (fun _ _=>trivial));(case aS=>exact (below_size HB.out));(case aL=>have:=HL.out;omega);intro v1 w1 ho hb hg hat))
   go_roundg g'
   case measure=>omega
   case rel=>
    refine ⟨i+1,by rw [hw1],⟨?_⟩,⟨hb⟩,⟨by omega,by have:=HP.out;omega⟩⟩
    rw [bytesI_snoc s i hlt,HACC.out]
    exact Kd.own_of_R ho
  ·have c4b:decide ((i:Int) < (s.size:Int))=false:=decide_eq_false (by omega)
   have hi:i=s.size:=by have:=HP.out;omega
   have hall:bytesI (s.data.toList.take i)=bytesI s.data.toList:=by rw [hi,List.take_of_length_le (by rw [Array.length_toList];exact Nat.le_refl _)]
   rw [hall] at HO
   obtain ⟨A,c1,hv,hr⟩:=own_reads HO.out
   subst hv
   have hcv:=string_of_reads (P:=Tryz.prog) (c:=c1) Tryz.underlying62 Tryz.underlying5 Tryz.underlying9 hr
   rw [strOf_bytesI] at hcv
   clear hr hall
   go_wp2
   go_ret
   exact ⟨rfl,HB.out⟩
theorem decode_ascii (ad:Addr) (n c:Nat) (x:Int) (w:World) (hn:1≤n) (hx:w.cell? ad=some (.int .u8 x)) (h0:0≤x) (h1:x < 128):
  Calls Tryz.prog 163 #[.slice (some ad) n c] w fun e w'=>e=.returned (.tuple #[.int .i32 x,.int .i64 1])∧w'=w:=by
 have h2:(0:Int) < (n:Int):=by omega
 have h3:decide ((0:Int) < (n:Int))=true:=decide_eq_true h2
 have h3b:=eq_true h2
 have h4:decide (x < 128)=true:=decide_eq_true h1
 have h5:wrap32 x=x:=by unfold wrap32;omega
 have ha:w.cell? (ad.add 0)=some (.int .u8 x):=hx
 clear h2
 go_enter Tryz.func163,Tryz.ntmps163
 go_wp2
 go_loop [8] (fun v8=>v8=.int .i64 0) (fun _=>0)
 case atStart=>rfl
 case round=>
  subst hrel
  go_wp2
  go_ret2
  exact ⟨by simp [h5],rfl⟩
theorem check_calls (w:World) (pb:Nat) (mb:Nat) (r:Int) (hm:w.cell? ⟨pb,6,none⟩=some (.map (some mb))) (v:Value) (b:Bool) (hl:(Instr.lookup 96 (.map (some mb)) (.int .i32 r) true).run Tryz.prog w=.ok (.tuple #[v,.bool b]) w):
  Calls Tryz.prog 128 #[.pointer (some ⟨pb,0,none⟩),.int .i32 r] w fun e w'=>e=.returned (.bool b)∧w'=w:=by
 go_enter Tryz.func128,Tryz.ntmps128
 go_wp2
 go_ret
 exact ⟨rfl,rfl⟩
def Quiet (w:World) (pb:Nat) (q:Int→Prop):Prop:=∀ w1,Below w.heap.size w w1 →
 (∃ m:ByteArray,w1.cell? ⟨pb,9,none⟩=some (.string m)∧m.data.toList≠[100,105,115,97,98,108,101,100]) ∧
 ∃ mb,w1.cell? ⟨pb,6,none⟩=some (.map (some mb))∧∀ r:Int,q r→∃ v,(Instr.lookup 96 (.map (some mb)) (.int .i32 r) true).run Tryz.prog w1=.ok (.tuple #[v,.bool false]) w1
theorem bytesI_snocL (bs:List UInt8) (i:Nat) (h:i < bs.length):bytesI (bs.take (i+1))=bytesI (bs.take i)++[rd (bytesI bs) (i:Int)]:=by
 rw [List.take_succ_eq_append_getElem h,bytesI,bytesI,List.map_append]
 simp [rd,bytesI,h]
theorem escape_calls (w:World) (pb:Nat) (q:Int→Prop) (hcv:Quiet w pb q) (A0:Option Addr) (c0:Nat) (bs:List UInt8) (hr0:Kd.C (Kd.int .u8) w A0 (bytesI bs).length (bytesI bs)) (hc0:(bytesI bs).length≤c0) (h300:bs.length≤4000000000000)
  (hq:∀ (i:Nat) (h:i < bs.length),q (bs[i].toNat:Int)∧bs[i].toNat≠0∧bs[i].toNat < 128):
  Calls Tryz.prog 469 #[.pointer (some ⟨pb,0,none⟩),.slice A0 (bytesI bs).length c0] w fun e w'=>(∃ v,e=.returned v∧w'.ownsRow w.heap.size 5 1 v bs.length (nums .u8 (bytesI bs)))∧Below w.heap.size w w':=by
 obtain ⟨⟨m,hm9,hmd⟩,_⟩:=hcv w (Below.refl _ _)
 have hne:(m.toList==[100,105,115,97,98,108,101,100])=false:=by
  rw [beq_eq_false_iff_ne]
  intro e
  exact hmd (by rw [← ByteArray.toList_eq];exact e)
 have HR0:=am hr0
 have HC0:=am hc0
 have HV:=am hcv
 have H3:=am h300
 have HQ:=am hq
 clear hr0 hc0 hcv h300 hq
 obtain ⟨i0,hi0,hz0,hsz0,hby0⟩:=info_parts info5
 obtain ⟨W0,hmk,hown0,hg0⟩:=run_make_own (P:=Tryz.prog) w w.heap.size 62 5 i0 _ 1 Tryz.underlying62 hi0 hz0 hsz0 .i64 .i64 (bytesI bs).length (by rw [hby0];have:=H3.out;rw [bytesI_length];omega) (by have:=H3.out;rw [bytesI_length];unfold maxLen;omega) (Nat.le_refl _)
 go_enter Tryz.func469,Tryz.ntmps469
 go_wp2
 have HG:=am ((Below.refl w.heap.size w).grown hg0 (Nat.le_refl _) (fun k hk=>by cases hk))
 have HO0:=am hown0
 clear hg0 hown0 hmk
 go_loopg [5,6] bs.length (fun gf v5 v6 wx=>∃ (i:Nat),v6=.int .i64 (i:Int)∧Aside0 (wx.ownsRow w.heap.size 5 1 v5 (bytesI (bs.take i)).length (nums .u8 (bytesI (bs.take i))))∧Aside0 (Below w.heap.size w wx)∧Aside0 (i≤bs.length∧bs.length - i≤gf))
 case atStart=>exact ⟨0,rfl,HO0,HG,⟨Nat.zero_le _,by omega⟩⟩
 case round=>
  obtain ⟨i,rfl,HO,HB,HP⟩:=hrel
  by_cases hlt:(i:Int) < ((bytesI bs).length:Int)
  ·have hib:i < bs.length:=by rw [bytesI_length] at hlt;omega
   obtain ⟨g',rfl⟩:∃ g',gk=g'+1:=⟨gk - 1,by have:=HP.out;omega⟩
   have hw1:wrap64 ((i:Int)+1)=((i+1:Nat):Int):=by have:=H3.out;unfold wrap64;omega
   obtain ⟨ad,ead,hxa⟩:=Kd.at_int (Kd.C_below HR0.out HB.out) (i:Int) (by omega) hlt
   cases ead
   simp only [Int.toNat_natCast] at hxa
   have c4b:=decide_eq_true hlt
   have q1:=eq_true hlt
   obtain ⟨hq1,hq2,hq3⟩:=HQ.out i hib
   have hrd:rd (bytesI bs) (i:Int)=(bs[i].toNat:Int):=by simp [rd,bytesI,hib]
   have d0b:(rd (bytesI bs) (i:Int)==0)=false:=beq_eq_false_iff_ne.mpr (by rw [hrd];omega)
   have q146:i < (bytesI bs).length:=by rw [bytesI_length];exact hib
   have q147:i≤(bytesI bs).length:=Nat.le_of_lt q146
   have q148:(bytesI bs).length≤c0:=HC0.out
   have hci:(c0=i)=False:=eq_false (by omega)
   have CD:=am (decode_ascii (ad.add i) ((bytesI bs).length - i) (c0 - i) (rd (bytesI bs) (i:Int)) wr (by omega) hxa (by rw [hrd];omega) (by rw [hrd];omega))
   obtain ⟨⟨m1,hm19,hm1d⟩,mb,hm6,hlk⟩:=HV.out wr HB.out
   obtain ⟨vv,hl⟩:=hlk (rd (bytesI bs) (i:Int)) (by rw [hrd];exact hq1)
   have CC:=am (check_calls wr pb mb (rd (bytesI bs) (i:Int)) hm6 vv false hl)
   obtain ⟨acc,hacc⟩:∃ acc,bytesI (bs.take i)=acc:=⟨_,rfl⟩
   rw [hacc] at HO
   have HACC:=am hacc
   have HL:=am (show acc.length≤4000000000000 by rw [← hacc,bytesI_length,List.length_take];have:=H3.out;omega)
   clear hacc hm19 hm1d hm6 hlk hl hq1 hq2 hq3 hrd
   go_wp2_with (go_at_call 163;fail)
   refine CD.out.mono ?_
   rintro e w1 ⟨rfl,h2⟩
   rw [h2]
   clear h2
   go_wp2_with (go_at_call 128;fail)
   refine CC.out.mono ?_
   rintro e w1 ⟨rfl,h2⟩
   rw [h2]
   clear h2
   go_wp2_with (first|(at_builtin;refine Kd.R_append (Kd.int .u8) (w0:=w) w.heap.size rfl (.tmp 52) (.tmp 57) 62 5 (.int .u8 0) 1 rfl Tryz.underlying62 info5 rfl (by decide) (by omega) u5 acc (rd (bytesI bs) (i:Int)) [.int .u8 (rd (bytesI bs) (i:Int))] (fun _=>True) (fun _=>False) rfl rfl ?aP (fun _ hk=>hk.elim) ?aF ?aO ?aB ?aS ?aL ?_;(case aP=>exact rfl);(case aB=>exact HB.out);(case aF=>exact (fun _ _=>trivial));(case aO=>exact Kd.R_of_own (h1:=fun _=>rfl) HO.out (fun _ _=>trivial));(case aS=>exact (below_size HB.out));(case aL=>have:=HL.out;omega);intro v1 w1 ho hb hg hat))
   go_roundg g'
   case measure=>omega
   case rel=>
    refine ⟨i+1,by rw [hw1],⟨?_⟩,⟨hb⟩,⟨by omega,by have:=HP.out;omega⟩⟩
    rw [bytesI_snocL bs i hib,HACC.out]
    exact Kd.own_of_R ho
  ·have hi:i=bs.length:=by have:=HP.out;rw [bytesI_length] at hlt;omega
   have c4b:=decide_eq_false hlt
   have hall:bytesI (bs.take i)=bytesI bs:=by rw [hi,List.take_of_length_le (Nat.le_refl _)]
   rw [hall,bytesI_length] at HO
   obtain ⟨A,c1,hv,hr⟩:=own_reads HO.out
   subst hv
   have c4n:(i < (bytesI bs).length)=False:=eq_false (by omega)
   clear hlt hall hr hi
   go_wp2
   go_ret
   exact ⟨⟨_,rfl,HO.out⟩,HB.out⟩
theorem cell_new (w:World) (v:Value) (e k:Nat) (hk:w.heap.size=k):(w.alloc (.cells #[v] e)).cell? ⟨k,0,none⟩=some v:=by
 subst hk
 simp [World.cell?,World.alloc,-World.alloc_eq]
theorem unescape_calls (w:World) (pb:Nat) (q:Int→Prop) (hcv:Quiet w pb q) (A0:Option Addr) (c0:Nat) (bs:List UInt8) (hr0:Kd.C (Kd.int .u8) w A0 (bytesI bs).length (bytesI bs)) (hc0:(bytesI bs).length≤c0) (h300:bs.length≤4000000000000)
  (hq:∀ (i:Nat) (h:i < bs.length),bs[i].toNat≠7):
  Calls Tryz.prog 472 #[.pointer (some ⟨pb,0,none⟩),.slice A0 (bytesI bs).length c0] w fun e w'=>(∃ v,e=.returned v∧w'.ownsRow w.heap.size 5 1 v bs.length (nums .u8 (bytesI bs)))∧Below w.heap.size w w':=by
 have hmf:∀ (fn:Fn) (first cap:Array Value) (w:World),(Instr.makeFunc fn first cap).run Tryz.prog w=.ok (.func fn first cap) w:=fun _ _ _ _=>rfl
 obtain ⟨W2,hW2⟩:∃ W2,(w.alloc (.cells #[.pointer (some ⟨pb,0,none⟩)] 56)).alloc (.cells #[.slice A0 (bytesI bs).length c0] 62)=W2:=⟨_,rfl⟩
 have hb2:Below w.heap.size w W2:=by rw [← hW2];exact below_alloc (below_alloc (Below.refl _ _) _) _
 have hs2:W2.heap.size=w.heap.size+2:=by rw [← hW2];simp [World.alloc,-World.alloc_eq]
 have hx0:W2.cell? ⟨w.heap.size,0,none⟩=some (.pointer (some ⟨pb,0,none⟩)):=by rw [← hW2];simp [World.cell?,World.alloc,-World.alloc_eq,Array.getElem?_push]
 have hx1:W2.cell? ⟨w.heap.size+1,0,none⟩=some (.slice A0 (bytesI bs).length c0):=by rw [← hW2];exact cell_new _ _ _ _ (by simp [World.alloc,-World.alloc_eq])
 obtain ⟨⟨m,hm9,hmd⟩,_⟩:=hcv W2 hb2
 have hne:(m.toList==[100,105,115,97,98,108,101,100])=false:=by
  rw [beq_eq_false_iff_ne]
  intro e
  exact hmd (by rw [← ByteArray.toList_eq];exact e)
 obtain ⟨i0,hi0,hz0,hsz0,hby0⟩:=info_parts info5
 have hmk:(Instr.makeSlice 62 (.int .i64 ((bytesI bs).length:Int)) (.int .i64 ((bytesI bs).length:Int))).run Tryz.prog W2=.ok (.slice (some ⟨W2.heap.size,0,none⟩) (bytesI bs).length (bytesI bs).length) (W2.alloc (.cells (madeCells (Value.int .u8 0).cells ((bytesI bs).length * i0.size)) 5)):=by
  have:=run_make (P:=Tryz.prog) W2 62 5 i0 (.int .u8 0) Tryz.underlying62 hi0 hz0 .i64 .i64 ((bytesI bs).length:Int) ((bytesI bs).length:Int) (by omega) (by omega) (by rw [hby0,bytesI_length];omega) (by rw [bytesI_length];omega)
  simpa using this
 obtain ⟨W3,hW3⟩:∃ W3,W2.alloc (.cells (madeCells (Value.int .u8 0).cells ((bytesI bs).length * i0.size)) 5)=W3:=⟨_,rfl⟩
 rw [hW3] at hmk
 have hb3:Below w.heap.size w W3:=by rw [← hW3];exact below_alloc hb2 _
 have hb23:Below W2.heap.size W2 W3:=by rw [← hW3];exact below_alloc (Below.refl _ _) _
 have hs3:W3.heap.size=w.heap.size+3:=by rw [← hW3];simp [World.alloc,-World.alloc_eq,hs2]
 have hy1:W3.cell? ⟨w.heap.size+1,0,none⟩=some (.slice A0 (bytesI bs).length c0):=by rw [← hW3,World.cell?_alloc_lt _ _ _ (by rw [hs2];exact Nat.lt_succ_self _)];exact hx1
 obtain ⟨W4,hmk4,hown0,hg0⟩:=run_make_own (P:=Tryz.prog) W3 W3.heap.size 62 5 i0 _ 1 Tryz.underlying62 hi0 hz0 hsz0 .i64 .i64 (bytesI bs).length (by rw [hby0,bytesI_length];omega) (by rw [bytesI_length];unfold maxLen;omega) (Nat.le_refl _)
 have hy4:W4.cell? ⟨w.heap.size+1,0,none⟩=some (.slice A0 (bytesI bs).length c0):=by rw [(((Below.refl W3.heap.size W3).grown hg0 (Nat.le_refl _) (fun k hk=>by cases hk))).cell (by show w.heap.size+1 < _;omega)];exact hy1
 have HG:=am ((Below.refl W3.heap.size W3).grown hg0 (Nat.le_refl _) (fun k hk=>by cases hk))
 have HO0:=am hown0
 have HR0:=am hr0
 have HR3:=am (Kd.C_below hr0 hb3)
 have HC0:=am hc0
 have H3:=am h300
 have HQ:=am hq
 have HB3:=am (And.intro hb3 hs3)
 clear hr0 hc0 h300 hq hb2 hs2 hb23 hb3 hs3 hcv hg0 hown0 hmd
 go_enter Tryz.func472,Tryz.ntmps472
 go_wp2
 go_loopg [7] bs.length (fun gf v7 wx=>∃ (i:Nat),v7=.int .i64 (i:Int)∧wx=W3∧Aside0 (i≤bs.length∧bs.length - i≤gf))
 case atStart=>exact ⟨0,rfl,rfl,⟨Nat.zero_le _,by omega⟩⟩
 case round=>
  obtain ⟨i,rfl,hwx,HP⟩:=hrel
  subst hwx
  by_cases hlt:(i:Int) < ((bytesI bs).length:Int)
  ·have hib:i < bs.length:=by rw [bytesI_length] at hlt;omega
   obtain ⟨g',rfl⟩:∃ g',gk=g'+1:=⟨gk - 1,by have:=HP.out;omega⟩
   have hw1:wrap64 ((i:Int)+1)=((i+1:Nat):Int):=by have:=H3.out;unfold wrap64;omega
   obtain ⟨ad,ead,hxa⟩:=Kd.at_int HR3.out (i:Int) (by omega) hlt
   cases ead
   simp only [Int.toNat_natCast] at hxa
   have c4b:=decide_eq_true hlt
   have q1:=eq_true hlt
   have hrd:rd (bytesI bs) (i:Int)=(bs[i].toNat:Int):=by simp [rd,bytesI,hib]
   have d0b:(rd (bytesI bs) (i:Int)==7)=false:=beq_eq_false_iff_ne.mpr (by rw [hrd];have:=HQ.out i hib;omega)
   have d0c:(rd (bytesI bs) (i:Int) != 7)=true:=by simp [bne,d0b]
   have q146:i < (bytesI bs).length:=by rw [bytesI_length];exact hib
   clear hrd
   go_wp2
   go_roundg g'
   case measure=>omega
   case rel=>exact ⟨i+1,by rw [hw1],rfl,⟨by omega,by have:=HP.out;omega⟩⟩
  ·have hi:i=bs.length:=by have:=HP.out;rw [bytesI_length] at hlt;omega
   have c4b:=decide_eq_false hlt
   have c4n:(i < (bytesI bs).length)=False:=eq_false (by omega)
   go_wp2
   have HG4:Aside0 (Below w.heap.size w W4):=⟨HB3.out.1.trans (HG.out.mono (by have:=HB3.out.2;omega))⟩
   have HO4:Aside0 (W4.ownsRow w.heap.size 5 1 (.slice (some ⟨wr.heap.size,0,none⟩) 0 (bytesI bs).length) 0 []):=⟨own_weaken HO0.out (by have:=HB3.out.2;omega)⟩
   clear HG HO0
   go_loopg [9,56] bs.length (fun gf v9 v56 wx=>∃ (i:Nat),v56=.int .i64 (i:Int)∧Aside0 (wx.ownsRow w.heap.size 5 1 v9 (bytesI (bs.take i)).length (nums .u8 (bytesI (bs.take i))))∧Aside0 (Below w.heap.size w wx)∧Aside0 (i≤bs.length∧bs.length - i≤gf))
   case atStart=>exact ⟨0,rfl,HO4,HG4,⟨Nat.zero_le _,by omega⟩⟩
   case round=>
    obtain ⟨i,rfl,HO,HB,HP⟩:=hrel
    by_cases hlt:(i:Int) < ((bytesI bs).length:Int)
    ·have hib:i < bs.length:=by rw [bytesI_length] at hlt;omega
     obtain ⟨g',rfl⟩:∃ g',gk=g'+1:=⟨gk - 1,by have:=HP.out;omega⟩
     have hw1:wrap64 ((i:Int)+1)=((i+1:Nat):Int):=by have:=H3.out;unfold wrap64;omega
     obtain ⟨ad,ead,hxa⟩:=Kd.at_int (Kd.C_below HR0.out HB.out) (i:Int) (by omega) hlt
     cases ead
     simp only [Int.toNat_natCast] at hxa
     have c4b:=decide_eq_true hlt
     have q1:=eq_true hlt
     have hrd:rd (bytesI bs) (i:Int)=(bs[i].toNat:Int):=by simp [rd,bytesI,hib]
     have d0b:(rd (bytesI bs) (i:Int)==7)=false:=beq_eq_false_iff_ne.mpr (by rw [hrd];have:=HQ.out i hib;omega)
     have d0c:(rd (bytesI bs) (i:Int) != 7)=true:=by simp [bne,d0b]
     have q146:i < (bytesI bs).length:=by rw [bytesI_length];exact hib
     obtain ⟨acc,hacc⟩:∃ acc,bytesI (bs.take i)=acc:=⟨_,rfl⟩
     rw [hacc] at HO
     have HACC:=am hacc
     have HL:=am (show acc.length≤4000000000000 by rw [← hacc,bytesI_length,List.length_take];have:=H3.out;omega)
     clear hacc hrd
     go_wp2_with (first|(at_builtin;refine Kd.R_append (Kd.int .u8) (w0:=w) w.heap.size rfl (.tmp 63) (.tmp 65) 62 5 (.int .u8 0) 1 rfl Tryz.underlying62 info5 rfl (by decide) (by omega) u9 acc (rd (bytesI bs) (i:Int)) [.int .u8 (rd (bytesI bs) (i:Int))] (fun _=>True) (fun _=>False) rfl rfl ?aP (fun _ hk=>hk.elim) ?aF ?aO ?aB ?aS ?aL ?_;(case aP=>exact rfl);(case aB=>exact HB.out);(case aF=>exact (fun _ _=>trivial));(case aO=>exact Kd.R_of_own (h1:=fun _=>rfl) HO.out (fun _ _=>trivial));(case aS=>exact (below_size HB.out));(case aL=>have:=HL.out;omega);intro v1 w1 ho hb hg hat))
     go_roundg g'
     case measure=>omega
     case rel=>
      refine ⟨i+1,by rw [hw1],⟨?_⟩,⟨hb⟩,⟨by omega,by have:=HP.out;omega⟩⟩
      rw [bytesI_snocL bs i hib,HACC.out]
      exact Kd.own_of_R ho
    ·have hi:i=bs.length:=by have:=HP.out;rw [bytesI_length] at hlt;omega
     have c4b:=decide_eq_false hlt
     have hall:bytesI (bs.take i)=bytesI bs:=by rw [hi,List.take_of_length_le (Nat.le_refl _)]
     rw [hall,bytesI_length] at HO
     obtain ⟨A,c1,hv,hr⟩:=own_reads HO.out
     subst hv
     have c4n:(i < (bytesI bs).length)=False:=eq_false (by omega)
     clear hlt hall hr hi
     go_wp2
     go_ret
     exact ⟨⟨_,rfl,HO.out⟩,HB.out⟩
def Twain (v u:Value):Prop:=∀ k,v.ownBlock=some k→u.ownBlock≠some k
theorem twain_symm {v u:Value} (h:Twain v u):Twain u v:=fun k hu hv=>h k hv hu
theorem twain_append {W w1:World} {base e n:Nat} {v v1 u:Value} {xs:List Value} (ho:W.ownsRow base e 1 u n xs) (hap:Twain v u) (hg:W.grownBy w1 v.ownBlock)
  (hat:v1.ownBlock=v.ownBlock∨∃ b,v1.ownBlock=some b∧W.heap.size≤b):w1.ownsRow base e 1 u n xs∧Twain v1 u:=by
 have hlt:=own_lt ho
 refine ⟨own_move ho fun k hk=>hg.block k (hlt k hk) (fun e=>hap k e.symm hk),fun k hk hu=>?_⟩
 rcases hat with hat|⟨b,hb,hle⟩
 ·exact hap k (hat▸hk) hu
 ·have:=hlt k hu
  rw [hb] at hk
  injection hk with hk
  omega
theorem read_own {W:World} {base c:Nat} {A:Option Addr} {s:List Int} (h:W.ownsRow base 5 1 (.slice A s.length c) s.length (nums .u8 s)):Kd.C (Kd.int .u8) W A s.length s:=
 (Kd.R_reads' (Kd.R_of_own (h1:=fun _=>rfl) (ok:=fun _=>True) h (fun _ _=>trivial))).2.2
theorem read_one {W:World} {ad:Addr} {c i:Nat} {xs:List Int} (h:Kd.C (Kd.int .u8) W (some ad) xs.length xs) (hc:xs.length≤c) (hi:i < xs.length) (hci:(c=i)=False):Kd.C (Kd.int .u8) W (some (ad.add i)) 1 [rd xs (i:Int)]:=by
 have h1:=Kd.C_mid (lo:=i) (hi:=i+1) (c:=c) h (by omega) hi hc
 have e:(xs.take (i+1)).drop i=[rd xs (i:Int)]:=by
  rw [List.take_succ_eq_append_getElem hi,List.drop_left' (by simp;omega)]
  simp [rd,hi]
 rw [e] at h1
 simpa [hci,show (Kd.int .u8).sz=1 from rfl] using h1
theorem bytesI_take (bs:List UInt8) (n:Nat):(bytesI bs).take n=bytesI (bs.take n):=by simp [bytesI]
theorem bytesI_drop (bs:List UInt8) (n:Nat):(bytesI bs).drop n=bytesI (bs.drop n):=by simp [bytesI]
theorem strOf_list (bs:List UInt8):(strOfNums (bytesI bs)).toList=bs:=by
 have h:=strOf_bytesI ⟨bs.toArray⟩
 rw [ByteArray.toList_eq]
 have e:strOfNums (bytesI bs)=⟨bs.toArray⟩:=by simpa using h
 rw [e]
theorem replaceB_same (bs:List UInt8) (a b:ByteArray) (h3:bs.length≤4000000000000) (ha:0 < a.size∧a.size≤10) (hno:∀ i,i < bs.length→(bs.take (i+a.size)).drop i≠a.data.toList):
  ∀ (k i:Nat),i≤bs.length→bs.length - i < k→PzzReplaceBytes.commonmark_zzReplaceBytes.l0 k (bytesI bs) a b (bytesI (bs.take i)) (i:Int)=some (bytesI bs):=by
 intro k
 induction k with
 |zero=>intro i _ h;omega
 |succ k ih=>
  intro i hi hk
  have hw1:wrap64 ((i:Int)+(a.size:Int))=((i+a.size:Nat):Int):=by unfold wrap64;omega
  have hw2:wrap64 ((i:Int)+1)=((i+1:Nat):Int):=by unfold wrap64;omega
  unfold PzzReplaceBytes.commonmark_zzReplaceBytes.l0
  by_cases hlt:i < bs.length
  ·have e1:=bytesI_snocL bs i hlt
   have e2:=ih (i+1) (by omega) (by omega)
   have hn:¬ ((strOfNums (((bytesI bs).take (((i+a.size:Nat):Int)).toNat).drop ((i:Int)).toNat)).toList=a.toList):=by
    simp only [Int.toNat_natCast]
    rw [bytesI_take,bytesI_drop,strOf_list,ByteArray.toList_eq]
    exact hno i hlt
   have hl:(bytesI (bs.take i)).length < 140737488355328:=by rw [bytesI_length,List.length_take];omega
   rw [hw1,hw2,← e1,e2,if_pos (by rw [bytesI_length];omega)]
   simp only [hn,hl,if_false,if_true]
   have p1:(0:Int)≤(i:Int):=by omega
   have p2:(i:Int)≤((i+a.size:Nat):Int):=by omega
   simp only [p1,p2,if_true,ite_self]
  ·have e:i=bs.length:=by omega
   rw [if_neg (by rw [bytesI_length];omega),e,List.take_length]
theorem no_byte (bs:List UInt8) (x:UInt8) (hs:∀ i:Nat,bs[i]?≠some x) (i j:Nat) (t:List UInt8):(bs.take j).drop i≠x::t:=by
 intro e
 have h0:=congrArg (fun l=>l[0]?) e
 simp only [List.getElem?_drop,List.getElem?_take] at h0
 simp at h0
 exact hs i h0.2
theorem replaceBytes_calls (w:World) (A0:Option Addr) (c0:Nat) (bs:List UInt8) (x:UInt8) (t:List UInt8) (b:ByteArray) (hr0:Kd.C (Kd.int .u8) w A0 (bytesI bs).length (bytesI bs)) (hc0:(bytesI bs).length≤c0) (h300:bs.length≤4000000000000) (ht:t.length≤9)
  (hs:∀ i:Nat,bs[i]?≠some x):
  Calls Tryz.prog 249 #[.slice A0 (bytesI bs).length c0,.string ⟨(x::t).toArray⟩,.string b] w fun e w'=>(∃ v,e=.returned v∧w'.ownsRow w.heap.size 5 1 v bs.length (nums .u8 (bytesI bs)))∧Below w.heap.size w w':=by
 have h1:=replaceB_same bs (⟨(x::t).toArray⟩:ByteArray) b h300 (by constructor <;> simp [ByteArray.size] <;> omega) (fun i _=>no_byte bs x hs i _ _) (bs.length+1) 0 (Nat.zero_le _) (by omega)
 refine (PzzReplaceBytes.commonmark_zzReplaceBytes.calls (bs.length+1) A0 c0 (bytesI bs) _ b (bytesI bs) w hr0 hc0 h1).mono ?_
 rintro e w' ⟨v,rfl,ho,hb⟩
 refine ⟨⟨v,rfl,?_⟩,hb⟩
 have:=Kd.own_of_R ho
 rw [bytesI_length] at this
 exact this
def Alnum (n:Int):Prop:=(97≤n∧n≤122)∨(65≤n∧n≤90)∨(48≤n∧n≤57)
theorem w64s (j:Nat) (h:j≤4000000000001):wrap64 ((j:Int)+1)=((j+1:Nat):Int):=by unfold wrap64;omega
theorem w64p (j:Nat) (h:j≤4000000000001) (h0:j≠0):wrap64 ((j:Int) - 1)=((j - 1:Nat):Int):=by unfold wrap64;omega
theorem at_byte {w:World} {ad:Addr} {bs:List UInt8} (h:Kd.C (Kd.int .u8) w (some ad) (bytesI bs).length (bytesI bs)) (i:Nat) (hi:i < bs.length):w.cell? (ad.add i)=some (.int .u8 (bs[i].toNat:Int)):=by
 obtain ⟨ad2,ead2,hxa⟩:=Kd.at_int h (i:Int) (by omega) (by rw [bytesI_length];omega)
 cases ead2
 simp only [Int.toNat_natCast] at hxa
 rw [hxa]
 simp [rd,bytesI,hi]
theorem add_add (ad:Addr) (i j:Nat):(ad.add i).add j=ad.add (i+j):=by
 unfold Addr.add
 rcases Nat.eq_zero_or_pos i with h|h <;> rcases Nat.eq_zero_or_pos j with h'|h' <;> simp [h,h',Nat.ne_of_gt,Nat.add_assoc] <;> omega
def Trims (tab:Nat→Int) (A0:Option Addr) (c0:Nat) (bs:List UInt8) (v:Value):Prop:=
 (v=.slice none 0 0∧∀ (j:Nat) (h:j < bs.length),tab bs[j].toNat≠0) ∨
 ∃ (ad:Addr) (i n:Nat),A0=some ad∧v=.slice (some (ad.add i)) (n+1) (c0 - i)∧∃ (h:i+n < bs.length),(∀ (j:Nat) (h:j < bs.length),j < i→tab bs[j].toNat≠0)∧tab bs[i].toNat=0∧tab bs[i+n].toNat=0 ∧
  ∀ (j:Nat) (h:j < bs.length),i+n < j→tab bs[j].toNat≠0
theorem trimSpaceB_calls (w:World) (A0:Option Addr) (c0:Nat) (bs:List UInt8) (hr0:Kd.C (Kd.int .u8) w A0 (bytesI bs).length (bytesI bs)) (hc0:(bytesI bs).length≤c0) (h300:bs.length≤4000000000000) (hq:∀ (i:Nat) (h:i < bs.length),bs[i].toNat < 128) (tab:Nat→Int) (htab:∀ c:Nat,c < 128→w.cell? ⟨0,c,none⟩=some (.int .u8 (tab c))):
  Calls Tryz.prog 151 #[.slice A0 (bytesI bs).length c0] w fun e w'=>(∃ v,e=.returned v∧Trims tab A0 c0 bs v)∧w'=w:=by
 have HR0:=am hr0
 have HC0:=am hc0
 have H3:=am h300
 have HQ:=am hq
 have HT:=am htab
 clear hr0 hc0 h300 hq htab
 go_enter Tryz.func151,Tryz.ntmps151
 go_wp2
 go_loopg [0,9] bs.length (fun gf v0 v9 wx=>∃ (i:Nat),v0=.slice A0 (bytesI bs).length c0∧v9=.int .i64 (i:Int)∧wx=w∧Aside0 (i≤bs.length∧bs.length - i≤gf)∧Aside0 (∀ j (h:j < bs.length),j < i→tab bs[j].toNat≠0))
 case atStart=>exact ⟨0,rfl,rfl,rfl,⟨Nat.zero_le _,by omega⟩,⟨fun _ _ h=>absurd h (Nat.not_lt_zero _)⟩⟩
 case round=>
  obtain ⟨i,rfl,rfl,hwx,HP,HM⟩:=hrel
  subst hwx
  by_cases hlt:(i:Int) < ((bytesI bs).length:Int)
  ·have hib:i < bs.length:=by rw [bytesI_length] at hlt;omega
   obtain ⟨g',rfl⟩:∃ g',gk=g'+1:=⟨gk - 1,by have:=HP.out;omega⟩
   have hw1:wrap64 ((i:Int)+1)=((i+1:Nat):Int):=by have:=H3.out;unfold wrap64;omega
   obtain ⟨ad,ead,hxa⟩:=Kd.at_int HR0.out (i:Int) (by omega) hlt
   cases ead
   simp only [Int.toNat_natCast] at hxa
   have c4b:=decide_eq_true hlt
   have q1:=eq_true hlt
   have hq3:=HQ.out i hib
   have hrd:rd (bytesI bs) (i:Int)=(bs[i].toNat:Int):=by simp [rd,bytesI,hib]
   rw [hrd] at hxa
   have q146:i < (bytesI bs).length:=by rw [bytesI_length];exact hib
   have q147:i≤(bytesI bs).length:=Nat.le_of_lt q146
   have q148:(bytesI bs).length≤c0:=HC0.out
   have hci:(c0=i)=False:=eq_false (by omega)
   obtain ⟨x,hx⟩:∃ x,bs[i].toNat=x:=⟨_,rfl⟩
   rw [hx] at hxa hq3
   have d1:decide ((x:Int)≥128)=false:=decide_eq_false (by omega)
   have d2:((x:Int)≥128)=False:=eq_false (by omega)
   have d3:(128≤(x:Int))=False:=eq_false (by omega)
   have d4:(x < 256)=True:=eq_true (by omega)
   have d5:((x:Int) < 256)=True:=eq_true (by omega)
   have hcell:=HT.out x hq3
   clear hrd
   by_cases h0:tab x=0
   ·have e0:(tab x==0)=true:=beq_iff_eq.mpr h0
    have e1:(tab x != 0)=false:=by simp [bne,e0]
    have l1:((bytesI bs).length - i:Nat) - 1 < (bytesI bs).length:=by omega
    have l2:wrap64 ((((bytesI bs).length - i:Nat):Int) - 1)=(((bytesI bs).length - i - 1:Nat):Int):=by have:=H3.out;have:=bytesI_length bs;unfold wrap64;omega
    go_wp2
    go_loopg [5] (bs.length+1) (fun gf v5 wx=>∃ (j:Nat),v5=.int .i64 (j:Int)∧wx=wr∧Aside0 (i+j < bs.length∧j+1≤gf)∧Aside0 (∀ m (h:m < bs.length),i+j < m→tab bs[m].toNat≠0))
    case atStart=>exact ⟨(bytesI bs).length - i - 1,by rw [l2],rfl,⟨by rw [bytesI_length];omega,by rw [bytesI_length];omega⟩,⟨fun m h h1=>by rw [bytesI_length] at h1;omega⟩⟩
    case round=>
     obtain ⟨j,rfl,hwx2,HP2,HM2⟩:=hrel
     subst hwx2
     have hjb:i+j < bs.length:=HP2.out.1
     have hxa2:=at_byte HR0.out (i+j) hjb
     have hq4:=HQ.out (i+j) hjb
     obtain ⟨y,hy⟩:∃ y,bs[i+j].toNat=y:=⟨_,rfl⟩
     rw [hy] at hxa2 hq4
     have hxb:wr.cell? ((ad.add i).add j)=some (.int .u8 (y:Int)):=by rw [add_add];exact hxa2
     obtain ⟨g2,rfl⟩:∃ g2,gk=g2+1:=⟨gk - 1,by have:=HP2.out;clear d2 d3 d4 d5 hci q1;omega⟩
     have j300:j≤4000000000001:=by have:=H3.out;clear d2 d3 d4 d5 hci q1;omega
     have f1:decide ((y:Int)≥128)=false:=decide_eq_false (by omega)
     have f2:((y:Int)≥128)=False:=eq_false (by omega)
     have f3:(128≤(y:Int))=False:=eq_false (by omega)
     have f4:(y < 256)=True:=eq_true (by omega)
     have f5:((y:Int) < 256)=True:=eq_true (by omega)
     have p1:decide ((j:Int)≥0)=true:=decide_eq_true (by omega)
     have p2:((j:Int)≥0)=True:=eq_true (by omega)
     have p3:j < (bytesI bs).length - i:=by rw [bytesI_length];omega
     have p3b:((j:Int) < (((bytesI bs).length - i:Nat):Int))=True:=eq_true (by omega)
     have hcell2:=HT.out y hq4
     obtain ⟨m,hm⟩:∃ m,j+1=m:=⟨_,rfl⟩
     have hw3:=w64s j j300
     rw [hm] at hw3
     have p4:m≤(bytesI bs).length - i:=by rw [← hm];exact Nat.succ_le_of_lt p3
     have p6:m≤c0 - i:=Nat.le_trans p4 (Nat.sub_le_sub_right q148 i)
     have HM3:=am hm
     clear hm
     clear hxa2 hcell c4b q1 hci hxa d1 d2 d3 d4 d5 e0 e1 l1 l2 hw1 q146 q147
     by_cases h1:tab y=0
     ·have e0b:(tab y==0)=true:=beq_iff_eq.mpr h1
      have e1b:(tab y != 0)=false:=by simp [bne,e0b]
      go_wp2
      clear f1 f2 f3 f4 f5 p1 p2 p3b e0b e1b
      go_ret
      exact ⟨⟨_,rfl,.inr ⟨ad,i,j,rfl,rfl,hjb,HM.out,by rw [hx];exact h0,by rw [hy];exact h1,HM2.out⟩⟩,rfl⟩
     ·have e0b:(tab y==0)=false:=beq_eq_false_iff_ne.mpr h1
      have e1b:(tab y != 0)=true:=by simp [bne,e0b]
      have hj0:j≠0:=by rintro rfl;simp only [Nat.add_zero] at hy;rw [hx] at hy;rw [hy] at h0;exact h1 h0
      have hw4:=w64p j j300 hj0
      go_wp2
      clear f2 f3 f4 f5 p2 p3b
      go_roundg g2
      case measure=>omega
      case rel=>
       refine ⟨j - 1,by congr 1;omega,rfl,⟨by omega,by have:=HP2.out;omega⟩,⟨fun m1 hm1 h1m=>?_⟩⟩
       rcases Nat.lt_or_ge (i+j) m1 with h|h
       ·exact HM2.out m1 hm1 h
       ·have:m1=i+j:=by omega
        subst this;rw [hy];exact h1
   ·have e0:(tab x==0)=false:=beq_eq_false_iff_ne.mpr h0
    have e1:(tab x != 0)=true:=by simp [bne,e0]
    go_wp2
    go_roundg g'
    case measure=>omega
    case rel=>
     refine ⟨i+1,rfl,by rw [hw1],rfl,⟨by omega,by have:=HP.out;omega⟩,⟨fun j hj hji=>?_⟩⟩
     rcases Nat.lt_succ_iff_lt_or_eq.1 hji with h|h
     ·exact HM.out j hj h
     ·subst h;rw [hx];exact h0
  ·have hi:i=bs.length:=by have:=HP.out;rw [bytesI_length] at hlt;omega
   have c4b:=decide_eq_false hlt
   have c4n:(i < (bytesI bs).length)=False:=eq_false (by omega)
   go_wp2
   go_ret
   exact ⟨⟨_,rfl,.inl ⟨rfl,fun j hj=>HM.out j hj (by omega)⟩⟩,rfl⟩
def trimBy (p:UInt8→Bool) (bs:List UInt8):List UInt8:=((bs.dropWhile p).reverse.dropWhile p).reverse
theorem dropWhile_all {p:UInt8→Bool}:∀ (l r:List UInt8),(∀ x∈l,p x=true)→(l++r).dropWhile p=r.dropWhile p
 |[],_,_=>rfl
 |x::l,r,h=>by
  rw [List.cons_append,List.dropWhile_cons,if_pos (h x List.mem_cons_self)]
  exact dropWhile_all l r fun y hy=>h y (List.mem_cons_of_mem _ hy)
theorem dropWhile_head {p:UInt8→Bool} (x:UInt8) (l:List UInt8) (h:p x=false):(x::l).dropWhile p=x::l:=by
 rw [List.dropWhile_cons,if_neg (by rw [h];simp)]
theorem trimBy_all {p:UInt8→Bool} (bs:List UInt8) (h:∀ x∈bs,p x=true):trimBy p bs=[]:=by
 unfold trimBy
 have:=dropWhile_all bs [] h
 rw [List.append_nil] at this
 rw [this];rfl
theorem trimBy_mid {p:UInt8→Bool} (A M B:List UInt8) (x y:UInt8) (M1 M2:List UInt8) (hA:∀ z∈A,p z=true) (hB:∀ z∈B,p z=true) (h1:M=x::M1) (h2:M=M2++[y]) (hx:p x=false) (hy:p y=false):
  trimBy p (A++(M++B))=M:=by
 unfold trimBy
 rw [dropWhile_all A _ hA]
 have e:(M++B).dropWhile p=M++B:=by rw [h1];exact dropWhile_head x _ hx
 rw [e,List.reverse_append,dropWhile_all _ _ (fun z hz=>hB z (List.mem_reverse.1 hz))]
 have e2:M.reverse.dropWhile p=M.reverse:=by rw [h2,List.reverse_append];exact dropWhile_head y _ hy
 rw [e2,List.reverse_reverse]
theorem trimBy_at {p:UInt8→Bool} (bs:List UInt8) (i n:Nat) (h:i+n < bs.length) (h1:∀ (j:Nat) (h:j < bs.length),j < i→p bs[j]=true) (h2:p bs[i]=false) (h3:p bs[i+n]=false)
  (h4:∀ (j:Nat) (h:j < bs.length),i+n < j→p bs[j]=true):trimBy p bs=(bs.take (i+(n+1))).drop i:=by
 have e1:bs=bs.take i++((bs.take (i+(n+1))).drop i++bs.drop (i+(n+1))):=by
  have a1:(bs.take (i+(n+1))).drop i++bs.drop (i+(n+1))=bs.drop i:=by
   have:=List.drop_append_of_le_length (l₁:=bs.take (i+(n+1))) (l₂:=bs.drop (i+(n+1))) (i:=i) (by rw [List.length_take];omega)
   rw [List.take_append_drop] at this
   exact this.symm
  rw [a1,List.take_append_drop]
 conv=>lhs;rw [e1]
 refine trimBy_mid _ _ _ bs[i] bs[i+n] ((bs.take (i+(n+1))).drop (i+1)) ((bs.take (i+n)).drop i) ?_ ?_ ?_ ?_ h2 h3
 ·intro z hz
  obtain ⟨j,hj,rfl⟩:=List.getElem_of_mem hz
  rw [List.length_take] at hj
  rw [List.getElem_take]
  exact h1 j (by omega) (by omega)
 ·intro z hz
  obtain ⟨j,hj,rfl⟩:=List.getElem_of_mem hz
  rw [List.length_drop] at hj
  rw [List.getElem_drop]
  exact h4 _ (by omega) (by omega)
 ·rw [List.drop_eq_getElem_cons (by rw [List.length_take];omega),List.getElem_take]
 ·rw [show i+(n+1)=(i+n)+1 by omega,List.take_succ_eq_append_getElem h,List.drop_append_of_le_length (by rw [List.length_take];omega)]
def marked (tab:Nat→Int) (b:UInt8):Bool:=!decide (tab b.toNat=0)
theorem marked_true {tab:Nat→Int} {b:UInt8} (h:tab b.toNat≠0):marked tab b=true:=by simp [marked,h]
theorem marked_false {tab:Nat→Int} {b:UInt8} (h:tab b.toNat=0):marked tab b=false:=by simp [marked,h]
theorem trims_reads {w:World} {tab:Nat→Int} {A0:Option Addr} {c0:Nat} {bs:List UInt8} {v:Value} (h:Trims tab A0 c0 bs v) (hr0:Kd.C (Kd.int .u8) w A0 (bytesI bs).length (bytesI bs)) (hc0:(bytesI bs).length≤c0):
  (v=.slice none 0 0∧trimBy (marked tab) bs=[]) ∨
  ∃ (ad:Addr) (i c:Nat),A0=some ad∧v=.slice (some (ad.add i)) (trimBy (marked tab) bs).length c∧trimBy (marked tab) bs≠[]∧i < bs.length∧i+(trimBy (marked tab) bs).length≤bs.length∧c=c0 - i∧trimBy (marked tab) bs=(bs.take (i+(trimBy (marked tab) bs).length)).drop i:=by
 rcases h with ⟨hv,h⟩|⟨ad,i,n,hA,hv,hin,h1,h2,h3,h4⟩
 ·refine .inl ⟨hv,trimBy_all _ fun x hx=>?_⟩
  obtain ⟨j,hj,rfl⟩:=List.getElem_of_mem hx
  exact marked_true (h j hj)
 ·have e:=trimBy_at (p:=marked tab) bs i n hin (fun j hj hji=>marked_true (h1 j hj hji)) (marked_false h2) (marked_false h3) (fun j hj hji=>marked_true (h4 j hj hji))
  have el:((bs.take (i+(n+1))).drop i).length=n+1:=by rw [List.length_drop,List.length_take];omega
  refine .inr ⟨ad,i,c0 - i,hA,?_,?_,by omega,?_,rfl,?_⟩
  ·rw [e,el];exact hv
  ·intro h0;rw [e] at h0;rw [h0] at el;simp at el
  ·rw [e,el];omega
  ·rw [e,el]
theorem tryGrow_fits (w:World) (b:Nat) (A:Option Addr) (n c m:Nat) (hc:w.cell? ⟨b,0,none⟩=some (.slice A n c)) (hf:w.frozen? ⟨b,0,none⟩=false) (hn:n+m≤c) (hm:c≤maxLen):
  Calls Tryz.prog 355 #[.pointer (some ⟨b,0,none⟩),.int .i64 m] w fun e w'=>e=.returned (.tuple #[.int .i64 n,.bool true])∧w'=w.setCell ⟨b,0,none⟩ (.slice A (n+m) c):=by
 unfold maxLen at hm
 have h1:wrap64 ((c:Int) - (n:Int))=(c:Int) - (n:Int):=by unfold wrap64;omega
 have h2:decide ((m:Int)≤(c:Int) - (n:Int))=true:=decide_eq_true (by omega)
 have h3:wrap64 ((n:Int)+(m:Int))=((n+m:Nat):Int):=by unfold wrap64;omega
 go_enter Tryz.func355,Tryz.ntmps355
 go_wp2
 go_ret2
 exact ⟨rfl,rfl⟩
theorem tryGrow_not (w:World) (b:Nat) (A:Option Addr) (n c m:Nat) (hc:w.cell? ⟨b,0,none⟩=some (.slice A n c)) (hn:c < n+m) (hnc:n≤c) (hm:c≤maxLen) (hm2:m≤4000000000000):
  Calls Tryz.prog 355 #[.pointer (some ⟨b,0,none⟩),.int .i64 m] w fun e w'=>e=.returned (.tuple #[.int .i64 0,.bool false])∧w'=w:=by
 unfold maxLen at hm
 have h1:wrap64 ((c:Int) - (n:Int))=(c:Int) - (n:Int):=by unfold wrap64;omega
 have h2:decide ((m:Int)≤(c:Int) - (n:Int))=false:=decide_eq_false (by omega)
 go_enter Tryz.func355,Tryz.ntmps355
 go_wp2
 go_ret2
 exact ⟨rfl,rfl⟩
theorem eql_nil (a:Option Addr) (l c:Nat) (w:World):(binOp .eql 62 (.slice a l c) (.slice none 0 0)).run Tryz.prog w=.ok (.bool a.isNone) w:=by
 simp only [binOp]
 simp [Go.run_equal_slice_nil w 62 5 a l c Tryz.underlying62]
def Grown (w w':World) (b T:Nat) (lr:Int) (l n:Nat) (old:Array Value):Prop:=
 ∃ cap cells,w'.heap[b]?=some (.cells #[.slice (some ⟨w.heap.size,0,none⟩) (l+n) cap,.int .i64 0,.int .i8 lr] T (0,0))∧w'.heap[w.heap.size]?=some (.cells cells 5 (0,0))∧cells.size=cap ∧
  cells.toList.take l=old.toList.take l∧l+n≤cap∧cap≤maxLen∧w.grownBy w' (some b)
theorem cell_at {w:World} {b T:Nat} {x y z:Value} (h:w.heap[b]?=some (.cells #[x,y,z] T (0,0))):w.cell? ⟨b,0,none⟩=some x∧w.cell? ⟨b,1,none⟩=some y∧w.cell? ⟨b,2,none⟩=some z∧w.frozen? ⟨b,0,none⟩=false∧w.frozen? ⟨b,1,none⟩=false∧w.frozen? ⟨b,2,none⟩=false:=by
 refine ⟨?_,?_,?_,?_,?_,?_⟩ <;> simp [World.cell?,World.frozen?,h]
theorem grown_end {w w2:World} {b T l n cap2:Nat} {lr:Int} {v0 v1:Value} {cells old:Array Value} (hbk2:w2.heap[b]?=some (.cells #[v0,.int .i64 0,.int .i8 lr] T (0,0))) (hN:w2.heap[w.heap.size]?=some (.cells cells 5 (0,0))) (hbN:b≠w.heap.size)
  (hcsz:cells.size=cap2) (htk:cells.toList.take l=old.toList.take l) (hcap2:l+n≤cap2) (hcm2:cap2≤maxLen) (hgr:w.grownBy w2 (some b)):
  Grown w (((w2.setCell ⟨b,0,none⟩ v1).setCell ⟨b,1,none⟩ (.int .i64 0)).setCell ⟨b,0,none⟩ (.slice (some ⟨w.heap.size,0,none⟩) (l+n) cap2)) b T lr l n old:=by
 have h1:=Lib.heap_setCell_same (i:=0) hbk2 v1
 have h2:=Lib.heap_setCell_same (i:=1) h1 (.int .i64 0)
 have h3:=Lib.heap_setCell_same (i:=0) h2 (.slice (some ⟨w.heap.size,0,none⟩) (l+n) cap2)
 refine ⟨cap2,cells,?_,?_,hcsz,htk,hcap2,hcm2,Lib.grownBy_setB (Lib.grownBy_setB (Lib.grownBy_setB hgr 0 _) 1 _) 0 _⟩
 ·simpa using h3
 ·rw [Below.heap_setCell _ _ _ _ (fun e=>hbN e.symm),Below.heap_setCell _ _ _ _ (fun e=>hbN e.symm),Below.heap_setCell _ _ _ _ (fun e=>hbN e.symm)]
  exact hN
theorem len_calls (w:World) (b:Nat) (A:Option Addr) (n c:Nat) (hc:w.cell? ⟨b,0,none⟩=some (.slice A n c)) (h1:w.cell? ⟨b,1,none⟩=some (.int .i64 0)) (hn:n≤4000000000000):
  Calls Tryz.prog 370 #[.pointer (some ⟨b,0,none⟩)] w fun e w'=>e=.returned (.int .i64 n)∧∃ k,w'=w.drewN k:=by
 have mixed:Tryz.prog.follows .mixedOrders=true:=by kernel_rfl
 have k1:IntKind.i64.wrap (n:Int)=n:=by rw [IntKind.wrap_i64];omega
 have k2:wrap64 (n:Int)=(n:Int):=by unfold wrap64;omega
 go_enter Tryz.func370,Tryz.ntmps370
 go_wp2
 go_region_o
 all_goals (go_wp2;go_ret;exact ⟨by simp [k1,k2],1,rfl⟩)
theorem grow_row (w:World) (b T g l c n:Nat) (lr:Int) (cur:Array Value) (hb:w.heap[b]?=some (.cells #[.slice (some ⟨g,0,none⟩) l c,.int .i64 0,.int .i8 lr] T (0,0))) (hg:w.heap[g]?=some (.cells cur 5 (0,0)))
  (hcs:cur.size=c) (hl1:1≤l) (hlc:l≤c) (hn:1≤n) (hno:c < l+n) (hlim:l+n≤4000000000000) (h1:∀ v∈cur.toList.take l,v.oneCell'=true):
  Calls Tryz.prog 356 #[.pointer (some ⟨b,0,none⟩),.int .i64 n] w fun e w'=>e=.returned (.int .i64 l)∧Grown w w' b T lr l n cur:=by
 have mixed:Tryz.prog.follows .mixedOrders=true:=by kernel_rfl
 obtain ⟨c0,c1,c2,f0,f1,f2⟩:=cell_at hb
 have hcm:c≤maxLen:=by unfold maxLen;omega
 have CL:=am (len_calls w b _ l c c0 c1 (by omega))
 have HB:=am hb
 have HG:=am hg
 have H1:=am h1
 have HCS:=am hcs
 have HL1:=am hl1
 have HH:=am (And.intro hlc (And.intro hn (And.intro hno hlim)))
 have q0:¬ ((n:Int)≤wrap64 (wrap64 ((c:Int) / 2) - (l:Int))):=by unfold wrap64;omega
 have q1:decide ((n:Int)≤wrap64 (wrap64 ((c:Int) / 2) - (l:Int)))=false:=decide_eq_false q0
 have q1b:=eq_false q0
 clear q0
 have qe:∀ w,(binOp .eql 62 (.slice (some ⟨g,0,none⟩) l c) (.slice none 0 0)).run Tryz.prog w=.ok (.bool false) w:=fun w=>eql_nil (some ⟨g,0,none⟩) l c w
 have q2:wrap64 (wrap64 (9223372036854775807 - (c:Int)) - (n:Int))=9223372036854775807 - (c:Int) - (n:Int):=by unfold wrap64;omega
 have q3:decide ((c:Int) > 9223372036854775807 - (c:Int) - (n:Int))=false:=decide_eq_false (by omega)
 have q4:decide (9223372036854775807 - (c:Int) - (n:Int) < (c:Int))=false:=decide_eq_false (by omega)
 have q7:wrap64 ((l:Int)+(n:Int))=((l+n:Nat):Int):=by unfold wrap64;omega
 have hwn:IntKind.i64.wrap (n:Int)=n:=by rw [IntKind.wrap_i64];omega
 clear hg h1 hb hl1 hlc hn hno hlim hcs hcm c0 c1 c2 f0 f1 f2
 go_enter Tryz.func356,Tryz.ntmps356
 go_wp2_with (go_at_call 370;fail)
 refine CL.out.mono ?_
 rintro e W0 ⟨rfl,k,hW0⟩
 have hbk0:W0.heap[b]?=some (.cells #[.slice (some ⟨g,0,none⟩) l c,.int .i64 0,.int .i8 lr] T (0,0)):=by rw [hW0];exact HB.out
 have hg0:W0.heap[g]?=some (.cells cur 5 (0,0)):=by rw [hW0];exact HG.out
 obtain ⟨c0,c1,c2,f0,f1,f2⟩:=cell_at hbk0
 have CT:=am (tryGrow_not W0 b _ l c n c0 HH.out.2.2.1 HH.out.1 (by have:=HH.out;unfold maxLen;omega) (by have:=HH.out;omega))
 have HW0:=am hW0
 have HB0:=am hbk0
 have HG0:=am hg0
 clear hW0 hbk0 hg0
 have hl0:¬ (l:Int)=0:=by have:=HH.out;have:=HL1.out;omega
 have hl1:((l:Int)==0)=false:=beq_eq_false_iff_ne.mpr hl0
 go_wp2_with (go_at_call 355;fail)
 refine CT.out.mono ?_
 rintro e w1 ⟨rfl,h2⟩
 rw [h2]
 clear h2
 go_wp2
 have hn1:=HH.out.2.1
 have hlim1:=HH.out.2.2.2
 have hlc1:=HH.out.1
 go_region_with_o (
  go_at_call 372
  refine (Tryz.growSlice_row g l c n cur _ ?_ HCS.out HH.out.1 HH.out.2.1 (by have:=HH.out;omega) (by have:=HH.out;omega) H1.out).mono ?_
  exact HG0.out
  rintro e w2 ⟨cap2,cells,rfl,hN,hcsz,htk,hcap2,hcm2,hbel⟩
  have hbk2:w2.heap[b]?=some (.cells #[.slice (some ⟨g,0,none⟩) l c,.int .i64 0,.int .i8 lr] T (0,0)):=(hbel.block b (Lib.lt_of_heap HB0.out)).trans HB0.out
  obtain ⟨d0,d1,d2,e0,e1,e2⟩:=cell_at hbk2)
 all_goals (
  go_wp2
  go_ret
  have hsz:W0.heap.size=w.heap.size:=by rw [HW0.out];rfl
  refine ⟨by first|rfl|(simp [hl0];done),?_⟩
  have hbel':Below w.heap.size w w2:=by
   have hb0:Below w.heap.size w W0.drew:=by rw [HW0.out];exact ⟨rfl,rfl,rfl,Nat.le_refl _,fun _ _=>rfl⟩
   exact Below.trans hb0 (hbel.mono (by show w.heap.size≤W0.heap.size;omega))
  have hN':w2.heap[w.heap.size]?=some (.cells cells 5 (0,0)):=by rw [← hsz];exact hN
  rw [hsz]
  exact grown_end hbk2 hN' (by have:=Lib.lt_of_heap HB.out;omega) hcsz htk hcap2 hcm2 ⟨hbel'.os,hbel'.tape,hbel'.output,hbel'.size,fun k hk _=>hbel'.block k hk⟩)
theorem nil_none (l c:Nat) (w:World):(binOp .eql 62 (.slice none l c) (.slice none 0 0)).run Tryz.prog w=.ok (.bool true) w:=eql_nil none l c w
theorem grow_nil_small (w:World) (b T n:Nat) (lr:Int) (hb:w.heap[b]?=some (.cells #[.slice none 0 0,.int .i64 0,.int .i8 lr] T (0,0))) (hn:1≤n) (h64:n≤64):
  Calls Tryz.prog 356 #[.pointer (some ⟨b,0,none⟩),.int .i64 n] w fun e w'=>e=.returned (.int .i64 0)∧Grown w w' b T lr 0 n #[]:=by
 have mixed:Tryz.prog.follows .mixedOrders=true:=by kernel_rfl
 obtain ⟨c0,c1,c2,f0,f1,f2⟩:=cell_at hb
 have CL:=am (len_calls w b none 0 0 c0 c1 (by omega))
 have HB:=am hb
 have HH:=am (And.intro hn h64)
 have qe:∀ w,(binOp .eql 62 (.slice none 0 0) (.slice none 0 0)).run Tryz.prog w=.ok (.bool true) w:=fun w=>nil_none 0 0 w
 have q1:decide ((n:Int)≤64)=true:=decide_eq_true (by omega)
 have q7:wrap64 ((n:Int))=(n:Int):=by unfold wrap64;omega
 obtain ⟨i0,hi0,hz0,hsz0,hby0⟩:=info_parts info5
 have hmk:∀ w:World,(Instr.makeSlice 62 (.int .i64 (n:Int)) (.int .i64 64)).run Tryz.prog w=.ok (.slice (some ⟨w.heap.size,0,none⟩) n 64) (w.alloc (.cells (madeCells (Value.int .u8 0).cells (64 * i0.size)) 5)):=fun w=>by
  have:=run_make (P:=Tryz.prog) w 62 5 i0 (.int .u8 0) Tryz.underlying62 hi0 hz0 .i64 .i64 (n:Int) 64 (by omega) (by omega) (by rw [hby0];omega) (by omega)
  simpa using this
 have hms:(madeCells (Value.int .u8 0).cells (64 * i0.size)).size=64:=by rw [hsz0];exact size_madeCells _ _
 obtain ⟨M,hM⟩:∃ M,madeCells (Value.int .u8 0).cells (64 * i0.size)=M:=⟨_,rfl⟩
 rw [hM] at hms
 simp only [hM] at hmk
 clear hb hn h64 c0 c1 c2 f0 f1 f2 hi0 hz0 hsz0 hby0 hM
 go_enter Tryz.func356,Tryz.ntmps356
 go_wp2_with (go_at_call 370;fail)
 refine CL.out.mono ?_
 rintro e W0 ⟨rfl,k,hW0⟩
 have hbk0:W0.heap[b]?=some (.cells #[.slice none 0 0,.int .i64 0,.int .i8 lr] T (0,0)):=by rw [hW0];exact HB.out
 obtain ⟨c0,c1,c2,f0,f1,f2⟩:=cell_at hbk0
 have CT:=am (tryGrow_not W0 b none 0 0 n c0 (by have:=HH.out;omega) (Nat.le_refl _) (by unfold maxLen;omega) (by have:=HH.out;omega))
 have HW0:=am hW0
 have HB0:=am hbk0
 clear hW0 hbk0
 go_wp2_with (go_at_call 355;fail)
 refine CT.out.mono ?_
 rintro e w1 ⟨rfl,h2⟩
 rw [h2]
 clear h2
 have hlt:=Lib.lt_of_heap HB0.out
 have hca:(W0.alloc (.cells M 5)).cell? ⟨b,0,none⟩=some (.slice none 0 0):=by rw [World.cell?_alloc_lt _ _ _ hlt];exact c0
 have hfa:(W0.alloc (.cells M 5)).frozen? ⟨b,0,none⟩=false:=by
  have h:=HB0.out
  simp only [World.frozen?,Below.heap_alloc W0 (.cells M 5) b hlt,h];rfl
 go_wp2
 go_ret
 have hsz:W0.heap.size=w.heap.size:=by rw [HW0.out];rfl
 refine ⟨rfl,?_⟩
 have h1:=Lib.heap_setCell_same (i:=0) HB0.out (.slice (some ⟨W0.heap.size,0,none⟩) n 64)
 have hss:(W0.setCell ⟨b,0,none⟩ (.slice (some ⟨W0.heap.size,0,none⟩) n 64)).heap.size=W0.heap.size:=by simp [World.setCell]
 have g0:w.grownBy W0 (some b):=by rw [HW0.out];exact ⟨rfl,rfl,rfl,Nat.le_refl _,fun _ _ _=>rfl⟩
 refine ⟨64,M,?_,?_,hms,by simp,by have:=HH.out;omega,by unfold maxLen;omega,Lib.grownBy_allocR (Lib.grownBy_setB g0 0 _) _⟩
 ·refine (Below.heap_alloc _ _ b (by rw [hss];exact hlt)).trans ?_
  rw [← hsz,Nat.zero_add]
  exact h1
 ·have:∀ (V:World) (o:Obj),(V.alloc o).heap[V.heap.size]?=some o:=fun V o=>by simp [World.alloc,-World.alloc_eq]
  have h2:=this (W0.setCell ⟨b,0,none⟩ (.slice (some ⟨W0.heap.size,0,none⟩) n 64)) (.cells M 5)
  rw [hss,hsz] at h2
  rw [hsz]
  exact h2
theorem grow_nil_big (w:World) (b T n:Nat) (lr:Int) (hb:w.heap[b]?=some (.cells #[.slice none 0 0,.int .i64 0,.int .i8 lr] T (0,0))) (h64:64 < n) (hlim:n≤4000000000000):
  Calls Tryz.prog 356 #[.pointer (some ⟨b,0,none⟩),.int .i64 n] w fun e w'=>e=.returned (.int .i64 0)∧Grown w w' b T lr 0 n #[]:=by
 have mixed:Tryz.prog.follows .mixedOrders=true:=by kernel_rfl
 obtain ⟨c0,c1,c2,f0,f1,f2⟩:=cell_at hb
 have CL:=am (len_calls w b none 0 0 c0 c1 (by omega))
 have HB:=am hb
 have HH:=am (And.intro h64 hlim)
 have qe:∀ w,(binOp .eql 62 (.slice none 0 0) (.slice none 0 0)).run Tryz.prog w=.ok (.bool true) w:=fun w=>nil_none 0 0 w
 have q0:decide ((n:Int)≤64)=false:=decide_eq_false (by omega)
 have q1:decide ((n:Int)≤0)=false:=decide_eq_false (by omega)
 have q1b:((n:Int)≤0)=False:=eq_false (by omega)
 have q1c:(n=0)=False:=eq_false (by omega)
 have q2:wrap64 (9223372036854775807 - (n:Int))=9223372036854775807 - (n:Int):=by unfold wrap64;omega
 have q3:decide ((0:Int) > 9223372036854775807 - (n:Int))=false:=decide_eq_false (by omega)
 have q4:decide (9223372036854775807 - (n:Int) < (0:Int))=false:=decide_eq_false (by omega)
 have q7:wrap64 ((n:Int))=(n:Int):=by unfold wrap64;omega
 have hwn:IntKind.i64.wrap (n:Int)=n:=by rw [IntKind.wrap_i64];omega
 clear hb h64 hlim c0 c1 c2 f0 f1 f2
 go_enter Tryz.func356,Tryz.ntmps356
 go_wp2_with (go_at_call 370;fail)
 refine CL.out.mono ?_
 rintro e W0 ⟨rfl,k,hW0⟩
 have hbk0:W0.heap[b]?=some (.cells #[.slice none 0 0,.int .i64 0,.int .i8 lr] T (0,0)):=by rw [hW0];exact HB.out
 obtain ⟨c0,c1,c2,f0,f1,f2⟩:=cell_at hbk0
 have CT:=am (tryGrow_not W0 b none 0 0 n c0 (by have:=HH.out;omega) (Nat.le_refl _) (by unfold maxLen;omega) (by have:=HH.out;omega))
 have HW0:=am hW0
 have HB0:=am hbk0
 clear hW0 hbk0
 go_wp2_with (go_at_call 355;fail)
 refine CT.out.mono ?_
 rintro e w1 ⟨rfl,h2⟩
 rw [h2]
 clear h2
 go_wp2
 have hlim1:=HH.out.2
 go_region_with_o (
  go_at_call 372
  refine (Tryz.growSlice_nil n _ (by have:=HH.out;omega) (by have:=HH.out;omega)).mono ?_
  rintro e w2 ⟨cap2,cells,rfl,hN,hcsz,hcap2,hcm2,hbel⟩
  have hbk2:w2.heap[b]?=some (.cells #[.slice none 0 0,.int .i64 0,.int .i8 lr] T (0,0)):=(hbel.block b (Lib.lt_of_heap HB0.out)).trans HB0.out
  obtain ⟨d0,d1,d2,e0,e1,e2⟩:=cell_at hbk2)
 all_goals (
  go_wp2
  go_ret
  have hsz:W0.heap.size=w.heap.size:=by rw [HW0.out];rfl
  refine ⟨by first|rfl|(simp;done),?_⟩
  have hbel':Below w.heap.size w w2:=by
   have hb0:Below w.heap.size w W0.drew:=by rw [HW0.out];exact ⟨rfl,rfl,rfl,Nat.le_refl _,fun _ _=>rfl⟩
   exact Below.trans hb0 (hbel.mono (by show w.heap.size≤W0.heap.size;omega))
  have hN':w2.heap[w.heap.size]?=some (.cells cells 5 (0,0)):=by rw [← hsz];exact hN
  rw [hsz]
  have hg:=grown_end (old:=#[]) (l:=0) (n:=n) (v1:=.slice (some ⟨w.heap.size,0,none⟩) 0 cap2) hbk2 hN' (by have:=Lib.lt_of_heap HB.out;omega) hcsz (by simp) (by omega) hcm2 ⟨hbel'.os,hbel'.tape,hbel'.output,hbel'.size,fun k hk _=>hbel'.block k hk⟩
  simpa using hg)
theorem grow_nil (w:World) (b T n:Nat) (lr:Int) (hb:w.heap[b]?=some (.cells #[.slice none 0 0,.int .i64 0,.int .i8 lr] T (0,0))) (hn:1≤n) (hlim:n≤4000000000000):
  Calls Tryz.prog 356 #[.pointer (some ⟨b,0,none⟩),.int .i64 n] w fun e w'=>e=.returned (.int .i64 0)∧Grown w w' b T lr 0 n #[]:=by
 by_cases h:n≤64
 ·exact grow_nil_small w b T n lr hb hn h
 ·exact grow_nil_big w b T n lr hb (by omega) hlim
def bc (bs:List UInt8):List Value:=bs.map fun c=>.int .u8 (c.toNat:Int)
def BufAt (w:World) (b T:Nat) (bs:List UInt8) (v:Value):Prop:=
 (∃ lr,w.heap[b]?=some (.cells #[v,.int .i64 0,.int .i8 lr] T (0,0))) ∧
  ((bs=[]∧v=.slice none 0 0)∨(bs≠[]∧∃ g cap cur,v=.slice (some ⟨g,0,none⟩) bs.length cap∧g≠b∧w.heap[g]?=some (.cells cur 5 (0,0))∧cur.size=cap∧bs.length≤cap∧cap≤maxLen∧cur.toList.take bs.length=bc bs))
structure Wrote (w w':World) (b T:Nat) (v:Value) (bs:List UInt8):Prop where
 os:w'.os=w.os
 tape:w'.tape=w.tape
 output:w'.output=w.output
 size:w.heap.size≤w'.heap.size
 keep:∀ k,k < w.heap.size→k≠b→v.ownBlock≠some k→w'.heap[k]?=w.heap[k]?
 last:∃ v',w'.heap[b]?=some (.cells #[v',.int .i64 0,.int .i8 0] T (0,0))
 buf:∃ v',BufAt w' b T bs v'∧(v'.ownBlock=v.ownBlock∨∃ g,v'.ownBlock=some g∧w.heap.size≤g)
theorem wrote_end {w w1:World} {b T g l n cap:Nat} {v:Value} {cells:Array Value} {bs new:List UInt8} (hb:w1.heap[b]?=some (.cells #[.slice (some ⟨g,0,none⟩) (l+n) cap,.int .i64 0,.int .i8 0] T (0,0)))
  (hg:w1.heap[g]?=some (.cells cells 5 (0,0))) (hl:bs.length=l) (hn:new.length=n) (h1n:1≤l+n) (hgb:g≠b) (hcs:cells.size=cap) (hle:l+n≤cap) (hcm:cap≤maxLen) (htk:cells.toList.take l=bc bs)
  (os:w1.os=w.os) (tape:w1.tape=w.tape) (output:w1.output=w.output) (size:w.heap.size≤w1.heap.size) (keep:∀ k,k < w.heap.size→k≠b→v.ownBlock≠some k→w1.heap[k]?=w.heap[k]?)
  (hown:v.ownBlock=some g∨w.heap.size≤g):
  Wrote w (w1.setRow g (cells.toList.take l++bc new++cells.toList.drop (l+n)).toArray) b T v (bs++new):=by
 have hlen:(bc new).length=n:=by rw [bc,List.length_map,hn]
 have hcl:cells.toList.length=cap:=by rw [Array.length_toList];exact hcs
 refine { os:=os,tape:=tape,output:=output,size:=by rw [setRow_size];exact size,keep:=?_,last:=⟨.slice (some ⟨g,0,none⟩) (l+n) cap,?_⟩,buf:=⟨.slice (some ⟨g,0,none⟩) (l+n) cap,⟨⟨0,?_⟩,.inr ⟨?_,g,cap,_,?_,hgb,setRow_heap w1 g _ _ 5 (0,0) hg,?_,?_,hcm,?_⟩⟩,?_⟩ }
 ·intro k hk hkb hkv
  rw [setRow_other _ _ _ _ ?_]
  ·exact keep k hk hkb hkv
  ·rintro rfl
   rcases hown with h|h
   ·exact hkv h
   ·omega
 ·rw [setRow_other _ _ _ _ hgb.symm];exact hb
 ·rw [setRow_other _ _ _ _ hgb.symm];exact hb
 ·intro e
  have:=congrArg List.length e
  rw [List.length_append,hl,hn] at this
  simp at this;omega
 ·rw [List.length_append,hl,hn]
 ·rw [List.size_toArray,List.length_append,List.length_append,List.length_take,List.length_drop,hlen,hcl];omega
 ·rw [List.length_append,hl,hn];exact hle
 ·rw [List.length_append,hl,hn]
  simp only [List.toList_toArray]
  rw [List.take_append_of_le_length (by rw [List.length_append,List.length_take,hlen,hcl];omega),htk,List.take_of_length_le (by rw [List.length_append,hlen,bc,List.length_map];omega)]
  simp [bc]
 ·rcases hown with h|h
  ·exact .inl h.symm
  ·exact .inr ⟨g,rfl,h⟩
theorem size5:(Tryz.prog.info? 5).map (·.size)=some 1:=by kernel_rfl
theorem writeString_grow (w:World) (b T g l c:Nat) (lr:Int) (cur:Array Value) (s:ByteArray) (bs:List UInt8) (hb:w.heap[b]?=some (.cells #[.slice (some ⟨g,0,none⟩) l c,.int .i64 0,.int .i8 lr] T (0,0))) (hg:w.heap[g]?=some (.cells cur 5 (0,0)))
  (hbl:bs.length=l) (hgb:g≠b) (hcs:cur.size=c) (hl1:1≤l) (hlc:l≤c) (hno:c < l+s.size) (hlim:l+s.size≤4000000000000) (htk:cur.toList.take l=bc bs):
  Calls Tryz.prog 335 #[.pointer (some ⟨b,0,none⟩),.string s] w fun e w'=>e=.returned (.tuple #[.int .i64 s.size,.nilIface])∧Wrote w w' b T (.slice (some ⟨g,0,none⟩) l c) (bs++s.data.toList):=by
 obtain ⟨c0,c1,c2,f0,f1,f2⟩:=cell_at hb
 have h1:=Lib.heap_setCell_same (i:=2) hb (.int .i8 0)
 obtain ⟨w1,hw1⟩:∃ w1,w.setCell ⟨b,2,none⟩ (.int .i8 0)=w1:=⟨_,rfl⟩
 rw [hw1] at h1
 have hb1:w1.heap[b]?=some (.cells #[.slice (some ⟨g,0,none⟩) l c,.int .i64 0,.int .i8 0] T (0,0)):=h1
 have hg1:w1.heap[g]?=some (.cells cur 5 (0,0)):=by rw [← hw1,Below.heap_setCell _ _ _ _ hgb];exact hg
 have g1:w.grownBy w1 (some b):=by rw [← hw1];exact Lib.grownBy_setCell w b 2 _
 obtain ⟨d0,d1,d2,e0,e1,e2⟩:=cell_at hb1
 have CT:=am (tryGrow_not w1 b _ l c s.size d0 hno hlc (by unfold maxLen;omega) (by omega))
 have CG:=am (grow_row w1 b T g l c s.size 0 cur hb1 hg1 hcs hl1 hlc (by omega) hno hlim (by rw [htk];intro v hv;simp [bc] at hv;obtain ⟨a,_,rfl⟩:=hv;rfl))
 have HB:=am hb
 have HH:=am (And.intro hbl (And.intro hlc (And.intro hlim htk)))
 have HG1:=am g1
 have HNO:=am hno
 clear hb hg hbl hgb hcs hl1 hlc hno hlim htk hb1 hg1 g1 h1
 go_enter Tryz.func335,Tryz.ntmps335
 go_wp2_with (go_at_call 355;fail)
 refine CT.out.mono ?_
 rintro e w2 ⟨rfl,h2⟩
 rw [h2]
 clear h2
 go_wp2_with (go_at_call 356;fail)
 refine CG.out.mono ?_
 rintro e w3 ⟨rfl,cap,cells,hb3,hg3,hcs3,htk3,hle3,hcm3,hgr3⟩
 obtain ⟨x0,x1,x2,y0,y1,y2⟩:=cell_at hb3
 have HB3:=am hb3
 have HG3:=am hg3
 have HX:=am (And.intro hcs3 (And.intro htk3 (And.intro hle3 (And.intro hcm3 hgr3))))
 have p1:l≤l+s.size:=Nat.le_add_right _ _
 have p2:l≤cap:=by omega
 have hcl:(cap=l)=False:=eq_false (by have:=HNO.out;have:=HH.out;omega)
 have HSZ:=am (show w1.heap.size=w.heap.size by rw [← hw1];simp [World.setCell])
 have hcp:(Builtin.copy_ #[62,9] 3 #[.slice (some ⟨w1.heap.size,l,none⟩) s.size (cap - l),.string s]).run Tryz.prog w3=.ok (.int .i64 s.size) (w3.setRow w1.heap.size (cells.toList.take l++bc s.data.toList++cells.toList.drop (l+s.size)).toArray):=
  Lib.run_copy_row_string (P:=Tryz.prog) w3 62 9 3 5 w1.heap.size l s.size (cap - l) s cells 5 Tryz.underlying62 size5 HG3.out (Nat.le_refl _) (by rw [hcs3];exact hle3)
 clear hb3 hg3 hcs3 htk3 hle3 hcm3 hgr3 c0 c1 c2 f0 f1 f2 d0 d1 d2 e0 e1 e2
 go_wp2
 go_ret2
 refine ⟨rfl,?_⟩
 obtain ⟨hcs3,htk3,hle3,hcm3,hgr3⟩:=HX.out
 obtain ⟨hbl,hlc,hlim,htk⟩:=HH.out
 have hgr:=Lib.grownBy_trans HG1.out hgr3
 have hfin:=wrote_end (v:=.slice (some ⟨g,0,none⟩) l c) (new:=s.data.toList) HB3.out HG3.out hbl rfl (by have:=HNO.out;omega) (by have:=Lib.lt_of_heap HB.out;have:=HSZ.out;omega) hcs3 hle3 hcm3 (htk3.trans htk) hgr.os hgr.tape hgr.output hgr.size (fun k hk hkb _=>hgr.block k hk (fun e=>hkb (by injection e))) (.inr (by rw [HSZ.out];exact Nat.le_refl _))
 rw [List.append_assoc] at hfin
 exact hfin
theorem writeString_fits (w:World) (b T g l c:Nat) (lr:Int) (cells:Array Value) (s:ByteArray) (bs:List UInt8) (hb:w.heap[b]?=some (.cells #[.slice (some ⟨g,0,none⟩) l c,.int .i64 0,.int .i8 lr] T (0,0))) (hg:w.heap[g]?=some (.cells cells 5 (0,0)))
  (hbl:bs.length=l) (hgb:g≠b) (hcs3:cells.size=c) (hl1:1≤l) (hn1:1≤s.size) (hle3:l+s.size≤c) (hcm:c≤maxLen) (htk:cells.toList.take l=bc bs):
  Calls Tryz.prog 335 #[.pointer (some ⟨b,0,none⟩),.string s] w fun e w'=>e=.returned (.tuple #[.int .i64 s.size,.nilIface])∧Wrote w w' b T (.slice (some ⟨g,0,none⟩) l c) (bs++s.data.toList):=by
 obtain ⟨c0,c1,c2,f0,f1,f2⟩:=cell_at hb
 have h1:=Lib.heap_setCell_same (i:=2) hb (.int .i8 0)
 obtain ⟨w1,hw1⟩:∃ w1,w.setCell ⟨b,2,none⟩ (.int .i8 0)=w1:=⟨_,rfl⟩
 rw [hw1] at h1
 have hb1:w1.heap[b]?=some (.cells #[.slice (some ⟨g,0,none⟩) l c,.int .i64 0,.int .i8 0] T (0,0)):=h1
 have hg1:w1.heap[g]?=some (.cells cells 5 (0,0)):=by rw [← hw1,Below.heap_setCell _ _ _ _ hgb];exact hg
 have g1:w.grownBy w1 (some b):=by rw [← hw1];exact Lib.grownBy_setCell w b 2 _
 obtain ⟨d0,d1,d2,e0,e1,e2⟩:=cell_at hb1
 have CT:=am (tryGrow_fits w1 b _ l c s.size d0 e0 hle3 hcm)
 have h2:=Lib.heap_setCell_same (i:=0) hb1 (.slice (some ⟨g,0,none⟩) (l+s.size) c)
 obtain ⟨w3,hw3⟩:∃ w3,w1.setCell ⟨b,0,none⟩ (.slice (some ⟨g,0,none⟩) (l+s.size) c)=w3:=⟨_,rfl⟩
 rw [hw3] at h2 CT
 have hb3:w3.heap[b]?=some (.cells #[.slice (some ⟨g,0,none⟩) (l+s.size) c,.int .i64 0,.int .i8 0] T (0,0)):=h2
 have hg3:w3.heap[g]?=some (.cells cells 5 (0,0)):=by rw [← hw3,Below.heap_setCell _ _ _ _ hgb];exact hg1
 have hgr:w.grownBy w3 (some b):=by rw [← hw3];exact Lib.grownBy_setB g1 0 _
 obtain ⟨x0,x1,x2,y0,y1,y2⟩:=cell_at hb3
 have HB3:=am hb3
 have HG3:=am hg3
 have p1:l≤l+s.size:=Nat.le_add_right _ _
 have p2:l≤c:=by omega
 have hcl:(c=l)=False:=eq_false (by omega)
 have hcp:(Builtin.copy_ #[62,9] 3 #[.slice (some ⟨g,l,none⟩) s.size (c - l),.string s]).run Tryz.prog w3=.ok (.int .i64 s.size) (w3.setRow g (cells.toList.take l++bc s.data.toList++cells.toList.drop (l+s.size)).toArray):=
  Lib.run_copy_row_string (P:=Tryz.prog) w3 62 9 3 5 g l s.size (c - l) s cells 5 Tryz.underlying62 size5 HG3.out (Nat.le_refl _) (by rw [hcs3];exact hle3)
 have HX:=am (And.intro hbl (And.intro hgb (And.intro hcs3 (And.intro hl1 (And.intro hle3 (And.intro hcm (And.intro htk hgr)))))))
 clear hb hg hbl hgb hcs3 hl1 hn1 hle3 hcm htk hb1 hg1 g1 h1 h2 hb3 hg3 hgr
 go_enter Tryz.func335,Tryz.ntmps335
 go_wp2_with (go_at_call 355;fail)
 refine CT.out.mono ?_
 rintro e w2 ⟨rfl,h2⟩
 rw [h2]
 clear h2
 go_wp2
 go_ret2
 refine ⟨rfl,?_⟩
 obtain ⟨hbl,hgb,hcs3,hl1,hle3,hcm,htk,hgr⟩:=HX.out
 have hfin:=wrote_end (v:=.slice (some ⟨g,0,none⟩) l c) (new:=s.data.toList) HB3.out HG3.out hbl rfl (by omega) hgb hcs3 hle3 hcm htk hgr.os hgr.tape hgr.output hgr.size (fun k hk hkb _=>hgr.block k hk (fun e=>hkb (by injection e))) (.inl rfl)
 rw [List.append_assoc] at hfin
 exact hfin
theorem writeString_nil (w:World) (b T:Nat) (lr:Int) (s:ByteArray) (hb:w.heap[b]?=some (.cells #[.slice none 0 0,.int .i64 0,.int .i8 lr] T (0,0))) (hn1:1≤s.size) (h64:s.size≤4000000000000):
  Calls Tryz.prog 335 #[.pointer (some ⟨b,0,none⟩),.string s] w fun e w'=>e=.returned (.tuple #[.int .i64 s.size,.nilIface])∧Wrote w w' b T (.slice none 0 0) (s.data.toList):=by
 obtain ⟨c0,c1,c2,f0,f1,f2⟩:=cell_at hb
 have h1:=Lib.heap_setCell_same (i:=2) hb (.int .i8 0)
 obtain ⟨w1,hw1⟩:∃ w1,w.setCell ⟨b,2,none⟩ (.int .i8 0)=w1:=⟨_,rfl⟩
 rw [hw1] at h1
 have hb1:w1.heap[b]?=some (.cells #[.slice none 0 0,.int .i64 0,.int .i8 0] T (0,0)):=h1
 have g1:w.grownBy w1 (some b):=by rw [← hw1];exact Lib.grownBy_setCell w b 2 _
 obtain ⟨d0,d1,d2,e0,e1,e2⟩:=cell_at hb1
 have CT:=am (tryGrow_not w1 b none 0 0 s.size d0 (by omega) (Nat.le_refl _) (by unfold maxLen;omega) (by omega))
 have CG:=am (grow_nil w1 b T s.size 0 hb1 hn1 h64)
 have HB:=am hb
 have HG1:=am g1
 have HNO:=am hn1
 clear hb hb1 g1 h1 hn1 h64
 go_enter Tryz.func335,Tryz.ntmps335
 go_wp2_with (go_at_call 355;fail)
 refine CT.out.mono ?_
 rintro e w2 ⟨rfl,h2⟩
 rw [h2]
 clear h2
 go_wp2_with (go_at_call 356;fail)
 refine CG.out.mono ?_
 rintro e w3 ⟨rfl,cap,cells,hb3,hg3,hcs3,htk3,hle3,hcm3,hgr3⟩
 rw [Nat.zero_add] at hb3
 obtain ⟨x0,x1,x2,y0,y1,y2⟩:=cell_at hb3
 have HB3:=am hb3
 have HG3:=am hg3
 have HX:=am (And.intro hcs3 (And.intro hle3 (And.intro hcm3 hgr3)))
 have p2:s.size≤cap:=by omega
 have hcl:(cap=0)=False:=eq_false (by have:=HNO.out;omega)
 have HSZ:=am (show w1.heap.size=w.heap.size by rw [← hw1];simp [World.setCell])
 have l0:∃ l,l=0:=⟨0,rfl⟩
 have hcp:(Builtin.copy_ #[62,9] 3 #[.slice (some ⟨w1.heap.size,0,none⟩) s.size cap,.string s]).run Tryz.prog w3=.ok (.int .i64 s.size) (w3.setRow w1.heap.size (cells.toList.take 0++bc s.data.toList++cells.toList.drop (0+s.size)).toArray):=
  Lib.run_copy_row_string (P:=Tryz.prog) w3 62 9 3 5 w1.heap.size 0 s.size cap s cells 5 Tryz.underlying62 size5 HG3.out (Nat.le_refl _) (by rw [hcs3];exact hle3)
 clear hb3 hg3 hcs3 htk3 hle3 hcm3 hgr3 c0 c1 c2 f0 f1 f2 d0 d1 d2 e0 e1 e2
 go_wp2
 go_ret2
 refine ⟨rfl,?_⟩
 obtain ⟨hcs3,hle3,hcm3,hgr3⟩:=HX.out
 have hgr:=Lib.grownBy_trans HG1.out hgr3
 have hfin:=wrote_end (v:=.slice none 0 0) (l:=0) (n:=s.size) (bs:=[]) (new:=s.data.toList) (by rw [Nat.zero_add];exact HB3.out) HG3.out rfl rfl (by have:=HNO.out;omega) (by have:=Lib.lt_of_heap HB.out;have:=HSZ.out;omega) hcs3 hle3 hcm3 rfl hgr.os hgr.tape hgr.output hgr.size (fun k hk hkb _=>hgr.block k hk (fun e=>hkb (by injection e))) (.inr (by rw [HSZ.out];exact Nat.le_refl _))
 simpa using hfin
theorem write_grow (w:World) (b T g l c:Nat) (lr:Int) (cur:Array Value) (ad:Addr) (sc m:Nat) (new:List UInt8) (HSRC:Aside0 ((∀ (j:Nat) (v:Value),(bc new)[j]?=some v→w.cell? (ad.add j)=some v)∧ad.block≠b∧new.length=m)) (bs:List UInt8) (hb:w.heap[b]?=some (.cells #[.slice (some ⟨g,0,none⟩) l c,.int .i64 0,.int .i8 lr] T (0,0))) (hg:w.heap[g]?=some (.cells cur 5 (0,0)))
  (hbl:bs.length=l) (hgb:g≠b) (hcs:cur.size=c) (hl1:1≤l) (hlc:l≤c) (hno:c < l+m) (hlim:l+m≤4000000000000) (htk:cur.toList.take l=bc bs):
  Calls Tryz.prog 325 #[.pointer (some ⟨b,0,none⟩),.slice (some ad) m sc] w fun e w'=>e=.returned (.tuple #[.int .i64 m,.nilIface])∧Wrote w w' b T (.slice (some ⟨g,0,none⟩) l c) (bs++new):=by
 obtain ⟨c0,c1,c2,f0,f1,f2⟩:=cell_at hb
 have h1:=Lib.heap_setCell_same (i:=2) hb (.int .i8 0)
 obtain ⟨w1,hw1⟩:∃ w1,w.setCell ⟨b,2,none⟩ (.int .i8 0)=w1:=⟨_,rfl⟩
 rw [hw1] at h1
 have hb1:w1.heap[b]?=some (.cells #[.slice (some ⟨g,0,none⟩) l c,.int .i64 0,.int .i8 0] T (0,0)):=h1
 have hg1:w1.heap[g]?=some (.cells cur 5 (0,0)):=by rw [← hw1,Below.heap_setCell _ _ _ _ hgb];exact hg
 have g1:w.grownBy w1 (some b):=by rw [← hw1];exact Lib.grownBy_setCell w b 2 _
 obtain ⟨d0,d1,d2,e0,e1,e2⟩:=cell_at hb1
 have CT:=am (tryGrow_not w1 b _ l c m d0 hno hlc (by unfold maxLen;omega) (by omega))
 have CG:=am (grow_row w1 b T g l c m 0 cur hb1 hg1 hcs hl1 hlc (by omega) hno hlim (by rw [htk];intro v hv;simp [bc] at hv;obtain ⟨a,_,rfl⟩:=hv;rfl))
 have HB:=am hb
 have HH:=am (And.intro hbl (And.intro hlc (And.intro hlim htk)))
 have HG1:=am g1
 have HNO:=am hno
 clear hb hg hbl hgb hcs hl1 hlc hno hlim htk hb1 hg1 g1 h1
 go_enter Tryz.func325,Tryz.ntmps325
 go_wp2_with (go_at_call 355;fail)
 refine CT.out.mono ?_
 rintro e w2 ⟨rfl,h2⟩
 rw [h2]
 clear h2
 go_wp2_with (go_at_call 356;fail)
 refine CG.out.mono ?_
 rintro e w3 ⟨rfl,cap,cells,hb3,hg3,hcs3,htk3,hle3,hcm3,hgr3⟩
 obtain ⟨x0,x1,x2,y0,y1,y2⟩:=cell_at hb3
 have HB3:=am hb3
 have HG3:=am hg3
 have HX:=am (And.intro hcs3 (And.intro htk3 (And.intro hle3 (And.intro hcm3 hgr3))))
 have p1:l≤l+m:=Nat.le_add_right _ _
 have p2:l≤cap:=by omega
 have hcl:(cap=l)=False:=eq_false (by have:=HNO.out;have:=HH.out;omega)
 have HSZ:=am (show w1.heap.size=w.heap.size by rw [← hw1];simp [World.setCell])
 have hs3:∀ (j:Nat) (v:Value),(bc new)[j]?=some v→w3.cell? (ad.add j)=some v:=fun j v hj=>(Lib.grownBy_trans HG1.out hgr3).cell (HSRC.out.1 j v hj) (by intro e;injection e with e;apply HSRC.out.2.1;rw [← e];unfold Addr.add;split <;> rfl)
 have hln:(bc new).length=m:=by rw [bc,List.length_map];exact HSRC.out.2.2
 have hcp:(Builtin.copy_ #[62,62] 3 #[.slice (some ⟨w1.heap.size,l,none⟩) m (cap - l),.slice (some ad) m sc]).run Tryz.prog w3=.ok (.int .i64 m) (w3.setRow w1.heap.size (cells.toList.take l++bc new++cells.toList.drop (l+m)).toArray):=by
  have:=run_copy_row (P:=Tryz.prog) w3 62 62 3 5 w1.heap.size l m (cap - l) ad m sc cells 5 (bc new) Tryz.underlying62 size5 HG3.out (by rw [hln];exact (Nat.min_self m).symm) hs3 (by rw [hln,hcs3];exact hle3) (by intro v hv;simp [bc] at hv;obtain ⟨a,_,rfl⟩:=hv;rfl)
  rw [hln] at this
  exact this
 clear hs3
 clear hb3 hg3 hcs3 htk3 hle3 hcm3 hgr3 c0 c1 c2 f0 f1 f2 d0 d1 d2 e0 e1 e2
 go_wp2
 go_ret2
 refine ⟨rfl,?_⟩
 obtain ⟨hcs3,htk3,hle3,hcm3,hgr3⟩:=HX.out
 obtain ⟨hbl,hlc,hlim,htk⟩:=HH.out
 have hgr:=Lib.grownBy_trans HG1.out hgr3
 have hfin:=wrote_end (v:=.slice (some ⟨g,0,none⟩) l c) (new:=new) HB3.out HG3.out hbl HSRC.out.2.2 (by have:=HNO.out;omega) (by have:=Lib.lt_of_heap HB.out;have:=HSZ.out;omega) hcs3 hle3 hcm3 (htk3.trans htk) hgr.os hgr.tape hgr.output hgr.size (fun k hk hkb _=>hgr.block k hk (fun e=>hkb (by injection e))) (.inr (by rw [HSZ.out];exact Nat.le_refl _))
 rw [List.append_assoc] at hfin
 exact hfin
theorem write_fits (w:World) (b T g l c:Nat) (lr:Int) (cells:Array Value) (ad:Addr) (sc m:Nat) (new:List UInt8) (HSRC:Aside0 ((∀ (j:Nat) (v:Value),(bc new)[j]?=some v→w.cell? (ad.add j)=some v)∧ad.block≠b∧new.length=m)) (bs:List UInt8) (hb:w.heap[b]?=some (.cells #[.slice (some ⟨g,0,none⟩) l c,.int .i64 0,.int .i8 lr] T (0,0))) (hg:w.heap[g]?=some (.cells cells 5 (0,0)))
  (hbl:bs.length=l) (hgb:g≠b) (hcs3:cells.size=c) (hl1:1≤l) (hn1:1≤m) (hle3:l+m≤c) (hcm:c≤maxLen) (htk:cells.toList.take l=bc bs):
  Calls Tryz.prog 325 #[.pointer (some ⟨b,0,none⟩),.slice (some ad) m sc] w fun e w'=>e=.returned (.tuple #[.int .i64 m,.nilIface])∧Wrote w w' b T (.slice (some ⟨g,0,none⟩) l c) (bs++new):=by
 obtain ⟨c0,c1,c2,f0,f1,f2⟩:=cell_at hb
 have h1:=Lib.heap_setCell_same (i:=2) hb (.int .i8 0)
 obtain ⟨w1,hw1⟩:∃ w1,w.setCell ⟨b,2,none⟩ (.int .i8 0)=w1:=⟨_,rfl⟩
 rw [hw1] at h1
 have hb1:w1.heap[b]?=some (.cells #[.slice (some ⟨g,0,none⟩) l c,.int .i64 0,.int .i8 0] T (0,0)):=h1
 have hg1:w1.heap[g]?=some (.cells cells 5 (0,0)):=by rw [← hw1,Below.heap_setCell _ _ _ _ hgb];exact hg
 have g1:w.grownBy w1 (some b):=by rw [← hw1];exact Lib.grownBy_setCell w b 2 _
 obtain ⟨d0,d1,d2,e0,e1,e2⟩:=cell_at hb1
 have CT:=am (tryGrow_fits w1 b _ l c m d0 e0 hle3 hcm)
 have h2:=Lib.heap_setCell_same (i:=0) hb1 (.slice (some ⟨g,0,none⟩) (l+m) c)
 obtain ⟨w3,hw3⟩:∃ w3,w1.setCell ⟨b,0,none⟩ (.slice (some ⟨g,0,none⟩) (l+m) c)=w3:=⟨_,rfl⟩
 rw [hw3] at h2 CT
 have hb3:w3.heap[b]?=some (.cells #[.slice (some ⟨g,0,none⟩) (l+m) c,.int .i64 0,.int .i8 0] T (0,0)):=h2
 have hg3:w3.heap[g]?=some (.cells cells 5 (0,0)):=by rw [← hw3,Below.heap_setCell _ _ _ _ hgb];exact hg1
 have hgr:w.grownBy w3 (some b):=by rw [← hw3];exact Lib.grownBy_setB g1 0 _
 obtain ⟨x0,x1,x2,y0,y1,y2⟩:=cell_at hb3
 have HB3:=am hb3
 have HG3:=am hg3
 have p1:l≤l+m:=Nat.le_add_right _ _
 have p2:l≤c:=by omega
 have hcl:(c=l)=False:=eq_false (by omega)
 have hs3:∀ (j:Nat) (v:Value),(bc new)[j]?=some v→w3.cell? (ad.add j)=some v:=fun j v hj=>(hgr).cell (HSRC.out.1 j v hj) (by intro e;injection e with e;apply HSRC.out.2.1;rw [← e];unfold Addr.add;split <;> rfl)
 have hln:(bc new).length=m:=by rw [bc,List.length_map];exact HSRC.out.2.2
 have hcp:(Builtin.copy_ #[62,62] 3 #[.slice (some ⟨g,l,none⟩) m (c - l),.slice (some ad) m sc]).run Tryz.prog w3=.ok (.int .i64 m) (w3.setRow g (cells.toList.take l++bc new++cells.toList.drop (l+m)).toArray):=by
  have:=run_copy_row (P:=Tryz.prog) w3 62 62 3 5 g l m (c - l) ad m sc cells 5 (bc new) Tryz.underlying62 size5 HG3.out (by rw [hln];exact (Nat.min_self m).symm) hs3 (by rw [hln,hcs3];exact hle3) (by intro v hv;simp [bc] at hv;obtain ⟨a,_,rfl⟩:=hv;rfl)
  rw [hln] at this
  exact this
 clear hs3
 have HX:=am (And.intro hbl (And.intro hgb (And.intro hcs3 (And.intro hl1 (And.intro hle3 (And.intro hcm (And.intro htk hgr)))))))
 clear hb hg hbl hgb hcs3 hl1 hn1 hle3 hcm htk hb1 hg1 g1 h1 h2 hb3 hg3 hgr
 go_enter Tryz.func325,Tryz.ntmps325
 go_wp2_with (go_at_call 355;fail)
 refine CT.out.mono ?_
 rintro e w2 ⟨rfl,h2⟩
 rw [h2]
 clear h2
 go_wp2
 go_ret2
 refine ⟨rfl,?_⟩
 obtain ⟨hbl,hgb,hcs3,hl1,hle3,hcm,htk,hgr⟩:=HX.out
 have hfin:=wrote_end (v:=.slice (some ⟨g,0,none⟩) l c) (new:=new) HB3.out HG3.out hbl HSRC.out.2.2 (by omega) hgb hcs3 hle3 hcm htk hgr.os hgr.tape hgr.output hgr.size (fun k hk hkb _=>hgr.block k hk (fun e=>hkb (by injection e))) (.inl rfl)
 rw [List.append_assoc] at hfin
 exact hfin
theorem write_nil (w:World) (b T:Nat) (lr:Int) (ad:Addr) (sc m:Nat) (new:List UInt8) (HSRC:Aside0 ((∀ (j:Nat) (v:Value),(bc new)[j]?=some v→w.cell? (ad.add j)=some v)∧ad.block≠b∧new.length=m)) (hb:w.heap[b]?=some (.cells #[.slice none 0 0,.int .i64 0,.int .i8 lr] T (0,0))) (hn1:1≤m) (h64:m≤4000000000000):
  Calls Tryz.prog 325 #[.pointer (some ⟨b,0,none⟩),.slice (some ad) m sc] w fun e w'=>e=.returned (.tuple #[.int .i64 m,.nilIface])∧Wrote w w' b T (.slice none 0 0) (new):=by
 obtain ⟨c0,c1,c2,f0,f1,f2⟩:=cell_at hb
 have h1:=Lib.heap_setCell_same (i:=2) hb (.int .i8 0)
 obtain ⟨w1,hw1⟩:∃ w1,w.setCell ⟨b,2,none⟩ (.int .i8 0)=w1:=⟨_,rfl⟩
 rw [hw1] at h1
 have hb1:w1.heap[b]?=some (.cells #[.slice none 0 0,.int .i64 0,.int .i8 0] T (0,0)):=h1
 have g1:w.grownBy w1 (some b):=by rw [← hw1];exact Lib.grownBy_setCell w b 2 _
 obtain ⟨d0,d1,d2,e0,e1,e2⟩:=cell_at hb1
 have CT:=am (tryGrow_not w1 b none 0 0 m d0 (by omega) (Nat.le_refl _) (by unfold maxLen;omega) (by omega))
 have CG:=am (grow_nil w1 b T m 0 hb1 hn1 h64)
 have HB:=am hb
 have HG1:=am g1
 have HNO:=am hn1
 clear hb hb1 g1 h1 hn1 h64
 go_enter Tryz.func325,Tryz.ntmps325
 go_wp2_with (go_at_call 355;fail)
 refine CT.out.mono ?_
 rintro e w2 ⟨rfl,h2⟩
 rw [h2]
 clear h2
 go_wp2_with (go_at_call 356;fail)
 refine CG.out.mono ?_
 rintro e w3 ⟨rfl,cap,cells,hb3,hg3,hcs3,htk3,hle3,hcm3,hgr3⟩
 rw [Nat.zero_add] at hb3
 obtain ⟨x0,x1,x2,y0,y1,y2⟩:=cell_at hb3
 have HB3:=am hb3
 have HG3:=am hg3
 have HX:=am (And.intro hcs3 (And.intro hle3 (And.intro hcm3 hgr3)))
 have p2:m≤cap:=by omega
 have hcl:(cap=0)=False:=eq_false (by have:=HNO.out;omega)
 have HSZ:=am (show w1.heap.size=w.heap.size by rw [← hw1];simp [World.setCell])
 have l0:∃ l,l=0:=⟨0,rfl⟩
 have hs3:∀ (j:Nat) (v:Value),(bc new)[j]?=some v→w3.cell? (ad.add j)=some v:=fun j v hj=>(Lib.grownBy_trans HG1.out hgr3).cell (HSRC.out.1 j v hj) (by intro e;injection e with e;apply HSRC.out.2.1;rw [← e];unfold Addr.add;split <;> rfl)
 have hln:(bc new).length=m:=by rw [bc,List.length_map];exact HSRC.out.2.2
 have hcp:(Builtin.copy_ #[62,62] 3 #[.slice (some ⟨w1.heap.size,0,none⟩) m cap,.slice (some ad) m sc]).run Tryz.prog w3=.ok (.int .i64 m) (w3.setRow w1.heap.size (cells.toList.take 0++bc new++cells.toList.drop (0+m)).toArray):=by
  have:=run_copy_row (P:=Tryz.prog) w3 62 62 3 5 w1.heap.size 0 m cap ad m sc cells 5 (bc new) Tryz.underlying62 size5 HG3.out (by rw [hln];exact (Nat.min_self m).symm) hs3 (by rw [hln,hcs3];exact hle3) (by intro v hv;simp [bc] at hv;obtain ⟨a,_,rfl⟩:=hv;rfl)
  rw [hln] at this
  exact this
 clear hs3
 clear hb3 hg3 hcs3 htk3 hle3 hcm3 hgr3 c0 c1 c2 f0 f1 f2 d0 d1 d2 e0 e1 e2
 go_wp2
 go_ret2
 refine ⟨rfl,?_⟩
 obtain ⟨hcs3,hle3,hcm3,hgr3⟩:=HX.out
 have hgr:=Lib.grownBy_trans HG1.out hgr3
 have hfin:=wrote_end (v:=.slice none 0 0) (l:=0) (n:=m) (bs:=[]) (new:=new) (by rw [Nat.zero_add];exact HB3.out) HG3.out rfl HSRC.out.2.2 (by have:=HNO.out;omega) (by have:=Lib.lt_of_heap HB.out;have:=HSZ.out;omega) hcs3 hle3 hcm3 rfl hgr.os hgr.tape hgr.output hgr.size (fun k hk hkb _=>hgr.block k hk (fun e=>hkb (by injection e))) (.inr (by rw [HSZ.out];exact Nat.le_refl _))
 simpa using hfin
theorem set_mid (cells:Array Value) (l:Nat) (v:Value) (h:l < cells.size):cells.setIfInBounds l v=(cells.toList.take l++[v]++cells.toList.drop (l+1)).toArray:=by
 apply Array.ext'
 simp only [Array.toList_setIfInBounds,List.toList_toArray]
 rw [List.set_eq_take_append_cons_drop,if_pos (by simpa using h)]
 simp
theorem writeByte_grow (w:World) (b T g l c:Nat) (lr:Int) (cur:Array Value) (x:UInt8) (bs:List UInt8) (hb:w.heap[b]?=some (.cells #[.slice (some ⟨g,0,none⟩) l c,.int .i64 0,.int .i8 lr] T (0,0))) (hg:w.heap[g]?=some (.cells cur 5 (0,0)))
  (hbl:bs.length=l) (hgb:g≠b) (hcs:cur.size=c) (hl1:1≤l) (hlc:l≤c) (hno:c < l+1) (hlim:l+1≤4000000000000) (htk:cur.toList.take l=bc bs):
  Calls Tryz.prog 346 #[.pointer (some ⟨b,0,none⟩),.int .u8 (x.toNat:Int)] w fun e w'=>e=.returned (.nilIface)∧Wrote w w' b T (.slice (some ⟨g,0,none⟩) l c) (bs++[x]):=by
 obtain ⟨c0,c1,c2,f0,f1,f2⟩:=cell_at hb
 have h1:=Lib.heap_setCell_same (i:=2) hb (.int .i8 0)
 obtain ⟨w1,hw1⟩:∃ w1,w.setCell ⟨b,2,none⟩ (.int .i8 0)=w1:=⟨_,rfl⟩
 rw [hw1] at h1
 have hb1:w1.heap[b]?=some (.cells #[.slice (some ⟨g,0,none⟩) l c,.int .i64 0,.int .i8 0] T (0,0)):=h1
 have hg1:w1.heap[g]?=some (.cells cur 5 (0,0)):=by rw [← hw1,Below.heap_setCell _ _ _ _ hgb];exact hg
 have g1:w.grownBy w1 (some b):=by rw [← hw1];exact Lib.grownBy_setCell w b 2 _
 obtain ⟨d0,d1,d2,e0,e1,e2⟩:=cell_at hb1
 have CT:=am (tryGrow_not w1 b _ l c 1 d0 hno hlc (by unfold maxLen;omega) (by omega))
 have CG:=am (grow_row w1 b T g l c 1 0 cur hb1 hg1 hcs hl1 hlc (by omega) hno hlim (by rw [htk];intro v hv;simp [bc] at hv;obtain ⟨a,_,rfl⟩:=hv;rfl))
 have HB:=am hb
 have HH:=am (And.intro hbl (And.intro hlc (And.intro hlim htk)))
 have HG1:=am g1
 have HNO:=am hno
 clear hb hg hbl hgb hcs hl1 hlc hno hlim htk hb1 hg1 g1 h1
 go_enter Tryz.func346,Tryz.ntmps346
 go_wp2_with (go_at_call 355;fail)
 refine CT.out.mono ?_
 rintro e w2 ⟨rfl,h2⟩
 rw [h2]
 clear h2
 go_wp2_with (go_at_call 356;fail)
 refine CG.out.mono ?_
 rintro e w3 ⟨rfl,cap,cells,hb3,hg3,hcs3,htk3,hle3,hcm3,hgr3⟩
 obtain ⟨x0,x1,x2,y0,y1,y2⟩:=cell_at hb3
 have HB3:=am hb3
 have HG3:=am hg3
 have HX:=am (And.intro hcs3 (And.intro htk3 (And.intro hle3 (And.intro hcm3 hgr3))))
 have p1:l≤l+1:=Nat.le_add_right _ _
 have p2:l≤cap:=by omega
 have hcl:(cap=l)=False:=eq_false (by have:=HNO.out;have:=HH.out;omega)
 have HSZ:=am (show w1.heap.size=w.heap.size by rw [← hw1];simp [World.setCell])
 obtain ⟨u,gc⟩:∃ u,w3.cell? ⟨w1.heap.size,l,none⟩=some u:=⟨cells[l]'(by omega),by simp [World.cell?,HG3.out]⟩
 have gf:w3.frozen? ⟨w1.heap.size,l,none⟩=false:=by simp [World.frozen?,HG3.out]
 have p3:l < l+1:=Nat.lt_succ_self _
 clear hb3 hg3 hcs3 htk3 hle3 hcm3 hgr3 c0 c1 c2 f0 f1 f2 d0 d1 d2 e0 e1 e2
 go_wp2
 go_ret
 refine ⟨rfl,?_⟩
 obtain ⟨hcs3,htk3,hle3,hcm3,hgr3⟩:=HX.out
 obtain ⟨hbl,hlc,hlim,htk⟩:=HH.out
 have hgr:=Lib.grownBy_trans HG1.out hgr3
 have hfin:=wrote_end (v:=.slice (some ⟨g,0,none⟩) l c) (new:=[x]) HB3.out HG3.out hbl rfl (by have:=HNO.out;omega) (by have:=Lib.lt_of_heap HB.out;have:=HSZ.out;omega) hcs3 hle3 hcm3 (htk3.trans htk) hgr.os hgr.tape hgr.output hgr.size (fun k hk hkb _=>hgr.block k hk (fun e=>hkb (by injection e))) (.inr (by rw [HSZ.out];exact Nat.le_refl _))
 rw [setCell_eq_setRow w3 w1.heap.size l _ _ _ _ HG3.out,set_mid _ _ _ (by omega)]
 exact hfin
theorem writeByte_fits (w:World) (b T g l c:Nat) (lr:Int) (cells:Array Value) (x:UInt8) (bs:List UInt8) (hb:w.heap[b]?=some (.cells #[.slice (some ⟨g,0,none⟩) l c,.int .i64 0,.int .i8 lr] T (0,0))) (hg:w.heap[g]?=some (.cells cells 5 (0,0)))
  (hbl:bs.length=l) (hgb:g≠b) (hcs3:cells.size=c) (hl1:1≤l) (hn1:1≤1) (hle3:l+1≤c) (hcm:c≤maxLen) (htk:cells.toList.take l=bc bs):
  Calls Tryz.prog 346 #[.pointer (some ⟨b,0,none⟩),.int .u8 (x.toNat:Int)] w fun e w'=>e=.returned (.nilIface)∧Wrote w w' b T (.slice (some ⟨g,0,none⟩) l c) (bs++[x]):=by
 obtain ⟨c0,c1,c2,f0,f1,f2⟩:=cell_at hb
 have h1:=Lib.heap_setCell_same (i:=2) hb (.int .i8 0)
 obtain ⟨w1,hw1⟩:∃ w1,w.setCell ⟨b,2,none⟩ (.int .i8 0)=w1:=⟨_,rfl⟩
 rw [hw1] at h1
 have hb1:w1.heap[b]?=some (.cells #[.slice (some ⟨g,0,none⟩) l c,.int .i64 0,.int .i8 0] T (0,0)):=h1
 have hg1:w1.heap[g]?=some (.cells cells 5 (0,0)):=by rw [← hw1,Below.heap_setCell _ _ _ _ hgb];exact hg
 have g1:w.grownBy w1 (some b):=by rw [← hw1];exact Lib.grownBy_setCell w b 2 _
 obtain ⟨d0,d1,d2,e0,e1,e2⟩:=cell_at hb1
 have CT:=am (tryGrow_fits w1 b _ l c 1 d0 e0 hle3 hcm)
 have h2:=Lib.heap_setCell_same (i:=0) hb1 (.slice (some ⟨g,0,none⟩) (l+1) c)
 obtain ⟨w3,hw3⟩:∃ w3,w1.setCell ⟨b,0,none⟩ (.slice (some ⟨g,0,none⟩) (l+1) c)=w3:=⟨_,rfl⟩
 rw [hw3] at h2 CT
 have hb3:w3.heap[b]?=some (.cells #[.slice (some ⟨g,0,none⟩) (l+1) c,.int .i64 0,.int .i8 0] T (0,0)):=h2
 have hg3:w3.heap[g]?=some (.cells cells 5 (0,0)):=by rw [← hw3,Below.heap_setCell _ _ _ _ hgb];exact hg1
 have hgr:w.grownBy w3 (some b):=by rw [← hw3];exact Lib.grownBy_setB g1 0 _
 obtain ⟨x0,x1,x2,y0,y1,y2⟩:=cell_at hb3
 have HB3:=am hb3
 have HG3:=am hg3
 have p1:l≤l+1:=Nat.le_add_right _ _
 have p2:l≤c:=by omega
 have hcl:(c=l)=False:=eq_false (by omega)
 obtain ⟨u,gc⟩:∃ u,w3.cell? ⟨g,l,none⟩=some u:=⟨cells[l]'(by omega),by simp [World.cell?,HG3.out]⟩
 have gf:w3.frozen? ⟨g,l,none⟩=false:=by simp [World.frozen?,HG3.out]
 have p3:l < l+1:=Nat.lt_succ_self _
 have HX:=am (And.intro hbl (And.intro hgb (And.intro hcs3 (And.intro hl1 (And.intro hle3 (And.intro hcm (And.intro htk hgr)))))))
 clear hb hg hbl hgb hcs3 hl1 hn1 hle3 hcm htk hb1 hg1 g1 h1 h2 hb3 hg3 hgr
 go_enter Tryz.func346,Tryz.ntmps346
 go_wp2_with (go_at_call 355;fail)
 refine CT.out.mono ?_
 rintro e w2 ⟨rfl,h2⟩
 rw [h2]
 clear h2
 go_wp2
 go_ret
 refine ⟨rfl,?_⟩
 obtain ⟨hbl,hgb,hcs3,hl1,hle3,hcm,htk,hgr⟩:=HX.out
 have hfin:=wrote_end (v:=.slice (some ⟨g,0,none⟩) l c) (new:=[x]) HB3.out HG3.out hbl rfl (by omega) hgb hcs3 hle3 hcm htk hgr.os hgr.tape hgr.output hgr.size (fun k hk hkb _=>hgr.block k hk (fun e=>hkb (by injection e))) (.inl rfl)
 rw [setCell_eq_setRow w3 g l _ _ _ _ HG3.out,set_mid _ _ _ (by omega)]
 exact hfin
theorem writeByte_nil (w:World) (b T:Nat) (lr:Int) (x:UInt8) (hb:w.heap[b]?=some (.cells #[.slice none 0 0,.int .i64 0,.int .i8 lr] T (0,0))) (hn1:1≤1) (h64:1≤4000000000000):
  Calls Tryz.prog 346 #[.pointer (some ⟨b,0,none⟩),.int .u8 (x.toNat:Int)] w fun e w'=>e=.returned (.nilIface)∧Wrote w w' b T (.slice none 0 0) ([x]):=by
 obtain ⟨c0,c1,c2,f0,f1,f2⟩:=cell_at hb
 have h1:=Lib.heap_setCell_same (i:=2) hb (.int .i8 0)
 obtain ⟨w1,hw1⟩:∃ w1,w.setCell ⟨b,2,none⟩ (.int .i8 0)=w1:=⟨_,rfl⟩
 rw [hw1] at h1
 have hb1:w1.heap[b]?=some (.cells #[.slice none 0 0,.int .i64 0,.int .i8 0] T (0,0)):=h1
 have g1:w.grownBy w1 (some b):=by rw [← hw1];exact Lib.grownBy_setCell w b 2 _
 obtain ⟨d0,d1,d2,e0,e1,e2⟩:=cell_at hb1
 have CT:=am (tryGrow_not w1 b none 0 0 1 d0 (by omega) (Nat.le_refl _) (by unfold maxLen;omega) (by omega))
 have CG:=am (grow_nil w1 b T 1 0 hb1 hn1 h64)
 have HB:=am hb
 have HG1:=am g1
 have HNO:=am hn1
 clear hb hb1 g1 h1 hn1 h64
 go_enter Tryz.func346,Tryz.ntmps346
 go_wp2_with (go_at_call 355;fail)
 refine CT.out.mono ?_
 rintro e w2 ⟨rfl,h2⟩
 rw [h2]
 clear h2
 go_wp2_with (go_at_call 356;fail)
 refine CG.out.mono ?_
 rintro e w3 ⟨rfl,cap,cells,hb3,hg3,hcs3,htk3,hle3,hcm3,hgr3⟩
 rw [Nat.zero_add] at hb3
 obtain ⟨x0,x1,x2,y0,y1,y2⟩:=cell_at hb3
 have HB3:=am hb3
 have HG3:=am hg3
 have HX:=am (And.intro hcs3 (And.intro hle3 (And.intro hcm3 hgr3)))
 have p2:1≤cap:=by omega
 have hcl:(cap=0)=False:=eq_false (by have:=HNO.out;omega)
 have HSZ:=am (show w1.heap.size=w.heap.size by rw [← hw1];simp [World.setCell])
 have l0:∃ l,l=0:=⟨0,rfl⟩
 obtain ⟨u,gc⟩:∃ u,w3.cell? ⟨w1.heap.size,0,none⟩=some u:=⟨cells[0]'(by omega),by simp [World.cell?,HG3.out]⟩
 have gf:w3.frozen? ⟨w1.heap.size,0,none⟩=false:=by simp [World.frozen?,HG3.out]
 have p3:0 < 0+1:=Nat.lt_succ_self _
 clear hb3 hg3 hcs3 htk3 hle3 hcm3 hgr3 c0 c1 c2 f0 f1 f2 d0 d1 d2 e0 e1 e2
 go_wp2
 go_ret
 refine ⟨rfl,?_⟩
 obtain ⟨hcs3,hle3,hcm3,hgr3⟩:=HX.out
 have hgr:=Lib.grownBy_trans HG1.out hgr3
 have hfin:=wrote_end (v:=.slice none 0 0) (l:=0) (n:=1) (bs:=[]) (new:=[x]) (by rw [Nat.zero_add];exact HB3.out) HG3.out rfl rfl (by have:=HNO.out;omega) (by have:=Lib.lt_of_heap HB.out;have:=HSZ.out;omega) hcs3 hle3 hcm3 rfl hgr.os hgr.tape hgr.output hgr.size (fun k hk hkb _=>hgr.block k hk (fun e=>hkb (by injection e))) (.inr (by rw [HSZ.out];exact Nat.le_refl _))
 rw [setCell_eq_setRow w3 w1.heap.size 0 _ _ _ _ HG3.out,set_mid _ _ _ (by omega)]
 exact hfin
theorem writeRune_of (w:World) (b:Nat) (x:UInt8) (hx:x.toNat < 128) (R:World→Prop) (h:Calls Tryz.prog 346 #[.pointer (some ⟨b,0,none⟩),.int .u8 (x.toNat:Int)] w fun e w'=>e=.returned .nilIface∧R w'):
  Calls Tryz.prog 326 #[.pointer (some ⟨b,0,none⟩),.int .i32 (x.toNat:Int)] w fun e w'=>e=.returned (.tuple #[.int .i64 1,.nilIface])∧R w':=by
 have H:=am h
 have q1:IntKind.u32.wrap (x.toNat:Int)=(x.toNat:Int):=by simp [IntKind.wrap,IntKind.bits,IntKind.signed];omega
 have q2:IntKind.u8.wrap (x.toNat:Int)=(x.toNat:Int):=by simp [IntKind.wrap,IntKind.bits,IntKind.signed];omega
 have q3:decide ((x.toNat:Int) < 128)=true:=decide_eq_true (by omega)
 clear h
 go_enter Tryz.func326,Tryz.ntmps326
 go_wp2_with (go_at_call 346;fail)
 refine H.out.mono ?_
 rintro e w2 ⟨rfl,hR⟩
 have HR:=am hR
 clear hR
 go_wp2
 go_ret2
 exact ⟨rfl,HR.out⟩
theorem wrote_nil {w:World} {b T:Nat} {v:Value} {bs:List UInt8} (h:BufAt w b T bs v):(bs=[]∧v=.slice none 0 0∧∃ lr,w.heap[b]?=some (.cells #[.slice none 0 0,.int .i64 0,.int .i8 lr] T (0,0))) ∨
  ∃ lr g cap cur,v=.slice (some ⟨g,0,none⟩) bs.length cap∧g≠b∧w.heap[b]?=some (.cells #[.slice (some ⟨g,0,none⟩) bs.length cap,.int .i64 0,.int .i8 lr] T (0,0))∧w.heap[g]?=some (.cells cur 5 (0,0))∧cur.size=cap∧1≤bs.length∧bs.length≤cap∧cap≤maxLen∧cur.toList.take bs.length=bc bs:=by
 obtain ⟨⟨lr,h0⟩,h1|⟨h1,g,cap,cur,h2,h3,h4,h5,h6,h7,h8⟩⟩:=h
 ·obtain ⟨rfl,rfl⟩:=h1
  exact .inl ⟨rfl,rfl,lr,h0⟩
 ·subst h2
  refine .inr ⟨lr,g,cap,cur,rfl,h3,h0,h4,h5,?_,h6,h7,h8⟩
  cases bs with
  |nil=>exact absurd rfl h1
  |cons a l=>simp
theorem writeByte_calls (w:World) (b T:Nat) (x:UInt8) (bs:List UInt8) (v:Value) (h:BufAt w b T bs v) (hlim:bs.length+1≤4000000000000):
  Calls Tryz.prog 346 #[.pointer (some ⟨b,0,none⟩),.int .u8 (x.toNat:Int)] w fun e w'=>e=.returned .nilIface∧Wrote w w' b T v (bs++[x]):=by
 rcases wrote_nil h with ⟨rfl,rfl,lr,h0⟩|⟨lr,g,cap,cur,rfl,h3,h0,h4,h5,h6,h7,h8,h9⟩
 ·exact writeByte_nil w b T lr x h0 (by omega) (by omega)
 ·by_cases hf:bs.length+1≤cap
  ·exact writeByte_fits w b T g bs.length cap lr cur x bs h0 h4 rfl h3 h5 h6 (by omega) hf h8 h9
  ·exact writeByte_grow w b T g bs.length cap lr cur x bs h0 h4 rfl h3 h5 h6 h7 (by omega) hlim h9
theorem writeRune_calls (w:World) (b T:Nat) (x:UInt8) (hx:x.toNat < 128) (bs:List UInt8) (v:Value) (h:BufAt w b T bs v) (hlim:bs.length+1≤4000000000000):
  Calls Tryz.prog 326 #[.pointer (some ⟨b,0,none⟩),.int .i32 (x.toNat:Int)] w fun e w'=>e=.returned (.tuple #[.int .i64 1,.nilIface])∧Wrote w w' b T v (bs++[x]):=
 writeRune_of w b x hx _ (writeByte_calls w b T x bs v h hlim)
theorem writeString_calls (w:World) (b T:Nat) (s:ByteArray) (bs:List UInt8) (v:Value) (h:BufAt w b T bs v) (hs:1≤s.size) (h64:s.size≤4000000000000) (hlim:bs.length+s.size≤4000000000000):
  Calls Tryz.prog 335 #[.pointer (some ⟨b,0,none⟩),.string s] w fun e w'=>e=.returned (.tuple #[.int .i64 s.size,.nilIface])∧Wrote w w' b T v (bs++s.data.toList):=by
 rcases wrote_nil h with ⟨rfl,rfl,lr,h0⟩|⟨lr,g,cap,cur,rfl,h3,h0,h4,h5,h6,h7,h8,h9⟩
 ·exact writeString_nil w b T lr s h0 hs h64
 ·by_cases hf:bs.length+s.size≤cap
  ·exact writeString_fits w b T g bs.length cap lr cur s bs h0 h4 rfl h3 h5 h6 hs hf h8 h9
  ·exact writeString_grow w b T g bs.length cap lr cur s bs h0 h4 rfl h3 h5 h6 h7 (by omega) hlim h9
theorem write_calls (w:World) (b T:Nat) (ad:Addr) (sc m:Nat) (new:List UInt8) (hsrc:∀ (j:Nat) (v:Value),(bc new)[j]?=some v→w.cell? (ad.add j)=some v) (hab:ad.block≠b) (hnm:new.length=m) (bs:List UInt8) (v:Value) (h:BufAt w b T bs v) (hs:1≤m) (h64:m≤4000000000000) (hlim:bs.length+m≤4000000000000):
  Calls Tryz.prog 325 #[.pointer (some ⟨b,0,none⟩),.slice (some ad) m sc] w fun e w'=>e=.returned (.tuple #[.int .i64 m,.nilIface])∧Wrote w w' b T v (bs++new):=by
 rcases wrote_nil h with ⟨rfl,rfl,lr,h0⟩|⟨lr,g,cap,cur,rfl,h3,h0,h4,h5,h6,h7,h8,h9⟩
 ·exact write_nil w b T lr ad sc m new ⟨hsrc,hab,hnm⟩ h0 hs h64
 ·by_cases hf:bs.length+m≤cap
  ·exact write_fits w b T g bs.length cap lr cur ad sc m new ⟨hsrc,hab,hnm⟩ bs h0 h4 rfl h3 h5 h6 hs hf h8 h9
  ·exact write_grow w b T g bs.length cap lr cur ad sc m new ⟨hsrc,hab,hnm⟩ bs h0 h4 rfl h3 h5 h6 h7 (by omega) hlim h9
theorem blanks_calls (w:World) (s:ByteArray) (h0:s.size≠0) (h300:s.size≤4000000000000) (hq:∀ (i:Nat) (h:i < s.size),(s[i]'h).toNat≠9∧(s[i]'h).toNat≠10∧(s[i]'h).toNat≠13) (hd:∀ (i:Nat) (h:i+1 < s.size),(s[i]'(by omega)).toNat=32→(s[i+1]'h).toNat≠32):
  Calls Tryz.prog 157 #[.string s] w fun e w'=>e=.returned (.string s)∧Below w.heap.size w w':=by
 have hmf:∀ (fn:Fn) (first cap:Array Value) (w:World),(Instr.makeFunc fn first cap).run Tryz.prog w=.ok (.func fn first cap) w:=fun _ _ _ _=>rfl
 have heq:∀ w:World,(binOp .eql 62 (.slice none 0 0) (.slice none 0 0)).run Tryz.prog w=.ok (.bool true) w:=fun w=>nil_none 0 0 w
 have hne:s.toList.isEmpty=false:=by
  rw [List.isEmpty_eq_false_iff,ByteArray.toList_eq]
  intro e
  have:=congrArg List.length e
  rw [Array.length_toList] at this
  exact h0 this
 obtain ⟨W,hW⟩:∃ W,(w.alloc (Obj.cells #[Value.string s] 9)).alloc (Obj.cells #[Value.slice none 0 0] 62)=W:=⟨_,rfl⟩
 have hB:Below w.heap.size w W:=by rw [← hW];exact below_alloc (below_alloc (Below.refl _ _) _) _
 have hx1:W.cell? ⟨w.heap.size+1,0,none⟩=some (.slice none 0 0):=by rw [← hW];exact cell_new _ _ _ _ (by simp [World.alloc,-World.alloc_eq])
 have hx0:W.cell? ⟨w.heap.size,0,none⟩=some (.string s):=by
  rw [← hW,World.cell?_alloc_lt _ _ _ (by show w.heap.size < _;simp [World.alloc,-World.alloc_eq])]
  exact cell_new _ _ _ _ rfl
 have H3:=am h300
 have HQ:=am hq
 have HD:=am hd
 clear h300 hq hd
 go_enter Tryz.func157,Tryz.ntmps157
 go_wp2
 (try rw [hW])
 have HB:=am hB
 clear hB hW
 go_loopg [5,6,7] s.size (fun gf v5 v6 v7 wx=>∃ (i:Nat),v5=.int .i64 0∧v7=.int .i64 (i:Int)∧wx=W∧Aside0 (i≤s.size∧s.size - i≤gf)∧(v6=.int .i64 (-1)∨∃ k:Nat,v6=.int .i64 (k:Int)∧Aside0 (i=k+1)∧Aside0 (∃ h:k < s.size,(s[k]'h).toNat=32)))
 case atStart=>exact ⟨0,rfl,rfl,rfl,⟨Nat.zero_le _,by omega⟩,.inl rfl⟩
 case round=>
  obtain ⟨i,rfl,rfl,hwx,HP,HM⟩:=hrel
  subst hwx
  by_cases hlt:(i:Int) < (s.size:Int)
  ·have hib:i < s.size:=by omega
   obtain ⟨g',rfl⟩:∃ g',gk=g'+1:=⟨gk - 1,by have:=HP.out;omega⟩
   have hw1:=w64s i (by have:=H3.out;omega)
   have c4b:=decide_eq_true hlt
   have q1:=eq_true hlt
   obtain ⟨hq1,hq2,hq3⟩:=HQ.out i hib
   obtain ⟨x,hx⟩:∃ x,(s[i]'hib).toNat=x:=⟨_,rfl⟩
   rw [hx] at hq1 hq2 hq3
   have hbt:∀ h:i < s.size,((s[i]'h).toNat:Int)=(x:Int):=fun h=>by rw [hx]
   have d9:((x:Int)==9)=false:=beq_eq_false_iff_ne.mpr (by omega)
   have d10:((x:Int)==10)=false:=beq_eq_false_iff_ne.mpr (by omega)
   have d13:((x:Int)==13)=false:=beq_eq_false_iff_ne.mpr (by omega)
   have q9:((x:Int)=9)=False:=eq_false (by omega)
   have q10:((x:Int)=10)=False:=eq_false (by omega)
   have q13:((x:Int)=13)=False:=eq_false (by omega)
   rcases HM with rfl|⟨k,rfl,HK,HK2⟩
   ·by_cases h32:x=32
    ·have d32:((x:Int)==32)=true:=by subst h32;rfl
     go_wp2
     clear q9 q10 q13 q1
     go_roundg g'
     case measure=>omega
     case rel=>
      exact ⟨i+1,rfl,by rw [hw1],rfl,⟨by omega,by have:=HP.out;omega⟩,.inr ⟨i,rfl,⟨rfl⟩,⟨⟨hib,by rw [hx];exact h32⟩⟩⟩⟩
    ·have d32:((x:Int)==32)=false:=beq_eq_false_iff_ne.mpr (by clear q9 q10 q13 q1;omega)
     go_wp2
     clear q9 q10 q13 q1
     go_roundg g'
     case measure=>omega
     case rel=>
      exact ⟨i+1,rfl,by rw [hw1],rfl,⟨by omega,by have:=HP.out;omega⟩,.inl rfl⟩
   ·have hk:k < s.size:=HK2.out.1
    have hkx:(s[k]'hk).toNat=32:=HK2.out.2
    have h32:x≠32:=by
     have:=HD.out k (by have:=HK.out;omega) hkx
     have e:=HK.out
     subst e
     rw [hx] at this;exact this
    have d32:((x:Int)==32)=false:=beq_eq_false_iff_ne.mpr (by clear q9 q10 q13 q1;omega)
    have hkm:((k:Int)==-1)=false:=beq_eq_false_iff_ne.mpr (by clear q9 q10 q13 q1;omega)
    have hkm2:((k:Int)=-1)=False:=eq_false (by clear q9 q10 q13 q1;omega)
    have hcnt:wrap64 ((i:Int) - (k:Int))=1:=by rw [HK.out];unfold wrap64;clear q9 q10 q13 q1;omega
    have hbk:∀ h:k < s.size,((s[k]'h).toNat:Int)=32:=fun h=>by rw [hkx];rfl
    have hkl:((k:Int) < (s.size:Int))=True:=eq_true (Int.ofNat_lt.2 hk)
    go_wp2
    clear q9 q10 q13 q1 hkm2 hkl
    go_roundg g'
    case measure=>omega
    case rel=>
     exact ⟨i+1,rfl,by rw [hw1],rfl,⟨by omega,by have:=HP.out;omega⟩,.inl rfl⟩
  ·have hi:i=s.size:=by have:=HP.out;omega
   have c4b:=decide_eq_false hlt
   have c4n:(i < s.size)=False:=eq_false (by omega)
   rcases HM with rfl|⟨k,rfl,HK,HK2⟩
   ·go_wp2
    go_ret
    exact ⟨rfl,HB.out⟩
   ·have hk:k < s.size:=HK2.out.1
    have hkx:(s[k]'hk).toNat=32:=HK2.out.2
    have hkm:((k:Int)==-1)=false:=beq_eq_false_iff_ne.mpr (by clear c4n;omega)
    have hkm2:((k:Int)=-1)=False:=eq_false (by clear c4n;omega)
    have hcnt:wrap64 ((s.size:Int) - (k:Int))=1:=by have:=HK.out;rw [← hi,this];unfold wrap64;clear c4n;have:=H3.out;omega
    have hbk:∀ h:k < s.size,((s[k]'h).toNat:Int)=32:=fun h=>by rw [hkx];rfl
    have hkl:((k:Int) < (s.size:Int))=True:=eq_true (Int.ofNat_lt.2 hk)
    go_wp2
    go_ret
    exact ⟨rfl,HB.out⟩
theorem setCell_self {w:World} {b i:Nat} {c:Array Value} {T:TypeId} {fr:Nat×Nat} {v:Value} (h:w.heap[b]?=some (.cells c T fr)) (hi:c[i]?=some v):w.setCell ⟨b,i,none⟩ v=w:=by
 have hh:(w.setCell ⟨b,i,none⟩ v).heap=w.heap:=by
  apply Array.ext_getElem?
  intro k
  by_cases e:k=b
  ·subst e
   rw [Lib.heap_setCell_same h v,h]
   congr 2
   apply Array.ext_getElem?
   intro j
   rw [Array.getElem?_setIfInBounds]
   by_cases ej:i=j
   ·subst ej
    rw [if_pos rfl,hi]
    have:=(Array.getElem?_eq_some_iff.1 hi).1
    rw [if_pos this]
   ·rw [if_neg ej]
  ·exact Below.heap_setCell _ _ _ _ e
 have e:(w.setCell ⟨b,i,none⟩ v)={ w with heap:=(w.setCell ⟨b,i,none⟩ v).heap }:=rfl
 rw [e,hh]
theorem write_zero (w:World) (b T:Nat) (A:Option Addr) (sc:Nat) (bs:List UInt8) (v:Value) (h:BufAt w b T bs v) (h0:w.heap[b]?=some (.cells #[v,.int .i64 0,.int .i8 0] T (0,0))) (hlim:bs.length≤4000000000000):
  Calls Tryz.prog 325 #[.pointer (some ⟨b,0,none⟩),.slice A 0 sc] w fun e w'=>e=.returned (.tuple #[.int .i64 0,.nilIface])∧w'=w:=by
 obtain ⟨A1,l,c,rfl,hlc,hcm⟩:∃ A1 l c,v=.slice A1 l c∧l≤c∧c≤maxLen:=by
  rcases h.2 with ⟨_,h2⟩|⟨_,g,cap,cur,h2,_,_,_,h3,h4,_⟩
  ·exact ⟨none,0,0,h2,Nat.le_refl _,Nat.zero_le _⟩
  ·exact ⟨_,_,_,h2,h3,h4⟩
 obtain ⟨c0,c1,c2,f0,f1,f2⟩:=cell_at h0
 have s2:w.setCell ⟨b,2,none⟩ (.int .i8 0)=w:=setCell_self h0 rfl
 have s0:w.setCell ⟨b,0,none⟩ (.slice A1 (l+0) c)=w:=setCell_self h0 rfl
 have CT:=am (tryGrow_fits w b A1 l c 0 c0 f0 (by omega) hcm)
 rw [s0] at CT
 have hcp:∀ v1:Option Addr,∀ c1:Nat,(Builtin.copy_ #[62,62] 3 #[.slice v1 0 c1,.slice A 0 sc]).run Tryz.prog w=.ok (.int .i64 0) w:=by
  intro v1 c1
  cases A <;> cases v1 <;> simp [Builtin.copy_,Builtin.lenOf,Builtin.firstCells,loadCells,loadCellsFrom,storeCells,goInt,Result.andThen]
 have HX:=am h
 clear h s0
 go_enter Tryz.func325,Tryz.ntmps325
 go_wp2_with (go_at_call 355;fail)
 refine CT.out.mono ?_
 rintro e w2 ⟨rfl,h2⟩
 rw [h2]
 clear h2
 go_wp2
 all_goals
  go_ret2
  exact ⟨rfl,rfl⟩
theorem last_ext (s:ByteArray) (x:List UInt8) (y:UInt8) (hs:s.data.toList=x++[y]):s.size=x.length+1∧(s.extract x.length s.size).data.toList=[y]∧(s.extract 0 x.length).data.toList=x:=by
 have hl:s.size=x.length+1:=by
  have:=congrArg List.length hs
  rw [Array.length_toList,List.length_append] at this
  exact this
 refine ⟨hl,?_,?_⟩
 ·rw [ByteArray.data_extract,Array.toList_extract,hs,List.extract_eq_take_drop,hl,List.drop_left];simp
 ·rw [ByteArray.data_extract,Array.toList_extract,hs,List.extract_eq_take_drop,List.drop_zero,Nat.sub_zero,List.take_left]
theorem suffix_eq (s c:ByteArray) (x:List UInt8) (y:UInt8) (hs:s.data.toList=x++[y]) (hc:c.data.toList=[32]):((s.extract x.length (x.length+1)).toList==c.toList)=decide (y=32):=by
 obtain ⟨h1,h2,h3⟩:=last_ext s x y hs
 rw [← h1,ByteArray.toList_eq,ByteArray.toList_eq,h2,hc]
 by_cases e:y=32
 ·subst e;rfl
 ·simp [e]
theorem hasSuffix_calls (s c:ByteArray) (x:List UInt8) (y:UInt8) (w:World) (hs:s.data.toList=x++[y]) (hc:c.data.toList=[32]) (h300:x.length≤4000000000000):
  Calls Tryz.prog 169 #[.string s,.string c] w fun e w'=>e=.returned (.bool (decide (y=32)))∧w'=w:=by
 obtain ⟨h1,h2,h3⟩:=last_ext s x y hs
 have hcs:c.size=1:=by
  have:=congrArg List.length hc
  rw [Array.length_toList] at this
  exact this
 have hge:decide ((s.size:Int)≥(c.size:Int))=true:=decide_eq_true (by omega)
 have hw:wrap64 ((s.size:Int) - (c.size:Int))=(x.length:Int):=by unfold wrap64;omega
 have hq:=am (suffix_eq s c x y hs hc)
 go_enter Tryz.func169,Tryz.ntmps169
 go_wp2
 go_ret
 exact ⟨by rw [hq.out];rfl,rfl⟩
theorem trimSuffix_calls (s c:ByteArray) (x:List UInt8) (y:UInt8) (w:World) (hs:s.data.toList=x++[y]) (hc:c.data.toList=[32]) (h300:x.length≤4000000000000):
  Calls Tryz.prog 170 #[.string s,.string c] w fun e w'=>(∃ t:ByteArray,e=.returned (.string t)∧t.data.toList=if y=32 then x else x++[y])∧w'=w:=by
 obtain ⟨h1,h2,h3⟩:=last_ext s x y hs
 have hcs:c.size=1:=by
  have:=congrArg List.length hc
  rw [Array.length_toList] at this
  exact this
 have hw:wrap64 ((s.size:Int) - (c.size:Int))=(x.length:Int):=by unfold wrap64;omega
 have CS:=am (hasSuffix_calls s c x y w hs hc h300)
 have HS:=am hs
 have HX:=am h3
 clear hs h2 h3
 go_enter Tryz.func170,Tryz.ntmps170
 go_wp2_with (go_at_call 169;fail)
 refine CS.out.mono ?_
 rintro e w1 ⟨rfl,h2⟩
 rw [h2]
 clear h2
 by_cases hy:y=32
 ·have hd:decide (y=32)=true:=decide_eq_true hy
  go_wp2
  go_ret
  exact ⟨⟨_,rfl,by simpa [hy] using HX.out⟩,rfl⟩
 ·have hd:decide (y=32)=false:=decide_eq_false hy
  go_wp2
  go_ret
  exact ⟨⟨_,rfl,by simpa [hy] using HS.out⟩,rfl⟩
end Go.Proofs.YtbheflncgmhadaaGreat.Hand
