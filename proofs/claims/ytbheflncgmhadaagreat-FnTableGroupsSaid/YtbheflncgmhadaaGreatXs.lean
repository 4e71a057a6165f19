/- What comes behind rendering, ConvertNode. Conditions: those in each statement. -/
import Derived.Test.YtbheflncgmhadaaGreatXg
import Derived.Test.YtbheflncgmhadaaGreatXm
import Derived.Test.YtbheflncgmhadaaGreatXf
import Derived.Test.YtbheflncgmhadaaGreatXh
import Derived.Test.YtbheflncgmhadaaGreatXl
set_option linter.unusedVariables false
set_option linter.unusedSimpArgs false
set_option maxHeartbeats 40000000
set_option maxRecDepth 100000
namespace Go.Proofs.YtbheflncgmhadaaGreat.Hand
open Go.RowKit Go.Proofs.YtbheflncgmhadaaGreatW.PrintWords Go.Proofs.YtbheflncgmhadaaGreatW.PrintLast Go.Proofs.YtbheflncgmhadaaGreatW.PrintMore
structure TS where
 r:List UInt8
 k:Nat
 s:List UInt8
def TS.step (t:TS) (b:UInt8):TS:=if b.toNat=10 then (if t.k+1≤2 then ⟨t.r++t.s++[b],t.k+1,[]⟩ else ⟨t.r,t.k+1,[]⟩) else if b.toNat=32 then ⟨t.r,t.k,t.s++[b]⟩ else ⟨t.r++t.s++[b],0,[]⟩
def tcs (bs:List UInt8):TS:=bs.foldl TS.step ⟨[],0,[]⟩
def tcn (bs:List UInt8):List UInt8:=(tcs bs).r++(tcs bs).s
theorem tcs_snoc (bs:List UInt8) (b:UInt8):tcs (bs++[b])=(tcs bs).step b:=by
 unfold tcs
 rw [List.foldl_append]
 rfl
theorem tcs_next (bs:List UInt8) (i:Nat) (h:i < bs.length):tcs (bs.take (i+1))=(tcs (bs.take i)).step bs[i]:=by
 rw [List.take_succ_eq_append_getElem h,tcs_snoc]
theorem tcs_bound (bs:List UInt8):∀ (i:Nat),i≤bs.length→(tcs (bs.take i)).k≤i∧(tcs (bs.take i)).r.length+(tcs (bs.take i)).s.length≤i∧(∀ x∈(tcs (bs.take i)).r,x∈bs)∧(∀ x∈(tcs (bs.take i)).s,x∈bs)
 |0,_=>by simp [tcs]
 |i+1,h=>by
  obtain ⟨h1,h2,h3,h4⟩:=tcs_bound bs i (by omega)
  have hm:bs[i]∈bs:=List.getElem_mem _
  rw [tcs_next bs i (by omega)]
  have hrs:∀ x∈(tcs (bs.take i)).r++(tcs (bs.take i)).s++[bs[i]],x∈bs:=by
   intro x hx
   rw [List.mem_append,List.mem_append,List.mem_singleton] at hx
   rcases hx with (hx|hx)|hx
   ·exact h3 x hx
   ·exact h4 x hx
   ·rw [hx];exact hm
  have hs:∀ x∈(tcs (bs.take i)).s++[bs[i]],x∈bs:=by
   intro x hx
   rw [List.mem_append,List.mem_singleton] at hx
   rcases hx with hx|hx
   ·exact h4 x hx
   ·rw [hx];exact hm
  unfold TS.step
  split
  ·split
   ·exact ⟨by show _+1≤_;omega,by simp only [List.length_append,List.length_cons,List.length_nil];omega,hrs,fun x hx=>by cases hx⟩
   ·exact ⟨by show _+1≤_;omega,by simp only [List.length_nil];omega,h3,fun x hx=>by cases hx⟩
  ·split
   ·exact ⟨by show (tcs (bs.take i)).k≤i+1;omega,by simp only [List.length_append,List.length_cons,List.length_nil];omega,h3,hs⟩
   ·exact ⟨Nat.zero_le _,by simp only [List.length_append,List.length_cons,List.length_nil];omega,hrs,fun x hx=>by cases hx⟩
theorem tcn_len (bs:List UInt8):(tcn bs).length≤bs.length:=by
 have:=(tcs_bound bs bs.length (Nat.le_refl _)).2.1
 rw [List.take_length] at this
 unfold tcn
 rw [List.length_append]
 exact this
theorem tcn_sub (bs:List UInt8):∀ x∈tcn bs,x∈bs:=by
 have h:=tcs_bound bs bs.length (Nat.le_refl _)
 rw [List.take_length] at h
 intro x hx
 unfold tcn at hx
 rcases List.mem_append.1 hx with hx|hx
 ·exact h.2.2.1 x hx
 ·exact h.2.2.2 x hx
theorem bytesI_app (a b:List UInt8):bytesI (a++b)=bytesI a++bytesI b:=by simp [bytesI]
theorem trimNewlines_calls (w:World) (A0:Option Addr) (c0:Nat) (bs:List UInt8) (hr0:Kd.C (Kd.int .u8) w A0 (bytesI bs).length (bytesI bs)) (hc0:(bytesI bs).length≤c0) (h300:bs.length≤4000000000000) (hq:∀ (i:Nat) (h:i < bs.length),bs[i].toNat < 128):
  Calls Tryz.prog 152 #[.slice A0 (bytesI bs).length c0] w fun e w'=>(∃ v,e=.returned v∧w'.ownsRow w.heap.size 5 1 v (tcn bs).length (nums .u8 (bytesI (tcn bs))))∧Below w.heap.size w w':=by
 have HR0:=am hr0
 have HC0:=am hc0
 have H3:=am h300
 have HQ:=am hq
 clear hr0 hc0 h300 hq
 go_enter Tryz.func152,Tryz.ntmps152
 go_wp2
 go_loopg [3,4,5,6] bs.length (fun gf v3 v4 v5 v6 wx=>∃ (i k:Nat) (r s:List Int) (g c:Nat),v6=.int .i64 (i:Int)∧v4=.int .i64 (k:Int)∧v5=.slice (some ⟨g,0,none⟩) s.length c∧Aside0 (wx.ownsRow w.heap.size 5 1 v3 r.length (nums .u8 r))∧Aside0 (wx.ownsRow w.heap.size 5 1 v5 s.length (nums .u8 s))∧Aside0 (Twain v3 v5)∧Aside0 (r=bytesI (tcs (bs.take i)).r∧s=bytesI (tcs (bs.take i)).s∧k=(tcs (bs.take i)).k)∧Aside0 (s.length≤c)∧Aside0 (Below w.heap.size w wx)∧Aside0 (i≤bs.length∧bs.length - i≤gf))
 case atStart=>
  refine ⟨0,0,[],[],w.heap.size,0,rfl,rfl,rfl,⟨⟨rfl,.inl ⟨rfl,rfl⟩⟩⟩,⟨⟨rfl,.inr ⟨w.heap.size,0,#[],rfl,Nat.le_refl _,by simp [World.alloc,-World.alloc_eq],Nat.le_refl _,by decide,rfl,rfl⟩⟩⟩,⟨fun k hk=>by simp [Value.ownBlock] at hk⟩,⟨rfl,rfl,rfl⟩,⟨Nat.le_refl _⟩,⟨below_alloc (Below.refl _ _) _⟩,⟨Nat.zero_le _,by omega⟩⟩
 case round=>
  obtain ⟨i,k,r,s,g,c,rfl,rfl,rfl,HO3,HO5,HT,HS,HC,HB,HP⟩:=hrel
  by_cases hlt:(i:Int) < ((bytesI bs).length:Int)
  ·have hib:i < bs.length:=by rw [bytesI_length] at hlt;omega
   obtain ⟨g',rfl⟩:∃ g',gk=g'+1:=⟨gk - 1,by have:=HP.out;omega⟩
   have hw1:wrap64 ((i:Int)+1)=((i+1:Nat):Int):=by have:=H3.out;unfold wrap64;omega
   obtain ⟨ad,ead,hxa⟩:=Kd.at_int (Kd.C_below HR0.out HB.out) (i:Int) (by omega) hlt
   cases ead
   simp only [Int.toNat_natCast] at hxa
   have c4b:=decide_eq_true hlt
   have q1:=eq_true hlt
   have hq3:=HQ.out i hib
   have hrd:rd (bytesI bs) (i:Int)=(bs[i].toNat:Int):=by simp [rd,bytesI,hib]
   have q146:i < (bytesI bs).length:=by rw [bytesI_length];exact hib
   have q147:i≤(bytesI bs).length:=Nat.le_of_lt q146
   have q148:(bytesI bs).length≤c0:=HC0.out
   have hci:(c0=i)=False:=eq_false (by omega)
   have CD:=am (decode_ascii (ad.add i) ((bytesI bs).length - i) (c0 - i) (rd (bytesI bs) (i:Int)) wr (by omega) hxa (by rw [hrd];omega) (by rw [hrd];omega))
   have HL:=am (show r.length+s.length≤4000000000000∧k≤i by have h9:=tcs_bound bs i (by omega);rw [HS.out.1,HS.out.2.1,HS.out.2.2,bytesI_length,bytesI_length];have:=H3.out;omega)
   have HNX:=am (tcs_next bs i hib)
   have HRR:=am (read_one (Kd.C_below HR0.out HB.out) HC0.out q146 hci)
   go_wp2_with (go_at_call 163;fail)
   refine CD.out.mono ?_
   rintro e w1 ⟨rfl,h2⟩
   rw [h2]
   clear h2
   by_cases h10:rd (bytesI bs) (i:Int)=10
   ·have hb10:bs[i].toNat=10:=by omega
    obtain ⟨k1,hk1⟩:∃ k1,k1=k+1:=⟨_,rfl⟩
    have HK1:=am hk1
    have hw2:wrap64 ((k:Int)+1)=(k1:Int):=by have:=HL.out.2;have:=H3.out;unfold wrap64;omega
    have d0b:(rd (bytesI bs) (i:Int)==10)=true:=by rw [h10];rfl
    have HST:=am (show (tcs (bs.take (i+1)))=if k+1≤2 then ⟨(tcs (bs.take i)).r++(tcs (bs.take i)).s++[bs[i]],k+1,[]⟩ else ⟨(tcs (bs.take i)).r,k+1,[]⟩ by rw [HNX.out,TS.step,if_pos hb10,← HS.out.2.2])
    have hbe:((bs[i].toNat:Nat):Int)=10:=by rw [hb10];rfl
    by_cases hk2:k+1≤2
    case neg=>
     have hle:decide ((k1:Int)≤2)=false:=decide_eq_false (by omega)
     have hlf2:((k1:Int)≤2)=False:=eq_false (by omega)
     have hlf3:(k1≤2)=False:=eq_false (by omega)
     have HK2:=am hk2
     clear hrd hk2 hbe hk1
     go_wp2
     go_roundg g'
     case measure=>omega
     case rel=>
      refine ⟨i+1,k1,r,[],g,c,by rw [hw1],by rw [hw2],rfl,HO3,⟨own_take (m:=0) HO5.out (Nat.zero_le _)⟩,⟨fun k h1 h2=>HT.out k h1 h2⟩,⟨?_⟩,⟨Nat.zero_le _⟩,HB,⟨by omega,by have:=HP.out;omega⟩⟩
      rw [HST.out,if_neg HK2.out]
      exact ⟨HS.out.1,rfl,HK1.out⟩
    have hle:decide ((k1:Int)≤2)=true:=decide_eq_true (by omega)
    have hleb:=eq_true (of_decide_eq_true hle)
    have hlt3:(k1≤2)=True:=eq_true (by omega)
    have HBE:=am hbe
    rw [if_pos hk2] at HST
    clear hrd hk2 hk1 hbe
    go_wp2_with (first|(at_builtin;refine Kd.R_append_rows (Kd.int .u8) (Rr:=(Kd.int .u8).K wr) (w0:=w) w.heap.size rfl (.tmp 27) (.tmp 28) 62 5 (.int .u8 0) 1 rfl Tryz.underlying62 info5 rfl (by decide) (by omega) u3 r s (some ⟨g,0,none⟩) s.length c (fun _=>True) (fun _=>False) rfl rfl (Kd.R_of_own (h1:=fun _=>rfl) HO3.out (fun _ _=>trivial)) (read_own HO5.out) (fun _ _ h=>h) (fun _ hk=>hk.elim) (fun _ _=>trivial) HB.out (below_size HB.out) (by have:=HL.out.1;(try simp only [List.length_append,List.length_cons,List.length_nil]);omega) ?_;intro v1 w1 ho1 hb1 hg1 hat1;have HO3a:=am (Kd.own_of_R ho1);have HB1:=am hb1;have HT1:=am (twain_append HO5.out HT.out hg1 hat1);clear ho1 hb1 hg1 hat1)|(at_builtin;refine Kd.R_append (Kd.int .u8) (w0:=w) w.heap.size rfl (.tmp 30) (.tmp 31) 62 5 (.int .u8 0) 1 rfl Tryz.underlying62 info5 rfl (by decide) (by omega) v1 (r++s) 10 [.int .u8 10] (fun _=>True) (fun _=>False) rfl rfl rfl (fun _ hk=>hk.elim) (fun _ _=>trivial) (Kd.R_of_own (h1:=fun _=>rfl) HO3a.out (fun _ _=>trivial)) HB1.out (below_size HB1.out) (by have:=HL.out.1;(try simp only [List.length_append,List.length_cons,List.length_nil]);omega) ?_;intro v2 w2 ho2 hb2 hg2 hat2;have HO3b:=am (Kd.own_of_R ho2);have HB2:=am hb2;have HT2:=am (twain_append HT1.out.1 HT1.out.2 hg2 hat2);clear ho2 hb2 hg2 hat2))
    go_roundg g'
    case measure=>omega
    case rel=>
     refine ⟨i+1,k1,r++s++[10],[],g,c,by rw [hw1],rfl,rfl,HO3b,⟨own_take (m:=0) HT2.out.1 (Nat.zero_le _)⟩,⟨fun k h1 h2=>HT2.out.2 k h1 h2⟩,⟨?_⟩,⟨Nat.zero_le _⟩,HB2,⟨by omega,by have:=HP.out;omega⟩⟩
     rw [HST.out]
     exact ⟨by rw [bytesI_app,bytesI_app,← HS.out.1,← HS.out.2.1];show _=_++[((bs[i].toNat:Nat):Int)];rw [HBE.out],rfl,HK1.out⟩
   ·have hb10:bs[i].toNat≠10:=by omega
    have d0b:(rd (bytesI bs) (i:Int)==10)=false:=beq_eq_false_iff_ne.mpr h10
    by_cases h32:rd (bytesI bs) (i:Int)=32
    ·have hb32:bs[i].toNat=32:=by omega
     have HST:=am (show (tcs (bs.take (i+1)))=⟨(tcs (bs.take i)).r,(tcs (bs.take i)).k,(tcs (bs.take i)).s++[bs[i]]⟩ by rw [HNX.out,TS.step,if_neg hb10,if_pos hb32])
     have HRD:=am hrd
     have d1b:(rd (bytesI bs) (i:Int)==32)=true:=by rw [h32];rfl
     clear hrd
     go_wp2_with (first|(at_builtin;refine Kd.R_append_rows (Kd.int .u8) (Rr:=(Kd.int .u8).K wr) (w0:=w) w.heap.size rfl (.tmp _) (.tmp _) 62 5 (.int .u8 0) 1 rfl Tryz.underlying62 info5 rfl (by decide) (by omega) (.slice (some ⟨g,0,none⟩) s.length c) s [rd (bytesI bs) (i:Int)] (some (ad.add i)) 1 _ (fun _=>True) (fun _=>False) rfl rfl (Kd.R_of_own (h1:=fun _=>rfl) HO5.out (fun _ _=>trivial)) HRR.out (fun _ _ h=>h) (fun _ hk=>hk.elim) (fun _ _=>trivial) HB.out (below_size HB.out) (by have:=HL.out.1;(try simp only [List.length_append,List.length_cons,List.length_nil]);omega) ?_;intro v1 w1 ho1 hb1 hg1 hat1;have HO5a:=am (Kd.own_of_R ho1);have HB1:=am hb1;have HT1:=am (twain_append HO3.out (twain_symm HT.out) hg1 hat1);clear ho1 hb1 hg1 hat1))
     go_roundg g'
     case measure=>omega
     case rel=>
      obtain ⟨g1,c1,hv1,hc1⟩:∃ g1 c1,v1=.slice (some ⟨g1,0,none⟩) (s++[rd (bytesI bs) (i:Int)]).length c1∧(s++[rd (bytesI bs) (i:Int)]).length≤c1:=by
       rcases HO5a.out.2 with ⟨_,h0⟩|⟨g1,c1,cur,hv,_,_,hle,_⟩
       ·simp at h0
       ·exact ⟨g1,c1,hv,hle⟩
      refine ⟨i+1,k,r,s++[rd (bytesI bs) (i:Int)],g1,c1,by rw [hw1],rfl,hv1,⟨HT1.out.1⟩,HO5a,⟨twain_symm HT1.out.2⟩,⟨?_⟩,⟨hc1⟩,HB1,⟨by omega,by have:=HP.out;omega⟩⟩
      rw [HST.out]
      exact ⟨HS.out.1,by rw [bytesI_app,← HS.out.2.1,HRD.out];rfl,HS.out.2.2⟩
    ·have hb32:bs[i].toNat≠32:=by omega
     have HST:=am (show (tcs (bs.take (i+1)))=⟨(tcs (bs.take i)).r++(tcs (bs.take i)).s++[bs[i]],0,[]⟩ by rw [HNX.out,TS.step,if_neg hb10,if_neg hb32])
     have HRD:=am hrd
     have d1b:(rd (bytesI bs) (i:Int)==32)=false:=beq_eq_false_iff_ne.mpr h32
     clear hrd
     go_wp2_with (first|(at_builtin;refine Kd.R_append_rows (Kd.int .u8) (Rr:=(Kd.int .u8).K wr) (w0:=w) w.heap.size rfl (.tmp _) (.tmp _) 62 5 (.int .u8 0) 1 rfl Tryz.underlying62 info5 rfl (by decide) (by omega) u3 r s (some ⟨g,0,none⟩) s.length c (fun _=>True) (fun _=>False) rfl rfl (Kd.R_of_own (h1:=fun _=>rfl) HO3.out (fun _ _=>trivial)) (read_own HO5.out) (fun _ _ h=>h) (fun _ hk=>hk.elim) (fun _ _=>trivial) HB.out (below_size HB.out) (by have:=HL.out.1;(try simp only [List.length_append,List.length_cons,List.length_nil]);omega) ?_;intro v1 w1 ho1 hb1 hg1 hat1;have HO3a:=am (Kd.own_of_R ho1);have HB1:=am hb1;have HT1:=am (twain_append HO5.out HT.out hg1 hat1);clear ho1 hb1 hg1 hat1)|(at_builtin;refine Kd.R_append_rows (Kd.int .u8) (Rr:=(Kd.int .u8).K w1) (w0:=w) w.heap.size rfl (.tmp _) (.tmp _) 62 5 (.int .u8 0) 1 rfl Tryz.underlying62 info5 rfl (by decide) (by omega) v1 (r++s) [rd (bytesI bs) (i:Int)] (some (ad.add i)) 1 _ (fun _=>True) (fun _=>False) rfl rfl (Kd.R_of_own (h1:=fun _=>rfl) HO3a.out (fun _ _=>trivial)) (read_one (Kd.C_below HR0.out HB1.out) HC0.out q146 hci) (fun _ _ h=>h) (fun _ hk=>hk.elim) (fun _ _=>trivial) HB1.out (below_size HB1.out) (by have:=HL.out.1;(try simp only [List.length_append,List.length_cons,List.length_nil]);omega) ?_;intro v2 w2 ho2 hb2 hg2 hat2;have HO3b:=am (Kd.own_of_R ho2);have HB2:=am hb2;have HT2:=am (twain_append HT1.out.1 HT1.out.2 hg2 hat2);clear ho2 hb2 hg2 hat2))
     go_roundg g'
     case measure=>omega
     case rel=>
      refine ⟨i+1,0,r++s++[rd (bytesI bs) (i:Int)],[],g,c,by rw [hw1],rfl,rfl,HO3b,⟨own_take (m:=0) HT2.out.1 (Nat.zero_le _)⟩,⟨fun k h1 h2=>HT2.out.2 k h1 h2⟩,⟨?_⟩,⟨Nat.zero_le _⟩,HB2,⟨by omega,by have:=HP.out;omega⟩⟩
      rw [HST.out]
      exact ⟨by rw [bytesI_app,bytesI_app,← HS.out.1,← HS.out.2.1,HRD.out];rfl,rfl,rfl⟩
  ·have hi:i=bs.length:=by have:=HP.out;rw [bytesI_length] at hlt;omega
   have c4b:=decide_eq_false hlt
   have hall:bs.take i=bs:=by rw [hi,List.take_of_length_le (Nat.le_refl _)]
   rw [hall] at HS
   have c4n:(i < (bytesI bs).length)=False:=eq_false (by omega)
   have HL:=am (show r.length+s.length≤4000000000000∧True by have h9:=tcs_bound bs bs.length (Nat.le_refl _);rw [List.take_length] at h9;rw [HS.out.1,HS.out.2.1,bytesI_length,bytesI_length];have:=H3.out;exact ⟨by omega,trivial⟩)
   clear hlt hall hi
   go_wp2_with (first|(at_builtin;refine Kd.R_append_rows (Kd.int .u8) (Rr:=(Kd.int .u8).K wr) (w0:=w) w.heap.size rfl (.tmp _) (.tmp _) 62 5 (.int .u8 0) 1 rfl Tryz.underlying62 info5 rfl (by decide) (by omega) u3 r s (some ⟨g,0,none⟩) s.length c (fun _=>True) (fun _=>False) rfl rfl (Kd.R_of_own (h1:=fun _=>rfl) HO3.out (fun _ _=>trivial)) (read_own HO5.out) (fun _ _ h=>h) (fun _ hk=>hk.elim) (fun _ _=>trivial) HB.out (below_size HB.out) (by have:=HL.out.1;(try simp only [List.length_append,List.length_cons,List.length_nil]);omega) ?_;intro v1 w1 ho1 hb1 hg1 hat1;have HO3a:=am (Kd.own_of_R ho1);have HB1:=am hb1;have HT1:=am (twain_append HO5.out HT.out hg1 hat1);clear ho1 hb1 hg1 hat1))
   have HO:=HO3a.out
   rw [HS.out.1,HS.out.2.1,← bytesI_app,bytesI_length] at HO
   go_ret
   exact ⟨⟨_,rfl,HO⟩,HB1.out⟩
theorem bytesOf_list (b:ByteArray):bytesOf b=bytesI b.data.toList:=by simp [bytesOf,bytesI]
theorem replaceA_some (bs:List UInt8) (a b:ByteArray) (h3:bs.length≤4000000000000) (ha:b.size≤a.size∧0 < a.size∧a.size≤10):
  ∀ (k i:Nat) (acc:List UInt8),i≤bs.length→bs.length - i < k→acc.length≤i→∃ out,PTrimUnnecessaryHardLineBreaks.textutils_zzReplaceAll.l0 k (bytesI bs) a b (bytesI acc) (i:Int)=some (bytesI out)∧out.length≤acc.length+(bs.length - i)∧∀ x∈out,x∈acc∨x∈bs∨x∈b.data.toList:=by
 intro k
 induction k with
 |zero=>intro i _ _ h;omega
 |succ k ih=>
  intro i acc hi hk hacc
  have hw1:wrap64 ((i:Int)+(a.size:Int))=((i+a.size:Nat):Int):=by unfold wrap64;omega
  have hw2:wrap64 ((i:Int)+1)=((i+1:Nat):Int):=by unfold wrap64;omega
  have hbl:b.data.toList.length=b.size:=by rw [Array.length_toList];rfl
  unfold PTrimUnnecessaryHardLineBreaks.textutils_zzReplaceAll.l0
  by_cases hlt:i < bs.length
  ·have hal:(bytesI acc).length < 140737488355328:=by rw [bytesI_length];omega
   have hab:(bytesI acc).length+b.size < 140737488355328:=by rw [bytesI_length];omega
   have hrd:rd (bytesI bs) (i:Int)=(bs[i].toNat:Int):=by simp [rd,bytesI,hlt]
   have hsn:bytesI acc++[rd (bytesI bs) (i:Int)]=bytesI (acc++[bs[i]]):=by rw [hrd,bytesI_app];rfl
   have step:∃ out,PTrimUnnecessaryHardLineBreaks.textutils_zzReplaceAll.l0 k (bytesI bs) a b (bytesI acc++[rd (bytesI bs) (i:Int)]) ((i+1:Nat):Int)=some (bytesI out)∧out.length≤acc.length+(bs.length - i)∧∀ x∈out,x∈acc∨x∈bs∨x∈b.data.toList:=by
    obtain ⟨out,h1,h2,h4⟩:=ih (i+1) (acc++[bs[i]]) (by omega) (by omega) (by rw [List.length_append,List.length_singleton];omega)
    rw [List.length_append,List.length_singleton] at h2
    refine ⟨out,by rw [hsn];exact h1,by omega,fun x hx=>?_⟩
    rcases h4 x hx with h|h|h
    ·rcases List.mem_append.1 h with h|h
     ·exact .inl h
     ·rw [List.mem_singleton] at h
      exact .inr (.inl (by rw [h];exact List.getElem_mem _))
    ·exact .inr (.inl h)
    ·exact .inr (.inr h)
   rw [hw1,hw2,if_pos (by rw [bytesI_length];omega)]
   by_cases hin:i+a.size≤bs.length
   ·rw [if_pos (by rw [bytesI_length];omega),if_pos (by omega),if_pos (by omega)]
    simp only [hab,hal,if_true]
    split
    ·rw [bytesOf_list,← bytesI_app]
     obtain ⟨out,h1,h2,h4⟩:=ih (i+a.size) (acc++b.data.toList) (by omega) (by omega) (by rw [List.length_append,hbl];omega)
     rw [List.length_append,hbl] at h2
     refine ⟨out,h1,by omega,fun x hx=>?_⟩
     rcases h4 x hx with h|h|h
     ·rcases List.mem_append.1 h with h|h
      ·exact .inl h
      ·exact .inr (.inr h)
     ·exact .inr (.inl h)
     ·exact .inr (.inr h)
    ·exact step
   ·rw [if_neg (by rw [bytesI_length];omega),if_pos (by omega),if_pos hal]
    exact step
  ·rw [if_neg (by rw [bytesI_length];omega)]
   exact ⟨acc,rfl,by omega,fun x hx=>.inl hx⟩
theorem replaceA_f (bs:List UInt8) (k:Nat) (a b:ByteArray) (h3:bs.length≤4000000000000) (hk:bs.length < k) (ha:b.size≤a.size∧0 < a.size∧a.size≤10):
  ∃ out,PTrimUnnecessaryHardLineBreaks.textutils_zzReplaceAll.f k (bytesI bs) a b=some (bytesI out)∧out.length≤bs.length∧∀ x∈out,x∈bs∨x∈b.data.toList:=by
 obtain ⟨out,h1,h2,h4⟩:=replaceA_some bs a b h3 ha k 0 [] (Nat.zero_le _) (by omega) (Nat.le_refl _)
 refine ⟨out,h1,by simpa using h2,fun x hx=>?_⟩
 rcases h4 x hx with h|h|h
 ·cases h
 ·exact .inl h
 ·exact .inr h
theorem hard_some (bs:List UInt8) (h3:bs.length≤4000000000000):∃ out,PTrimUnnecessaryHardLineBreaks.textutils_TrimUnnecessaryHardLineBreaks.f (bs.length+1) (bytesI bs)=some (bytesI out)∧out.length≤bs.length∧∀ x∈out,x∈bs∨x=10:=by
 obtain ⟨o1,p1,p2,p3⟩:=replaceA_f bs (bs.length+1) (⟨#[32,32,10,10]⟩:ByteArray) (⟨#[10,10]⟩:ByteArray) h3 (by omega) (by decide)
 obtain ⟨o2,q1,q2,q3⟩:=replaceA_f o1 (bs.length+1) (⟨#[32,32,10,32,32,10]⟩:ByteArray) (⟨#[10,10]⟩:ByteArray) (by omega) (by omega) (by decide)
 obtain ⟨o3,r1,r2,r3⟩:=replaceA_f o2 (bs.length+1) (⟨#[32,32,10,32,10]⟩:ByteArray) (⟨#[10,10]⟩:ByteArray) (by omega) (by omega) (by decide)
 have hb:∀ x,x∈(⟨#[10,10]⟩:ByteArray).data.toList→x=10:=by decide
 refine ⟨o3,?_,by omega,fun x hx=>?_⟩
 ·unfold PTrimUnnecessaryHardLineBreaks.textutils_TrimUnnecessaryHardLineBreaks.f
  rw [p1]
  show (PTrimUnnecessaryHardLineBreaks.textutils_zzReplaceAll.f (bs.length+1) (bytesI o1) _ _).bind _=_
  rw [q1]
  show (PTrimUnnecessaryHardLineBreaks.textutils_zzReplaceAll.f (bs.length+1) (bytesI o2) _ _).bind _=_
  rw [r1]
  rfl
 ·rcases r3 x hx with h|h
  ·rcases q3 x h with h|h
   ·rcases p3 x h with h|h
    ·exact .inl h
    ·exact .inr (hb x h)
   ·exact .inr (hb x h)
  ·exact .inr (hb x h)
open Classical in
noncomputable def hlb (bs:List UInt8):List UInt8:=if h:bs.length≤4000000000000 then (hard_some bs h).choose else []
theorem hlb_spec (bs:List UInt8) (h3:bs.length≤4000000000000):PTrimUnnecessaryHardLineBreaks.textutils_TrimUnnecessaryHardLineBreaks.f (bs.length+1) (bytesI bs)=some (bytesI (hlb bs))∧(hlb bs).length≤bs.length∧∀ x∈hlb bs,x∈bs∨x=10:=by
 unfold hlb
 rw [dif_pos h3]
 exact (hard_some bs h3).choose_spec
theorem trimHard_calls (w:World) (A0:Option Addr) (c0:Nat) (bs:List UInt8) (hr0:Kd.C (Kd.int .u8) w A0 (bytesI bs).length (bytesI bs)) (hc0:(bytesI bs).length≤c0) (h300:bs.length≤4000000000000):
  Calls Tryz.prog 153 #[.slice A0 (bytesI bs).length c0] w fun e w'=>(∃ v,e=.returned v∧w'.ownsRow w.heap.size 5 1 v (hlb bs).length (nums .u8 (bytesI (hlb bs))))∧Below w.heap.size w w':=by
 refine (PTrimUnnecessaryHardLineBreaks.textutils_TrimUnnecessaryHardLineBreaks.calls (bs.length+1) A0 c0 (bytesI bs) (bytesI (hlb bs)) w hr0 hc0 (hlb_spec bs h300).1).mono ?_
 rintro e w' ⟨v,rfl,ho,hb⟩
 refine ⟨⟨v,rfl,?_⟩,hb⟩
 have:=Kd.own_of_R ho
 rw [bytesI_length] at this
 exact this
end Go.Proofs.YtbheflncgmhadaaGreat.Hand
namespace Go.Proofs.YtbheflncgmhadaaGreat.Hand
open Go.RowKit Go.Proofs.YtbheflncgmhadaaGreatW.PrintWords Go.Proofs.YtbheflncgmhadaaGreatW.PrintLast Go.Proofs.YtbheflncgmhadaaGreatW.PrintMore
attribute [local go_sem] run_store_func'
def Tame (l:List UInt8):Prop:=∀ x∈l,x.toNat < 128∧x.toNat≠7
noncomputable def postT (tab:Nat→Int) (l:List UInt8):List UInt8:=hlb (tcn (trimBy (marked tab) l))
theorem postT_len (tab:Nat→Int) (l:List UInt8) (h:l.length≤4000000000000):(postT tab l).length≤l.length:=by
 have h1:=trimBy_len (p:=marked tab) l
 have h2:=tcn_len (trimBy (marked tab) l)
 have h3:=(hlb_spec (tcn (trimBy (marked tab) l)) (by omega)).2.1
 unfold postT
 omega
theorem postT_tame (tab:Nat→Int) (l:List UInt8) (h:l.length≤4000000000000) (ht:Tame l):Tame (postT tab l):=by
 have h1:=trimBy_len (p:=marked tab) l
 have h2:=tcn_len (trimBy (marked tab) l)
 intro x hx
 rcases (hlb_spec (tcn (trimBy (marked tab) l)) (by omega)).2.2 x hx with h4|h4
 ·exact ht x (trimBy_sub l x (tcn_sub _ x h4))
 ·subst h4;decide
theorem Tame.at {l:List UInt8} (h:Tame l) (i:Nat) (hi:i < l.length):l[i].toNat < 128∧l[i].toNat≠7:=h _ (List.getElem_mem hi)
theorem postTrim_calls {N:Nat} {w:World} {X C cm tp bs:Nat} {tab:Nat→Int} {po:PO} (hx:Cx N w X C cm tp bs tab po) (A0:Option Addr) (c0:Nat) (l:List UInt8) (hr0:Kd.C (Kd.int .u8) w A0 (bytesI l).length (bytesI l)) (hc0:(bytesI l).length≤c0) (h300:l.length≤4000000000000) (ht:Tame l) (v0 v1:Value):
  Calls Tryz.prog 138 #[v0,v1,.slice A0 l.length c0] w fun e w'=>(∃ A c,e=.returned (.slice A (postT tab l).length c)∧(bytesI (postT tab l)).length≤c∧Kd.C (Kd.int .u8) w' A (bytesI (postT tab l)).length (bytesI (postT tab l)))∧Below w.heap.size w w':=by
 have CT:=trimSpaceB_calls w A0 c0 l hr0 hc0 h300 (fun i h=>(ht.at i h).1) tab (fun c hc=>hx.now.space c hc)
 rw [bytesI_length] at CT
 have CT:=am CT
 have HR0:=am hr0
 have HC0:=am hc0
 have HL:=am h300
 have HT:=am ht
 clear hr0 hc0 h300 ht hx
 go_enter Tryz.func138,Tryz.ntmps138
 go_wp2_with (go_at_call 151;fail)
 refine CT.out.mono ?_
 rintro e w4 ⟨⟨v4,rfl,htr⟩,hw⟩
 rw [hw]
 clear hw CT
 obtain ⟨A4,c4,rfl,hc4,hr4⟩:=trims_C htr HR0.out HC0.out HL.out
 have HT1:=am (show Tame (trimBy (marked tab) l) from fun x hx=>HT.out x (trimBy_sub l x hx))
 have HL1:=am (Nat.le_trans (trimBy_len (p:=marked tab) l) HL.out)
 obtain ⟨t1,ht1⟩:∃ t1,trimBy (marked tab) l=t1:=⟨_,rfl⟩
 rw [ht1] at hc4 hr4 HT1 HL1
 rw [ht1]
 have HTT1:=am ht1
 have CN:=trimNewlines_calls w A4 c4 t1 hr4 hc4 HL1.out (fun i h=>(HT1.out.at i h).1)
 rw [bytesI_length] at CN
 have CN:=am CN
 clear htr ht1 hr4 hc4
 go_wp2_with (go_at_call 152;fail)
 refine CN.out.mono ?_
 rintro e w5 ⟨⟨v5,rfl,ho5⟩,hb5⟩
 obtain ⟨A5,c5,rfl,hc5,hr5⟩:=own_slice ho5
 have HB5:=am hb5
 have HL2:=am (Nat.le_trans (tcn_len t1) HL1.out)
 obtain ⟨t2,ht2⟩:∃ t2,tcn t1=t2:=⟨_,rfl⟩
 rw [ht2] at hc5 hr5 HL2
 rw [ht2]
 have HTT2:=am ht2
 have CH:=trimHard_calls w5 A5 c5 t2 hr5 hc5 HL2.out
 rw [bytesI_length] at CH
 have CH:=am CH
 clear hb5 ho5 ht2 hr5 hc5 CN
 go_wp2_with (go_at_call 153;fail)
 refine CH.out.mono ?_
 rintro e w6 ⟨⟨v6,rfl,ho6⟩,hb6⟩
 obtain ⟨A6,c6,rfl,hc6,hr6⟩:=own_slice ho6
 have HB6:=am (HB5.out.trans (hb6.mono HB5.out.size))
 have HR6:=am hr6
 have HC6:=am hc6
 clear hb6 ho6 hr6 hc6 CH
 go_wp2
 go_ret
 have e:postT tab l=hlb t2:=by unfold postT;rw [HTT1.out,HTT2.out]
 rw [e]
 exact ⟨⟨_,_,rfl,HC6.out,HR6.out⟩,HB6.out⟩
theorem postUn_calls {N:Nat} {w:World} {X C cm tp bs:Nat} {tab:Nat→Int} {po:PO} (hx:Cx N w X C cm tp bs tab po) (A0:Option Addr) (c0:Nat) (l:List UInt8) (hr0:Kd.C (Kd.int .u8) w A0 (bytesI l).length (bytesI l)) (hc0:(bytesI l).length≤c0) (h300:l.length≤4000000000000) (ht:Tame l) (v0:Value):
  Calls Tryz.prog 139 #[v0,.iface 187 (.pointer (some ⟨X,0,none⟩)),.slice A0 l.length c0] w fun e w'=>(∃ A c,e=.returned (.slice A l.length c)∧(bytesI l).length≤c∧Kd.C (Kd.int .u8) w' A (bytesI l).length (bytesI l))∧Below w.heap.size w w':=by
 have CU:=am (ctxUnescape_calls hx A0 c0 l hr0 hc0 h300 (fun i h=>(ht.at i h).2))
 have hue:=method_ue (some ⟨X,0,none⟩)
 clear hx hr0 hc0 ht
 go_enter Tryz.func139,Tryz.ntmps139
 go_wp2_with (go_at_call 466;fail)
 refine CU.out.mono ?_
 rintro e w5 ⟨⟨v5,rfl,ho5⟩,hb5⟩
 obtain ⟨A6,c6,rfl,hc6,hr6⟩:=own_slice ho5
 have HB5:=am hb5
 have HR6:=am hr6
 have HC6:=am hc6
 clear hb5 ho5 hr6 hc6 CU
 go_wp2
 go_ret
 exact ⟨⟨_,_,rfl,HC6.out,HR6.out⟩,HB5.out⟩
theorem postNl_calls {w:World} (A0:Option Addr) (c0:Nat) (l:List UInt8) (hr0:Kd.C (Kd.int .u8) w A0 (bytesI l).length (bytesI l)) (hc0:(bytesI l).length≤c0) (h300:l.length≤4000000000000) (ht:Tame l) (arr:Array Value) (v1:Value):
  Calls Tryz.prog 205 #[.agg arr,v1,.slice A0 l.length c0] w fun e w'=>(∃ A c,e=.returned (.slice A l.length c)∧(bytesI l).length≤c∧Kd.C (Kd.int .u8) w' A (bytesI l).length (bytesI l))∧Below w.heap.size w w':=by
 have b1:Below w.heap.size w (w.alloc (.cells arr 82)):=(Below.refl _ _).alloc (Nat.le_refl _) _
 have CR:=replaceBytes_calls (w.alloc (.cells arr 82)) A0 c0 l 239 [128,130] ⟨#[10]⟩ (Kd.C_below hr0 b1) hc0 h300 (by decide) (fun i h=>by
  have:=ht _ (List.mem_of_getElem? h)
  revert this
  decide)
 rw [bytesI_length] at CR
 have CR:=am CR
 have HB1:=am b1
 clear hr0 hc0 ht b1
 go_enter Tryz.func205,Tryz.ntmps205
 go_wp2_with (go_at_call 249;fail)
 refine CR.out.mono ?_
 rintro e w5 ⟨⟨v5,rfl,ho5⟩,hb5⟩
 obtain ⟨A6,c6,rfl,hc6,hr6⟩:=own_slice ho5
 have HB5:=am (HB1.out.trans (hb5.mono HB1.out.size))
 have HR6:=am hr6
 have HC6:=am hc6
 clear hb5 ho5 hr6 hc6 CR
 go_wp2
 go_ret
 exact ⟨⟨_,_,rfl,HC6.out,HR6.out⟩,HB5.out⟩
end Go.Proofs.YtbheflncgmhadaaGreat.Hand
namespace Go.Proofs.YtbheflncgmhadaaGreat.Hand
open Go.RowKit Go.Proofs.YtbheflncgmhadaaGreatW.PrintWords Go.Proofs.YtbheflncgmhadaaGreatW.PrintLast Go.Proofs.YtbheflncgmhadaaGreatW.PrintMore
attribute [local go_sem] run_store_func'
open Vx (mkRen mkPre mkPreR mkPost mkText)
theorem hasBase_calls (w:World) (g c:Nat) (h0:w.cell? ⟨g,0,none⟩=some (.string ⟨#[98,97,115,101]⟩)):
  Calls Tryz.prog 44 #[.slice (some ⟨g,0,none⟩) 3 c,.string ⟨#[98,97,115,101]⟩] w fun e w'=>e=.returned (.bool true)∧w'=w:=by
 go_enter Tryz.func44,Tryz.ntmps44
 go_wp2
 go_loopg [9] 1 (fun gf v wx=>wx=w∧v=.int .i64 0)
 case atStart=>exact ⟨rfl,rfl⟩
 case round=>
  obtain ⟨hw,rfl⟩:=hrel
  subst hw
  go_wp2
  go_ret
  exact ⟨rfl,rfl⟩
theorem hasCm_calls (w:World) (g c:Nat) (h0:w.cell? ⟨g,0,none⟩=some (.string ⟨#[98,97,115,101]⟩)) (h1:w.cell? ⟨g,1,none⟩=some (.string ⟨#[99,111,109,109,111,110,109,97,114,107]⟩)):
  Calls Tryz.prog 44 #[.slice (some ⟨g,0,none⟩) 3 c,.string ⟨#[99,111,109,109,111,110,109,97,114,107]⟩] w fun e w'=>e=.returned (.bool true)∧w'=w:=by
 go_enter Tryz.func44,Tryz.ntmps44
 go_wp2
 go_loopg [9] 1 (fun gf v wx=>wx=w∧((v=.int .i64 0∧gf=1)∨v=.int .i64 1))
 case atStart=>exact ⟨rfl,.inl ⟨rfl,rfl⟩⟩
 case round=>
  obtain ⟨hw,hor⟩:=hrel
  subst hw
  rcases hor with ⟨rfl,rfl⟩|rfl
  ·go_wp2
   go_roundg 0
   case measure=>omega
   case rel=>exact ⟨rfl,.inr rfl⟩
  ·go_wp2
   go_ret
   exact ⟨rfl,rfl⟩
def insideK:List UInt8:=[105,115,95,105,110,115,105,100,101,95,108,105,110,107]
def Linked (p v:Value):Prop:=∃ k x,v=.iface 201 (.agg #[p,.iface 179 (.string k),x])∧(k.toList==insideK)=false
theorem Linked.chain {p v:Value} (h:Linked p v) (hp:Chain p):Chain v:=by
 obtain ⟨k,x,rfl,hk⟩:=h
 exact .link p x k hp hk
theorem getError_calls (w:World) (C:Nat) (h:w.cell? ⟨C,0,none⟩=some .nilIface):Calls Tryz.prog 42 #[.pointer (some ⟨C,0,none⟩)] w fun e w'=>e=.returned .nilIface∧w'=w:=by
 go_enter Tryz.func42,Tryz.ntmps42
 go_wp2
 go_ret
 exact ⟨rfl,rfl⟩
theorem withValue_calls (w:World) (T1 T2 T3:TypeId) (p k v:Value):Calls Tryz.prog 67 #[.iface T1 p,.iface T2 k,.iface T3 v] w fun e w'=>e=.returned (.iface 201 (.agg #[.iface T1 p,.iface T2 k,.iface T3 v]))∧Below w.heap.size w w':=by
 go_enter Tryz.func67,Tryz.ntmps67
 go_wp2
 go_ret
 exact ⟨rfl,Below.refl _ _⟩
theorem background_calls (w:World):Calls Tryz.prog 46 #[] w fun e w'=>e=.returned (.iface 177 (.agg #[]))∧Below w.heap.size w w':=by
 go_enter Tryz.func46,Tryz.ntmps46
 go_wp2
 go_ret
 exact ⟨rfl,Below.refl _ _⟩
theorem provideDomain_calls (w:World) (T:TypeId) (x:Value) (s:ByteArray):Calls Tryz.prog 47 #[.iface T x,.string s] w fun e w'=>(∃ v,e=.returned v∧Linked (.iface T x) v)∧Below w.heap.size w w':=by
 go_enter Tryz.func47,Tryz.ntmps47
 go_wp2_with (go_at_call 67;fail)
 refine (withValue_calls _ _ _ _ _ _ _).mono ?_
 rintro e w1 ⟨rfl,hb⟩
 have HB:=am hb
 clear hb
 go_wp2
 go_ret
 exact ⟨⟨_,rfl,_,_,rfl,by rw [ByteArray.toList_eq];rfl⟩,HB.out⟩
theorem provideURL_calls (w:World) (T:TypeId) (x:Value) (fn:Fn):Calls Tryz.prog 48 #[.iface T x,.func fn #[] #[]] w fun e w'=>(∃ v,e=.returned v∧Linked (.iface T x) v)∧Below w.heap.size w w':=by
 go_enter Tryz.func48,Tryz.ntmps48
 go_wp2_with (go_at_call 67;fail)
 refine (withValue_calls _ _ _ _ _ _ _).mono ?_
 rintro e w1 ⟨rfl,hb⟩
 have HB:=am hb
 clear hb
 go_wp2
 go_ret
 exact ⟨⟨_,rfl,_,_,rfl,by rw [ByteArray.toList_eq];rfl⟩,HB.out⟩
theorem provideState_calls (w:World) (S:Nat) (T:TypeId) (x:Value):Calls Tryz.prog 50 #[.pointer (some ⟨S,0,none⟩),.iface T x] w fun e w'=>(∃ v1 v2 v3,e=.returned v3∧Linked (.iface T x) v1∧Linked v1 v2∧Linked v2 v3)∧Below w.heap.size w w':=by
 go_enter Tryz.func50,Tryz.ntmps50
 go_wp2_with (go_at_call 67;fail)
 refine (withValue_calls _ _ _ _ _ _ _).mono ?_
 rintro e w1 ⟨rfl,hb⟩
 have HB:=am hb
 clear hb
 go_wp2_with (go_at_call 67;fail)
 refine (withValue_calls _ _ _ _ _ _ _).mono ?_
 rintro e w2 ⟨rfl,hb⟩
 have HB2:=am (HB.out.trans (hb.mono HB.out.size))
 clear hb
 go_wp2_with (go_at_call 67;fail)
 refine (withValue_calls _ _ _ _ _ _ _).mono ?_
 rintro e w3 ⟨rfl,hb⟩
 have HB3:=am (HB2.out.trans (hb.mono HB2.out.size))
 clear hb
 go_wp2
 go_ret
 exact ⟨⟨_,_,_,rfl,⟨_,_,rfl,by rw [ByteArray.toList_eq];rfl⟩,⟨_,_,rfl,by rw [ByteArray.toList_eq];rfl⟩,⟨_,_,rfl,by rw [ByteArray.toList_eq];rfl⟩⟩,HB3.out⟩
theorem newState_calls (w:World):Calls Tryz.prog 45 #[] w fun e w'=>(∃ S,e=.returned (.pointer (some ⟨S,0,none⟩)))∧Below w.heap.size w w':=by
 have hmm:∀ (t:TypeId) (w:World),(Instr.makeMap t none).run Tryz.prog w=.ok (.map (some w.heap.size)) (w.alloc (.map #[] 0)):=fun _ _=>rfl
 go_enter Tryz.func45,Tryz.ntmps45
 go_wp2
 go_ret
 exact ⟨⟨_,rfl⟩,((Below.refl _ _).alloc (Nat.le_refl _) _).alloc (by rw [alloc_size];omega) _⟩
theorem newCtx_calls (w:World) (C:Nat) (v:Value) (hv:∃ T x,v=.iface T x):Calls Tryz.prog 51 #[v,.pointer (some ⟨C,0,none⟩)] w fun e w'=>e=.returned (.iface 187 (.pointer (some ⟨w.heap.size,0,none⟩)))∧w'=w.alloc (.cells #[v,.pointer (some ⟨C,0,none⟩)] 189):=by
 obtain ⟨T,x,rfl⟩:=hv
 go_enter Tryz.func51,Tryz.ntmps51
 go_wp2
 go_ret
 exact ⟨rfl,rfl⟩
theorem conv_cx {w w1:World} {C cm tp bs:Nat} {tab:Nat→Int} {po:PO} (hq:ConvQ w.heap.size w C cm tp bs) (hp:PlugAt w tp po) (hs:∀ c:Nat,c < 128→w.cell? ⟨0,c,none⟩=some (.int .u8 (tab c))) (hal:∀ w1,Below w.heap.size w w1→po.also w1) (hb:Below w.heap.size w w1) (X:Nat) (hX:∃ v,w1.heap[X]?=some (.cells #[v,.pointer (some ⟨C,0,none⟩)] 189 (0,0))∧Chain v):Cx w1.heap.size w1 X C cm tp bs tab po:=by
 refine ⟨Nat.le_refl _,fun w2 h2=>?_⟩
 have h02:Below w.heap.size w w2:=hb.trans (h2.mono hb.size)
 obtain ⟨v,hx,hc⟩:=hX
 have hx2:w2.heap[X]?=some (.cells #[v,.pointer (some ⟨C,0,none⟩)] 189 (0,0)):=by rw [h2.block X (heap_lt hx)];exact hx
 refine ⟨⟨v,by simp [World.cell?,hx2],hc⟩,by simp [World.cell?,hx2],hq w2 h02,⟨cell_keep h02 hp.span,cell_keep h02 hp.lines,cell_keep h02 hp.skip,cell_keep h02 hp.promote,cell_keep h02 hp.pres,cell_keep h02 hp.pad⟩,fun c hc=>cell_keep h02 (hs c hc),hal w2 h02⟩
theorem convertNode_calls {w:World} {C cm tp bs:Nat} {tab:Nat→Int} {po:PO} (hq:ConvQ w.heap.size w C cm tp bs) (hp:PlugAt w tp po) (hs:∀ c:Nat,c < 128→w.cell? ⟨0,c,none⟩=some (.int .u8 (tab c))) (hal:∀ w1,Below w.heap.size w w1→po.also w1)
  {t:DT} (hd:DocAt w t) (hnd:t.all.Nodup) (htx:DT.AllPL (fun i=>i.kind≠2∧i.TextOk) t.kds) (hk:t.kds≠[]) (hl:t.all.length≤1000) (txt:List UInt8) (hR:∀ N X,w.heap.size≤N→Rend N X C cm tp bs tab po t txt) (htm:Tame txt) (hlen:txt.length≤4000000000000):
  Calls Tryz.prog 27 #[.pointer (some ⟨C,0,none⟩),.pointer (some ⟨t.blk,0,none⟩),.slice none 0 0] w fun e w'=>(∃ A c,e=.returned (.tuple #[.slice A (postT tab txt).length c,.nilIface])∧Kd.C (Kd.int .u8) w' A (bytesI (postT tab txt)).length (bytesI (postT tab txt)))∧Below w.heap.size w w':=by
 have HQ:=am hq
 have HPL:=am hp
 have HSP:=am hs
 have HAL:=am hal
 have HD:=am hd
 have HND:=am hnd
 have HTX:=am htx
 have HK:=am hk
 have HL:=am hl
 have HRD:=am hR
 have HTM:=am htm
 have HLEN:=am hlen
 have hcore:=hq.now
 have e0:=hcore.err
 clear hq hp hs hal hd hnd htx hk hl hR htm hlen
 go_enter Tryz.func27,Tryz.ntmps27
 go_wp2_with (go_at_call 42;fail)
 refine (getError_calls w C e0).mono ?_
 rintro e w1 ⟨rfl,hw⟩
 rw [hw]
 clear hw
 go_wp2
 refine wp_loop_once ?_
 have hb0:=(Below.refl w.heap.size w).alloc (Nat.le_refl _) (.cells #[.string ⟨#[]⟩,.nilIface] 121)
 have HB0:=am hb0
 have CR:=am (getRenderHandlers_calls (w.alloc (.cells #[.string ⟨#[]⟩,.nilIface] 121)) C cm tp ((HQ.out _ hb0).render))
 clear hb0 e0 hcore
 go_wp2_with (go_at_call 43;fail)
 refine CR.out.mono ?_
 rintro e w1 ⟨g,rfl,hb,-⟩
 have HB1:=am (HB0.out.trans (hb.mono HB0.out.size))
 have HK1:=am (show w1.heap[w.heap.size]?=some (.cells #[.string ⟨#[]⟩,.nilIface] 121 (0,0)) by rw [hb.block _ (by rw [alloc_size];omega)];exact alloc_new _ _)
 obtain ⟨gp,cp,p0,p1,p2,p3,p4⟩:=(HQ.out _ HB1.out).plugins
 have CH1:=am (hasCm_calls w1 gp cp p2 p3)
 have CH2:=am (hasBase_calls w1 gp cp p2)
 clear hb CR p1 p2 p3 p4
 go_wp2_with (go_at_call 44;fail)
 refine CH1.out.mono ?_
 rintro e w2 ⟨rfl,hw⟩
 rw [hw]
 clear hw
 go_wp2_with (go_at_call 44;fail)
 refine CH2.out.mono ?_
 rintro e w2 ⟨rfl,hw⟩
 rw [hw]
 clear hw CH1 CH2 p0
 go_wp2_with (go_at_call 45;fail)
 refine (newState_calls w1).mono ?_
 rintro e w2 ⟨⟨S,rfl⟩,hb⟩
 have HB2:=am (HB1.out.trans (hb.mono HB1.out.size))
 have hk2:w2.heap[w.heap.size]?=some (.cells #[.string ⟨#[]⟩,.nilIface] 121 (0,0)):=by rw [hb.block _ (heap_lt HK1.out)];exact HK1.out
 have HK2:=am hk2
 have c1:w2.cell? ⟨w.heap.size,1,none⟩=some .nilIface:=by simp [World.cell?,hk2]
 clear hb hk2
 go_wp2_with (go_at_call 46;fail)
 refine (background_calls w2).mono ?_
 rintro e w3 ⟨rfl,hb⟩
 have hk3:w3.heap[w.heap.size]?=some (.cells #[.string ⟨#[]⟩,.nilIface] 121 (0,0)):=by rw [hb.block _ (heap_lt HK2.out)];exact HK2.out
 have HB3:=am (HB2.out.trans (hb.mono HB2.out.size))
 have c1':w3.cell? ⟨w.heap.size,1,none⟩=some .nilIface:=by simp [World.cell?,hk3]
 have z1:w3.frozen? ⟨w.heap.size,1,none⟩=false:=by simp [World.frozen?,hk3]
 have HK4:=am (show (w3.setCell ⟨w.heap.size,1,none⟩ (.iface 177 (.agg #[]))).heap[w.heap.size]?=some (.cells #[.string ⟨#[]⟩,.iface 177 (.agg #[])] 121 (0,0)) by
  rw [setCell_eq_setRow w3 w.heap.size 1 _ _ _ _ hk3]
  exact setRow_heap w3 _ _ _ _ (0,0) hk3)
 have HB4:=am (HB3.out.setCell (p:=⟨w.heap.size,1,none⟩) (Nat.le_refl _) (.iface 177 (.agg #[])))
 clear hb hk3
 have k0:(w3.setCell ⟨w.heap.size,1,none⟩ (.iface 177 (.agg #[]))).cell? ⟨w.heap.size,0,none⟩=some (.string ⟨#[]⟩):=by simp [World.cell?,HK4.out]
 have k1:(w3.setCell ⟨w.heap.size,1,none⟩ (.iface 177 (.agg #[]))).cell? ⟨w.heap.size,1,none⟩=some (.iface 177 (.agg #[])):=by simp [World.cell?,HK4.out]
 go_wp2_with (go_at_call 47;fail)
 refine (provideDomain_calls _ _ _ _).mono ?_
 rintro e w5 ⟨⟨v5,rfl,l5⟩,hb⟩
 have HB5:=am (HB4.out.trans (hb.mono HB4.out.size))
 have HC5:=am (l5.chain .none)
 obtain ⟨k5,x5,rfl,-⟩:=l5
 clear hb k0 k1 c1' z1 c1
 go_wp2_with (go_at_call 48;fail)
 refine (provideURL_calls _ _ _ _).mono ?_
 rintro e w6 ⟨⟨v6,rfl,l6⟩,hb⟩
 have HB6:=am (HB5.out.trans (hb.mono HB5.out.size))
 have HC6:=am (l6.chain HC5.out)
 obtain ⟨k6,x6,rfl,-⟩:=l6
 clear hb
 go_wp2_with (go_at_call 50;fail)
 refine (provideState_calls _ _ _ _).mono ?_
 rintro e w7 ⟨⟨v7,v8,v9,rfl,l7,l8,l9⟩,hb⟩
 have HB7:=am (HB6.out.trans (hb.mono HB6.out.size))
 have HC9:=am (l9.chain (l8.chain (l7.chain HC6.out)))
 obtain ⟨k9,x9,rfl,-⟩:=l9
 clear hb l7 l8
 go_wp2_with (go_at_call 51;fail)
 refine (newCtx_calls w7 C _ ⟨_,_,rfl⟩).mono ?_
 rintro e w8 ⟨rfl,hw⟩
 have hw8:Below w7.heap.size w7 w8:=by rw [hw];exact (Below.refl _ _).alloc (Nat.le_refl _) _
 have HB8:=am (HB7.out.trans (hw8.mono HB7.out.size))
 have HX:=am (conv_cx HQ.out HPL.out HSP.out HAL.out HB8.out w7.heap.size ⟨_,by rw [hw];exact alloc_new _ _,HC9.out⟩)
 obtain ⟨X,hX⟩:∃ X,w7.heap.size=X:=⟨_,rfl⟩
 rw [hX] at HX ⊢
 clear hw hw8 hX HB0 HB1 HB2 HB3 HB4 HB5 HB6 HB7 HK1 HK2 HK4 HC5 HC6 HC9
 obtain ⟨bm,hpre,hbm⟩:=HX.out.now.core.pre
 have HBM:=am hbm
 have CP:=am (getPreRenderHandlers_calls w8 C cm bs bm hpre)
 clear hpre hbm
 go_wp2_with (go_at_call 52;fail)
 refine CP.out.mono ?_
 rintro e w9 ⟨gp,rfl,hb,hg⟩
 have HB9:=am (HB8.out.trans (hb.mono HB8.out.size))
 have HG9:=am hg
 have HX9:=am (HX.out.keep hb)
 have HBM9:=am (cell_keep hb HBM.out)
 have HN8:=am hb.size
 clear hb hg CP
 go_wp2
 go_loopg [92] 4 (fun gf v92 wx=>∃ (k:Nat),v92=.int .i64 (k:Int)∧Aside0 (k≤4∧4 - k=gf)∧Aside0 (Below w9.heap.size w9 wx))
 case atStart=>exact ⟨0,rfl,⟨by omega⟩,⟨Below.refl _ _⟩⟩
 case round=>
  obtain ⟨k,rfl,HP,HBr⟩:=hrel
  obtain rfl|rfl|rfl|rfl|rfl:k=0∨k=1∨k=2∨k=3∨k=4:=by have:=HP.out;omega
  ·have hgr:wr.heap[gp]?=some (.cells (hcells (mkPreR cm bs bm)).toArray 141 (0,0)):=by rw [HBr.out.block gp (heap_lt HG9.out)];exact HG9.out
   have g0:wr.cell? ⟨gp,0,none⟩=some (.func (.func 133) #[.pointer (some ⟨bs,0,none⟩)] #[]):=(Vx.row_cell hgr 0).trans rfl
   have g1:wr.cell? ⟨gp,1,none⟩=some (.int .i64 100):=(Vx.row_cell hgr 1).trans rfl
   have hba:Below wr.heap.size wr (wr.alloc (.cells #[.func (.func 133) #[.pointer (some ⟨bs,0,none⟩)] #[],.int .i64 100] 141)):=(Below.refl _ _).alloc (Nat.le_refl _) _
   have HBA:=am (HBr.out.trans (hba.mono HBr.out.size))
   have HDA:=am (HD.out.keep (HB9.out.trans (HBA.out.mono HB9.out.size)))
   have HXA:=am (HX9.out.keep (HBA.out.mono HX9.out.le))
   have CM:=am (preRenderRemove_calls w8.heap.size X C _ t HDA.out (.pointer (some ⟨bs,0,none⟩)) HXA.out.now.conv HXA.out.tags HXA.out.le)
   clear hgr hba
   go_wp2_with (go_at_call 133;fail)
   refine CM.out.mono ?_
   rintro e w2 ⟨rfl,hb⟩
   have HBN:=am (HBA.out.trans (hb.mono HBA.out.size))
   clear hb g0 g1 CM
   go_wp2
   go_roundg 3
   case measure=>have:=HP.out;omega
   case rel=>exact ⟨1,rfl,⟨by omega⟩,HBN⟩
  ·have hgr:wr.heap[gp]?=some (.cells (hcells (mkPreR cm bs bm)).toArray 141 (0,0)):=by rw [HBr.out.block gp (heap_lt HG9.out)];exact HG9.out
   have g0:wr.cell? ⟨gp,2,none⟩=some (.func (.func 187) #[.pointer (some ⟨cm,0,none⟩)] #[]):=(Vx.row_cell hgr 2).trans rfl
   have g1:wr.cell? ⟨gp,3,none⟩=some (.int .i64 500):=(Vx.row_cell hgr 3).trans rfl
   have hba:Below wr.heap.size wr (wr.alloc (.cells #[.func (.func 187) #[.pointer (some ⟨cm,0,none⟩)] #[],.int .i64 500] 141)):=(Below.refl _ _).alloc (Nat.le_refl _) _
   have HBA:=am (HBr.out.trans (hba.mono HBr.out.size))
   have HDA:=am (HD.out.keep (HB9.out.trans (HBA.out.mono HB9.out.size)))
   have HXA:=am (HX9.out.keep (HBA.out.mono HX9.out.le))
   have CM:=am (handlePreRender_calls _ t HDA.out HL.out (.pointer (some ⟨cm,0,none⟩)) 187 (.pointer (some ⟨X,0,none⟩)))
   clear hgr hba
   go_wp2_with (go_at_call 187;fail)
   refine CM.out.mono ?_
   rintro e w2 ⟨rfl,hb⟩
   have HBN:=am (HBA.out.trans (hb.mono HBA.out.size))
   clear hb g0 g1 CM
   go_wp2
   go_roundg 2
   case measure=>have:=HP.out;omega
   case rel=>exact ⟨2,rfl,⟨by omega⟩,HBN⟩
  ·have hgr:wr.heap[gp]?=some (.cells (hcells (mkPreR cm bs bm)).toArray 141 (0,0)):=by rw [HBr.out.block gp (heap_lt HG9.out)];exact HG9.out
   have g0:wr.cell? ⟨gp,4,none⟩=some (.func (.func 134) #[.pointer (some ⟨bs,0,none⟩)] #[]):=(Vx.row_cell hgr 4).trans rfl
   have g1:wr.cell? ⟨gp,5,none⟩=some (.int .i64 1000):=(Vx.row_cell hgr 5).trans rfl
   have hba:Below wr.heap.size wr (wr.alloc (.cells #[.func (.func 134) #[.pointer (some ⟨bs,0,none⟩)] #[],.int .i64 1000] 141)):=(Below.refl _ _).alloc (Nat.le_refl _) _
   have HBA:=am (HBr.out.trans (hba.mono HBr.out.size))
   have HDA:=am (HD.out.keep (HB9.out.trans (HBA.out.mono HB9.out.size)))
   have HXA:=am (HX9.out.keep (HBA.out.mono HX9.out.le))
   have CM:=am (preRenderCollapse_calls w8.heap.size X C _ t HDA.out HND.out HTX.out HK.out (.pointer (some ⟨bs,0,none⟩)) HXA.out.now.conv HXA.out.tags HXA.out.le)
   clear hgr hba
   go_wp2_with (go_at_call 134;fail)
   refine CM.out.mono ?_
   rintro e w2 ⟨rfl,hb⟩
   have HBN:=am (HBA.out.trans (hb.mono HBA.out.size))
   clear hb g0 g1 CM
   go_wp2
   go_roundg 1
   case measure=>have:=HP.out;omega
   case rel=>exact ⟨3,rfl,⟨by omega⟩,HBN⟩
  ·have hgr:wr.heap[gp]?=some (.cells (hcells (mkPreR cm bs bm)).toArray 141 (0,0)):=by rw [HBr.out.block gp (heap_lt HG9.out)];exact HG9.out
   have g0:wr.cell? ⟨gp,6,none⟩=some (.func (.func 188) #[] #[.pointer (some ⟨bm,0,none⟩)]):=(Vx.row_cell hgr 6).trans rfl
   have g1:wr.cell? ⟨gp,7,none⟩=some (.int .i64 1100):=(Vx.row_cell hgr 7).trans rfl
   have hba:Below wr.heap.size wr (wr.alloc (.cells #[.func (.func 188) #[] #[.pointer (some ⟨bm,0,none⟩)],.int .i64 1100] 141)):=(Below.refl _ _).alloc (Nat.le_refl _) _
   have HBA:=am (HBr.out.trans (hba.mono HBr.out.size))
   have HDA:=am (HD.out.keep (HB9.out.trans (HBA.out.mono HB9.out.size)))
   have HXA:=am (HX9.out.keep (HBA.out.mono HX9.out.le))
   have CM:=am (listEnds_calls _ t HDA.out 187 (.pointer (some ⟨X,0,none⟩)) bm cm (cell_keep HBA.out HBM9.out) HXA.out.now.core.cmf)
   clear hgr hba
   go_wp2_with (go_at_call 188;fail)
   refine CM.out.mono ?_
   rintro e w2 ⟨rfl,hb⟩
   have HBN:=am (HBA.out.trans (hb.mono HBA.out.size))
   clear hb g0 g1 CM
   go_wp2
   go_roundg 0
   case measure=>have:=HP.out;omega
   case rel=>exact ⟨4,rfl,⟨by omega⟩,HBN⟩
  ·have HXr:=am (HX9.out.keep (HBr.out.mono HX9.out.le))
   have hba:Below wr.heap.size wr (wr.alloc (.cells #[.slice none 0 0,.int .i64 0,.int .i8 0] 145)):=(Below.refl _ _).alloc (Nat.le_refl _) _
   have HBA:=am (HBr.out.trans (hba.mono HBr.out.size))
   have HS0:=am (new_sink wr w8.heap.size HXr.out.le)
   have HXA:=am (HX9.out.keep (HBA.out.mono HX9.out.le))
   have CRN:=am (HRD.out w8.heap.size X HB8.out.size _ wr.heap.size [] none none none HXA.out HS0.out (HD.out.keep (HB9.out.trans (HBA.out.mono HB9.out.size))).at_ (by simpa using HLEN.out))
   clear hba
   go_wp2_with (go_at_call 53;fail)
   refine CRN.out.mono ?_
   rintro e w10 ⟨⟨vr,rfl⟩,hp⟩
   rw [List.nil_append] at hp
   have HS10:=am (hp.sink HS0.out)
   have HB10:=am (hp.below HS0.out)
   have HX10:=am (HXA.out.keep HB10.out)
   clear hp CRN
   go_wp2_with (go_at_call 54;fail)
   refine (bufBytes_calls HS10.out HLEN.out).mono ?_
   rintro e w11 ⟨⟨A1,c1,rfl,hc1,hr1⟩,hb⟩
   have HB11:=am (show Below w.heap.size w w11 from ((HB9.out.trans (HBA.out.mono HB9.out.size)).trans (HB10.out.mono HB8.out.size)).trans (hb.mono (Nat.le_trans HB8.out.size HX10.out.le)))
   have HX11:=am (HX10.out.keep (hb.mono HX10.out.le))
   have HR11:=am (Kd.C_below hr1 hb)
   have HC11:=am hc1
   clear hb hr1 hc1
   obtain ⟨arr,ha,hpo⟩:=HX11.out.now.core.post
   have CPO:=am (getPostRenderHandlers_calls w11 C bs ha hpo)
   clear ha hpo
   go_wp2_with (go_at_call 55;fail)
   refine CPO.out.mono ?_
   rintro e w12 ⟨gq,rfl,hb,hg⟩
   have HB12:=am (HB11.out.trans (hb.mono HB11.out.size))
   have HX12:=am (HX11.out.keep (hb.mono HX11.out.le))
   have HR12:=am (Kd.C_below HR11.out hb)
   have HG12:=am hg
   have HPL2:=am (Nat.le_trans (postT_len tab txt HLEN.out) HLEN.out)
   have HPT2:=am (postT_tame tab txt HLEN.out HTM.out)
   clear hb hg CPO
   go_wp2
   go_loopg [20,111] 3 (fun gf v20 v111 wx=>∃ (k:Nat) (Aq:Option Addr) (cq:Nat) (lq:List UInt8),v20=.slice Aq lq.length cq∧v111=.int .i64 (k:Int)∧Aside0 (k≤3∧3 - k=gf)∧Aside0 (lq=if k=0 then txt else postT tab txt)∧Aside0 ((bytesI lq).length≤cq)∧Aside0 (Kd.C (Kd.int .u8) wx Aq (bytesI lq).length (bytesI lq))∧Aside0 (Below w12.heap.size w12 wx))
   case atStart=>exact ⟨0,A1,c1,txt,rfl,rfl,⟨by omega⟩,⟨rfl⟩,HC11,HR12,⟨Below.refl _ _⟩⟩
   case round=>
    obtain ⟨k,Aq,cq,lq,rfl,rfl,HPq,HLq0,HCq,HRq,HBq⟩:=hrel
    obtain rfl|rfl|rfl|rfl:k=0∨k=1∨k=2∨k=3:=by have:=HPq.out;omega
    ·have HLq:Aside0 (lq=txt):=⟨by rw [HLq0.out];rfl⟩
     have hgr:wr.heap[gq]?=some (.cells (hcells (mkPost bs arr)).toArray 154 (0,0)):=by rw [HBq.out.block gq (heap_lt HG12.out)];exact HG12.out
     have g0:wr.cell? ⟨gq,0,none⟩=some (.func (.func 138) #[.pointer (some ⟨bs,0,none⟩)] #[]):=(Vx.row_cell hgr 0).trans rfl
     have g1:wr.cell? ⟨gq,1,none⟩=some (.int .i64 500):=(Vx.row_cell hgr 1).trans rfl
     have hba:Below wr.heap.size wr (wr.alloc (.cells #[.func (.func 138) #[.pointer (some ⟨bs,0,none⟩)] #[],.int .i64 500] 154)):=(Below.refl _ _).alloc (Nat.le_refl _) _
     have HBA2:=am (HBq.out.trans (hba.mono HBq.out.size))
     have HXB:=am (HX12.out.keep (HBA2.out.mono HX12.out.le))
     have CM:=am (postTrim_calls HXB.out Aq cq lq (Kd.C_below HRq.out ((Below.refl _ _).alloc (Nat.le_refl _) _)) HCq.out (by rw [HLq.out];exact HLEN.out) (by rw [HLq.out];exact HTM.out) (.pointer (some ⟨bs,0,none⟩)) (.iface 187 (.pointer (some ⟨X,0,none⟩))))
     clear hgr hba
     go_wp2_with (go_at_call 138;fail)
     refine CM.out.mono ?_
     rintro e w2 ⟨⟨A2,c2,rfl,hc2,hr2⟩,hb⟩
     have HBN:=am (HBA2.out.trans (hb.mono HBA2.out.size))
     have HR2:=am hr2
     have HC2:=am hc2
     clear hb hr2 hc2 g0 g1 CM
     go_wp2
     go_roundg 2
     case measure=>have:=HPq.out;omega
     case rel=>exact ⟨1,A2,c2,postT tab lq,rfl,rfl,⟨by omega⟩,⟨by rw [HLq.out];rfl⟩,HC2,HR2,HBN⟩
    ·have HLq:Aside0 (lq=postT tab txt):=⟨by rw [HLq0.out];rfl⟩
     have hgr:wr.heap[gq]?=some (.cells (hcells (mkPost bs arr)).toArray 154 (0,0)):=by rw [HBq.out.block gq (heap_lt HG12.out)];exact HG12.out
     have g0:wr.cell? ⟨gq,2,none⟩=some (.func (.func 139) #[.pointer (some ⟨bs,0,none⟩)] #[]):=(Vx.row_cell hgr 2).trans rfl
     have g1:wr.cell? ⟨gq,3,none⟩=some (.int .i64 520):=(Vx.row_cell hgr 3).trans rfl
     have hba:Below wr.heap.size wr (wr.alloc (.cells #[.func (.func 139) #[.pointer (some ⟨bs,0,none⟩)] #[],.int .i64 520] 154)):=(Below.refl _ _).alloc (Nat.le_refl _) _
     have HBA2:=am (HBq.out.trans (hba.mono HBq.out.size))
     have HXB:=am (HX12.out.keep (HBA2.out.mono HX12.out.le))
     have CM:=am (postUn_calls HXB.out Aq cq lq (Kd.C_below HRq.out ((Below.refl _ _).alloc (Nat.le_refl _) _)) HCq.out (by rw [HLq.out];exact HPL2.out) (by rw [HLq.out];exact HPT2.out) (.pointer (some ⟨bs,0,none⟩)))
     clear hgr hba
     go_wp2_with (go_at_call 139;fail)
     refine CM.out.mono ?_
     rintro e w2 ⟨⟨A2,c2,rfl,hc2,hr2⟩,hb⟩
     have HBN:=am (HBA2.out.trans (hb.mono HBA2.out.size))
     have HR2:=am hr2
     have HC2:=am hc2
     clear hb hr2 hc2 g0 g1 CM
     go_wp2
     go_roundg 1
     case measure=>have:=HPq.out;omega
     case rel=>exact ⟨2,A2,c2,lq,rfl,rfl,⟨by omega⟩,⟨by rw [HLq.out];rfl⟩,HC2,HR2,HBN⟩
    ·have HLq:Aside0 (lq=postT tab txt):=⟨by rw [HLq0.out];rfl⟩
     have hgr:wr.heap[gq]?=some (.cells (hcells (mkPost bs arr)).toArray 154 (0,0)):=by rw [HBq.out.block gq (heap_lt HG12.out)];exact HG12.out
     have g0:wr.cell? ⟨gq,4,none⟩=some (.func (.func 205) #[.agg arr] #[]):=(Vx.row_cell hgr 4).trans rfl
     have g1:wr.cell? ⟨gq,5,none⟩=some (.int .i64 1000):=(Vx.row_cell hgr 5).trans rfl
     have hba:Below wr.heap.size wr (wr.alloc (.cells #[.func (.func 205) #[.agg arr] #[],.int .i64 1000] 154)):=(Below.refl _ _).alloc (Nat.le_refl _) _
     have HBA2:=am (HBq.out.trans (hba.mono HBq.out.size))
     have HXB:=am (HX12.out.keep (HBA2.out.mono HX12.out.le))
     have CM:=am (postNl_calls (w:=wr.alloc (.cells #[.func (.func 205) #[.agg arr] #[],.int .i64 1000] 154)) Aq cq lq (Kd.C_below HRq.out ((Below.refl _ _).alloc (Nat.le_refl _) _)) HCq.out (by rw [HLq.out];exact HPL2.out) (by rw [HLq.out];exact HPT2.out) arr (.iface 187 (.pointer (some ⟨X,0,none⟩))))
     clear hgr hba
     go_wp2_with (go_at_call 205;fail)
     refine CM.out.mono ?_
     rintro e w2 ⟨⟨A2,c2,rfl,hc2,hr2⟩,hb⟩
     have HBN:=am (HBA2.out.trans (hb.mono HBA2.out.size))
     have HR2:=am hr2
     have HC2:=am hc2
     clear hb hr2 hc2 g0 g1 CM
     go_wp2
     go_roundg 0
     case measure=>have:=HPq.out;omega
     case rel=>exact ⟨3,A2,c2,lq,rfl,rfl,⟨by omega⟩,⟨by rw [HLq.out];rfl⟩,HC2,HR2,HBN⟩
    ·have HLq:Aside0 (lq=postT tab txt):=⟨by rw [HLq0.out];rfl⟩
     have h:=HRq.out
     have e:=HLq.out
     subst e
     go_wp2
     go_ret2
     exact ⟨⟨Aq,⟨cq,rfl⟩,h⟩,HB12.out.trans (HBq.out.mono HB12.out.size)⟩
end Go.Proofs.YtbheflncgmhadaaGreat.Hand
