/- Rendering of texts, cells, rows, groups. Conditions: those in each statement. -/
import Derived.Test.YtbheflncgmhadaaGreatXk
import Derived.Test.YtbheflncgmhadaaGreatXg
import Derived.Test.YtbheflncgmhadaaGreatXi
set_option linter.unusedVariables false
set_option linter.unusedSimpArgs false
set_option maxHeartbeats 40000000
set_option maxRecDepth 100000
namespace Go.Proofs.YtbheflncgmhadaaGreat.Hand
open Go.RowKit Go.Proofs.YtbheflncgmhadaaGreatW.PrintWords Go.Proofs.YtbheflncgmhadaaGreatW.PrintLast Go.Proofs.YtbheflncgmhadaaGreatW.PrintMore
attribute [local go_sem] run_store_func'
structure Sink (N:Nat) (w:World) (b:Nat) (bs:List UInt8):Prop where
 ge:N≤b
 at_:∃ v,BufAt w b 145 bs v∧w.heap[b]?=some (.cells #[v,.int .i64 0,.int .i8 0] 145 (0,0))∧∀ g,v.ownBlock=some g→N≤g
theorem Sink.lt {N:Nat} {w:World} {b:Nat} {bs:List UInt8} (h:Sink N w b bs):b < w.heap.size:=by
 obtain ⟨v,h1,h2,h3⟩:=h.at_
 exact heap_lt h2
theorem Sink.le {N:Nat} {w:World} {b:Nat} {bs:List UInt8} (h:Sink N w b bs):N≤w.heap.size:=Nat.le_of_lt (Nat.lt_of_le_of_lt h.ge h.lt)
theorem Sink.keep {N:Nat} {w w1:World} {b:Nat} {bs:List UInt8} (h:Sink N w b bs) (hb:Below w.heap.size w w1):Sink N w1 b bs:=by
 obtain ⟨v,h1,h2,h3⟩:=h.at_
 have e:w1.heap[b]?=w.heap[b]?:=hb.block b h.lt
 refine ⟨h.ge,v,⟨by rw [e];exact h1.1,?_⟩,by rw [e];exact h2,h3⟩
 rcases h1.2 with h4|⟨q,g,cap,cur,p1,p2,p3,p4⟩
 ·exact .inl h4
 ·exact .inr ⟨q,g,cap,cur,p1,p2,by rw [hb.block g (heap_lt p3)];exact p3,p4⟩
structure Pours (w w':World) (b:Nat) (l l':List UInt8):Prop where
 os:w'.os=w.os
 tape:w'.tape=w.tape
 output:w'.output=w.output
 size:w.heap.size≤w'.heap.size
 buf:∃ v v',(BufAt w b 145 l v∧w.heap[b]?=some (.cells #[v,.int .i64 0,.int .i8 0] 145 (0,0)))∧(BufAt w' b 145 l' v'∧w'.heap[b]?=some (.cells #[v',.int .i64 0,.int .i8 0] 145 (0,0))) ∧
  (∀ k,k < w.heap.size→k≠b→v.ownBlock≠some k→w'.heap[k]?=w.heap[k]?)∧(v'.ownBlock=v.ownBlock∨∃ g,v'.ownBlock=some g∧w.heap.size≤g)
theorem buf_one {w:World} {b:Nat} {T:TypeId} {v v2 x y x2 y2:Value} (h:w.heap[b]?=some (.cells #[v,x,y] T (0,0))) (h2:w.heap[b]?=some (.cells #[v2,x2,y2] T (0,0))):v=v2:=by
 rw [h] at h2
 injection h2 with h4
 injection h4 with h4 _ _
 have:=congrArg (fun a:Array Value=>a[0]?) h4
 simpa using this
theorem Pours.wrote {w w1:World} {b:Nat} {l l':List UInt8} {v:Value} (hv:BufAt w b 145 l v) (h0:w.heap[b]?=some (.cells #[v,.int .i64 0,.int .i8 0] 145 (0,0))) (hw:Wrote w w1 b 145 v l'):Pours w w1 b l l':=by
 obtain ⟨v',h1,h2⟩:=hw.buf
 refine ⟨hw.os,hw.tape,hw.output,hw.size,v,v',⟨hv,h0⟩,⟨h1,?_⟩,hw.keep,h2⟩
 obtain ⟨v2,h3⟩:=hw.last
 obtain ⟨⟨lr,h4⟩,_⟩:=h1
 rw [h3,buf_one h3 h4]
theorem Pours.trans {w w1 w2:World} {b:Nat} {l l1 l2:List UInt8} (h:Pours w w1 b l l1) (k:Pours w1 w2 b l1 l2):Pours w w2 b l l2:=by
 obtain ⟨v,v1,hv,hv1,hk,ho⟩:=h.buf
 obtain ⟨u1,v2,hu1,hv2,hk2,ho2⟩:=k.buf
 have e:=buf_one hv1.2 hu1.2
 subst e
 refine ⟨k.os.trans h.os,k.tape.trans h.tape,k.output.trans h.output,Nat.le_trans h.size k.size,v,v2,hv,hv2,fun j hj hb hn=>?_,?_⟩
 ·rw [hk2 j (Nat.lt_of_lt_of_le hj h.size) hb ?_,hk j hj hb hn]
  rcases ho with ho|⟨g,ho,hg⟩
  ·rw [ho];exact hn
  ·rw [ho];intro e;cases e;omega
 ·rcases ho2 with ho2|⟨g,ho2,hg⟩
  ·rw [ho2];exact ho
  ·exact .inr ⟨g,ho2,Nat.le_trans h.size hg⟩
theorem Pours.refl {N:Nat} {w:World} {b:Nat} {l:List UInt8} (h:Sink N w b l):Pours w w b l l:=by
 obtain ⟨v,h1,h2,h3⟩:=h.at_
 exact ⟨rfl,rfl,rfl,Nat.le_refl _,v,v,⟨h1,h2⟩,⟨h1,h2⟩,fun _ _ _ _=>rfl,.inl rfl⟩
theorem Pours.still {N:Nat} {w w1:World} {b:Nat} {l:List UInt8} (h:Sink N w b l) (hb:Below w.heap.size w w1):Pours w w1 b l l:=by
 obtain ⟨v,h1,h2,h3⟩:=h.at_
 obtain ⟨v',k1,k2,k3⟩:=(h.keep hb).at_
 have e:v=v':=buf_one ((hb.block b h.lt).trans h2) k2
 subst e
 exact ⟨hb.os,hb.tape,hb.output,hb.size,v,v,⟨h1,h2⟩,⟨k1,k2⟩,fun k hk _ _=>hb.block k hk,.inl rfl⟩
theorem Pours.sink {N:Nat} {w w1:World} {b:Nat} {l l1:List UInt8} (h:Pours w w1 b l l1) (hs:Sink N w b l):Sink N w1 b l1:=by
 obtain ⟨v,v1,hv,hv1,hk,ho⟩:=h.buf
 obtain ⟨u,h1,h2,h3⟩:=hs.at_
 have e:=buf_one hv.2 h2
 subst e
 refine ⟨hs.ge,v1,hv1.1,hv1.2,fun g hg=>?_⟩
 rcases ho with ho|⟨g',ho,hg'⟩
 ·exact h3 g (ho▸hg)
 ·rw [ho] at hg;cases hg
  exact Nat.le_trans hs.le hg'
theorem Pours.below {N:Nat} {w w1:World} {b:Nat} {l l1:List UInt8} (h:Pours w w1 b l l1) (hs:Sink N w b l):Below N w w1:=by
 obtain ⟨v,v1,hv,hv1,hk,ho⟩:=h.buf
 obtain ⟨u,h1,h2,h3⟩:=hs.at_
 have e:=buf_one hv.2 h2
 subst e
 refine ⟨h.os,h.tape,h.output,h.size,fun k hk'=>hk k (Nat.lt_of_lt_of_le hk' hs.le) (fun e=>?_) (fun e=>?_)⟩
 ·have:=hs.ge;omega
 ·have:=h3 k e;omega
theorem Pours.block {w w1:World} {b:Nat} {l l1:List UInt8} (h:Pours w w1 b l l1) {k:Nat} (hk:k < w.heap.size) (hb:k≠b) (hn:∀ v x y T,w.heap[b]?=some (.cells #[v,x,y] T (0,0))→v.ownBlock≠some k):w1.heap[k]?=w.heap[k]?:=by
 obtain ⟨v,v1,hv,hv1,hk',ho⟩:=h.buf
 exact hk' k hk hb (hn _ _ _ _ hv.2)
theorem sink_string {N:Nat} {w:World} {b:Nat} {bs:List UInt8} (h:Sink N w b bs) (s:ByteArray) (hs:1≤s.size) (hlim:bs.length+s.size≤4000000000000):
  Calls Tryz.prog 335 #[.pointer (some ⟨b,0,none⟩),.string s] w fun e w'=>e=.returned (.tuple #[.int .i64 s.size,.nilIface])∧Pours w w' b bs (bs++s.data.toList):=by
 obtain ⟨v,h1,h2,h3⟩:=h.at_
 refine (writeString_calls w b _ s bs v h1 hs (by omega) hlim).mono ?_
 rintro e w1 ⟨rfl,hw⟩
 exact ⟨rfl,Pours.wrote h1 h2 hw⟩
theorem sink_rune {N:Nat} {w:World} {b:Nat} {bs:List UInt8} (h:Sink N w b bs) (x:UInt8) (hx:x.toNat < 128) (hlim:bs.length+1≤4000000000000):
  Calls Tryz.prog 326 #[.pointer (some ⟨b,0,none⟩),.int .i32 (x.toNat:Int)] w fun e w'=>e=.returned (.tuple #[.int .i64 1,.nilIface])∧Pours w w' b bs (bs++[x]):=by
 obtain ⟨v,h1,h2,h3⟩:=h.at_
 refine (writeRune_calls w b _ x hx bs v h1 hlim).mono ?_
 rintro e w1 ⟨rfl,hw⟩
 exact ⟨rfl,Pours.wrote h1 h2 hw⟩
theorem sink_write {N:Nat} {w:World} {b:Nat} {bs:List UInt8} (h:Sink N w b bs) (A:Option Addr) (sc:Nat) (new:List UInt8) (hr:Kd.C (Kd.int .u8) w A (bytesI new).length (bytesI new)) (hA:∀ ad,A=some ad→ad.block≠b) (hlim:bs.length+new.length≤4000000000000):
  Calls Tryz.prog 325 #[.pointer (some ⟨b,0,none⟩),.slice A new.length sc] w fun e w'=>e=.returned (.tuple #[.int .i64 new.length,.nilIface])∧Pours w w' b bs (bs++new):=by
 obtain ⟨v,h1,h2,h3⟩:=h.at_
 cases hn:new with
 |nil=>
  rw [List.append_nil]
  refine (write_zero w b _ A sc bs v h1 h2 (by omega)).mono ?_
  rintro e w1 ⟨rfl,rfl⟩
  exact ⟨rfl,Pours.refl h⟩
 |cons x r=>
  rw [← hn]
  have hlen:new.length≠0:=by rw [hn];simp
  obtain ⟨ad,rfl⟩:∃ ad,A=some ad:=by
   obtain ⟨ad,e,_⟩:=hr.2.2 (by rw [bytesI_length];exact Nat.pos_of_ne_zero hlen)
   exact ⟨ad,e⟩
  refine (write_calls w b _ ad sc new.length new ?_ (hA ad rfl) rfl bs v h1 (by omega) (by omega) hlim).mono ?_
  ·intro j u hj
   obtain ⟨hlt,hu⟩:=List.getElem?_eq_some_iff.1 hj
   have hlt':j < new.length:=by simpa [bc] using hlt
   rw [at_byte hr j hlt']
   simp [bc] at hu
   rw [hu]
  ·rintro e w1 ⟨rfl,hw⟩
   exact ⟨rfl,Pours.wrote h1 h2 hw⟩
inductive Chain:Value→Prop
 |none:Chain (.iface 177 (.agg #[]))
 |link (p v:Value) (k:ByteArray) (h:Chain p) (hk:(k.toList==[105,115,95,105,110,115,105,100,101,95,108,105,110,107])=false):Chain (.iface 201 (.agg #[p,.iface 179 (.string k),v]))
structure PO where
 span:ByteArray
 lines:ByteArray
 skip:Bool
 promote:Bool
 pres:Bool
 pad:ByteArray
 also:World→Prop
structure PlugAt (w:World) (tp:Nat) (po:PO):Prop where
 span:w.cell? ⟨tp,1,none⟩=some (.string po.span)
 lines:w.cell? ⟨tp,2,none⟩=some (.string po.lines)
 skip:w.cell? ⟨tp,3,none⟩=some (.bool po.skip)
 promote:w.cell? ⟨tp,4,none⟩=some (.bool po.promote)
 pres:w.cell? ⟨tp,5,none⟩=some (.bool po.pres)
 pad:w.cell? ⟨tp,6,none⟩=some (.string po.pad)
structure CxCore (w:World) (X C cm tp bs:Nat) (tab:Nat→Int) (po:PO):Prop where
 chain:∃ v,w.cell? ⟨X,0,none⟩=some v∧Chain v
 conv:w.cell? ⟨X,1,none⟩=some (.pointer (some ⟨C,0,none⟩))
 core:ConvCore w C cm tp bs
 plug:PlugAt w tp po
 space:∀ c:Nat,c < 128→w.cell? ⟨0,c,none⟩=some (.int .u8 (tab c))
 also:po.also w
structure Cx (N:Nat) (w:World) (X C cm tp bs:Nat) (tab:Nat→Int) (po:PO):Prop where
 le:N≤w.heap.size
 core:∀ w1,Below N w w1→CxCore w1 X C cm tp bs tab po
theorem Cx.keep {N:Nat} {w w1:World} {X C cm tp bs:Nat} {tab:Nat→Int} {po:PO} (h:Cx N w X C cm tp bs tab po) (hb:Below N w w1):Cx N w1 X C cm tp bs tab po:=⟨Nat.le_trans h.le hb.size,fun w2 h2=>h.core w2 (hb.trans h2)⟩
theorem Cx.now {N:Nat} {w:World} {X C cm tp bs:Nat} {tab:Nat→Int} {po:PO} (h:Cx N w X C cm tp bs tab po):CxCore w X C cm tp bs tab po:=h.core w (Below.refl _ _)
theorem Cx.quiet {N:Nat} {w:World} {X C cm tp bs:Nat} {tab:Nat→Int} {po:PO} (h:Cx N w X C cm tp bs tab po):Quiet w C Wordy:=by
 intro w1 hb
 have hc:=(h.core w1 (hb.mono h.le)).core
 obtain ⟨mb,h1,h2⟩:=hc.marks
 exact ⟨⟨_,hc.mode,by simp⟩,mb,h1,fun r hr=>h2 _ ⟨r,hr,rfl⟩⟩
theorem Cx.tags {N:Nat} {w:World} {X C cm tp bs:Nat} {tab:Nat→Int} {po:PO} (h:Cx N w X C cm tp bs tab po):MapQuiet N w C 8 97 tagNames:=fun w1 hb=>(h.core w1 hb).core.tags
theorem ctx_method:((Tryz.prog.info? 187).bind fun i=>i.methods.find? (·.name == "Value")).map (fun m=>(m.func,m.path.toList))=some (none,[⟨189,0,true⟩]):=by kernel_rfl
theorem ctx_fields:(Tryz.prog.underlying 189).map (fun d=>match d with|.struct fs=>fs[0]?.map (fun f=>(f.type,f.offset))|_=>none)=some (some (119,0)):=by kernel_rfl
theorem size119:(Tryz.prog.info? 119).map (·.size)=some 1:=by kernel_rfl
theorem method_none (w:World):(method 581 177 (.agg #[]) "Value").run Tryz.prog w=.ok (460,.agg #[]) w:=by kernel_rfl
theorem method_link (n:Nat) (hn:n=580∨n=581) (w:World) (x:Array Value):(method n 201 (.agg x) "Value").run Tryz.prog w=.ok (481,.agg x) w:=by
 rcases hn with rfl|rfl <;> kernel_rfl
theorem method_ctx (n:Nat) (w:World) (X:Nat) (t:TypeId) (x:Value) (h:w.cell? ⟨X,0,none⟩=some (.iface t x)):(method (n+1) 187 (.pointer (some ⟨X,0, none⟩)) "Value").run Tryz.prog w=(method n t x "Value").run Tryz.prog w:=by
 have h1:=ctx_method
 obtain ⟨m,hm,h2⟩:=Option.map_eq_some_iff.1 h1
 obtain ⟨i,hi,hf⟩:=Option.bind_eq_some_iff.1 hm
 simp only [Prod.mk.injEq] at h2
 obtain ⟨p1,p2⟩:=h2
 obtain ⟨d,hd,h3⟩:=Option.map_eq_some_iff.1 ctx_fields
 split at h3
 case h_2=>cases h3
 rename_i fs
 obtain ⟨f,hf0,h4⟩:=Option.map_eq_some_iff.1 h3
 simp only [Prod.mk.injEq] at h4
 obtain ⟨q1,q2⟩:=h4
 obtain ⟨j,hj,hz⟩:=Option.map_eq_some_iff.1 size119
 rw [method]
 have hag:(isAgg 119).run Tryz.prog w=.ok false w:=by simp [isAgg,run_underlying Tryz.underlying119]
 simp [typeInfo,hi,hf,p1,p2,follow,run_underlying hd,hf0,Place.get,asAddr,fieldPlace,q1,q2,loadVar,sizeOf,hj,hz,hag,go_sem,h]
theorem eql_ifaces (w:World) (k s:ByteArray):(binOp .eql 20 (.iface 179 (.string k)) (.iface 9 (.string s))).run Tryz.prog w=.ok (.bool false) w:=by
 have h:∀ d:Nat,(Op.equalIn (d+1) 20 (.iface 179 (.string k)) (.iface 9 (.string s))).run Tryz.prog w=.ok false w:=fun d=>by
  simp [Op.equalIn,run_underlying Tryz.underlying20]
 simp only [binOp]
 simp [Op.equal,Op.maxDepth,h 9999]
def kInside:ByteArray:=⟨#[105,115,95,105,110,115,105,100,101,95,108,105,110,107]⟩
theorem chain_calls {v:Value} (h:Chain v):∀ p k x,v=.iface 201 (.agg #[p,k,x])→∀ w:World,Calls Tryz.prog 481 #[.agg #[p,k,x],.iface 9 (.string kInside)] w fun e w'=>e=.returned .nilIface∧Below w.heap.size w w':=by
 induction h with
 |none=>intro p k x h;cases h
 |link p v k h hk ih=>
  intro p' k' x' e w
  cases e
  have he:=fun w=>eql_ifaces w k kInside
  have IH:=am ih
  clear ih
  cases h with
  |none=>
   have hm:=method_none
   go_enter Tryz.func481,Tryz.ntmps481
   go_wp2
   go_ret
   exact ⟨rfl,((Below.refl _ _).alloc (Nat.le_refl _) _).alloc (by rw [alloc_size];omega) _⟩
  |link p2 v2 k2 h2 hk2=>
   have hm:=method_link 581 (.inr rfl)
   go_enter Tryz.func481,Tryz.ntmps481
   go_wp2_with (go_at_call 481;fail)
   refine (IH.out _ _ _ rfl _).mono ?_
   rintro e w1 ⟨rfl,hb⟩
   have HB:=am hb
   clear hb
   go_wp2
   go_ret
   exact ⟨rfl,((Below.refl _ _).alloc (Nat.le_refl _) _).trans (HB.out.mono (by rw [alloc_size];omega))⟩
theorem method_none0 (w:World):(method 580 177 (.agg #[]) "Value").run Tryz.prog w=.ok (460,.agg #[]) w:=by kernel_rfl
theorem assert_nil (w:World):(Instr.typeAssert .nilIface 20 4 true).run Tryz.prog w=.ok (.tuple #[.bool false,.bool false]) w:=by kernel_rfl
theorem cmText_calls (w:World) (X:Nat) (v:Value) (hx:w.cell? ⟨X,0,none⟩=some v) (hc:Chain v) (arr:Array Value) (s:ByteArray):
  Calls Tryz.prog 183 #[.agg arr,.iface 187 (.pointer (some ⟨X,0,none⟩)),.string s] w fun e w'=>e=.returned (.string s)∧Below w.heap.size w w':=by
 have HC:=am hc
 have hta:=assert_nil
 cases hc with
 |none=>
  have hx2:(w.alloc (.cells arr 82)).cell? ⟨X,0,none⟩=some _:=cell_keep ((Below.refl _ _).alloc (Nat.le_refl _) _) hx
  have hm:(method 581 187 (.pointer (some ⟨X,0, none⟩)) "Value").run Tryz.prog (w.alloc (.cells arr 82))=.ok (460,.agg #[]) (w.alloc (.cells arr 82)):=(method_ctx 580 _ X 177 (.agg #[]) hx2).trans (method_none0 _)
  clear hx hx2
  go_enter Tryz.func183,Tryz.ntmps183
  go_wp2
  go_ret
  exact ⟨rfl,((Below.refl _ _).alloc (Nat.le_refl _) _).alloc (by rw [alloc_size];omega) _⟩
 |link p v k h hk=>
  have hx2:(w.alloc (.cells arr 82)).cell? ⟨X,0,none⟩=some _:=cell_keep ((Below.refl _ _).alloc (Nat.le_refl _) _) hx
  have hm:(method 581 187 (.pointer (some ⟨X,0, none⟩)) "Value").run Tryz.prog (w.alloc (.cells arr 82))=.ok (481,.agg #[p,.iface 179 (.string k),v]) (w.alloc (.cells arr 82)):=(method_ctx 580 _ X 201 (.agg #[p,.iface 179 (.string k),v]) hx2).trans (method_link 580 (.inl rfl) _ _)
  clear hx hx2
  go_enter Tryz.func183,Tryz.ntmps183
  go_wp2_with (go_at_call 481;fail)
  refine (chain_calls HC.out _ _ _ rfl _).mono ?_
  rintro e w1 ⟨rfl,hb⟩
  have HB:=am hb
  clear hb hm
  go_wp2
  go_ret
  exact ⟨rfl,((Below.refl _ _).alloc (Nat.le_refl _) _).trans (HB.out.mono (by rw [alloc_size];omega))⟩
theorem ctxEscape_calls {N:Nat} {w:World} {X C cm tp bs:Nat} {tab:Nat→Int} {po:PO} (hx:Cx N w X C cm tp bs tab po) (A0:Option Addr) (c0:Nat) (l:List UInt8) (hr0:Kd.C (Kd.int .u8) w A0 (bytesI l).length (bytesI l)) (hc0:(bytesI l).length≤c0) (h300:l.length≤4000000000000)
  (hq:∀ (i:Nat) (h:i < l.length),Wordy (l[i].toNat:Int)∧l[i].toNat≠0∧l[i].toNat < 128):
  Calls Tryz.prog 462 #[.pointer (some ⟨X,0,none⟩),.slice A0 l.length c0] w fun e w'=>(∃ v,e=.returned v∧w'.ownsRow w.heap.size 5 1 v l.length (nums .u8 (bytesI l)))∧Below w.heap.size w w':=by
 have c1:=hx.now.conv
 have HC:=am (escape_calls w C Wordy hx.quiet A0 c0 l hr0 hc0 h300 hq)
 rw [bytesI_length] at HC
 clear hx hr0 hc0 hq
 go_enter Tryz.func462,Tryz.ntmps462
 go_wp2_with (go_at_call 469;fail)
 refine HC.out.mono ?_
 rintro e w1 ⟨⟨v,rfl,ho⟩,hb⟩
 have HO:=am ho
 have HB:=am hb
 clear ho hb
 go_wp2
 go_ret
 exact ⟨⟨_,rfl,HO.out⟩,HB.out⟩
theorem ctxUnescape_calls {N:Nat} {w:World} {X C cm tp bs:Nat} {tab:Nat→Int} {po:PO} (hx:Cx N w X C cm tp bs tab po) (A0:Option Addr) (c0:Nat) (l:List UInt8) (hr0:Kd.C (Kd.int .u8) w A0 (bytesI l).length (bytesI l)) (hc0:(bytesI l).length≤c0) (h300:l.length≤4000000000000)
  (hq:∀ (i:Nat) (h:i < l.length),l[i].toNat≠7):
  Calls Tryz.prog 466 #[.pointer (some ⟨X,0,none⟩),.slice A0 l.length c0] w fun e w'=>(∃ v,e=.returned v∧w'.ownsRow w.heap.size 5 1 v l.length (nums .u8 (bytesI l)))∧Below w.heap.size w w':=by
 have c1:=hx.now.conv
 have HC:=am (unescape_calls w C Wordy hx.quiet A0 c0 l hr0 hc0 h300 hq)
 rw [bytesI_length] at HC
 clear hx hr0 hc0 hq
 go_enter Tryz.func466,Tryz.ntmps466
 go_wp2_with (go_at_call 472;fail)
 refine HC.out.mono ?_
 rintro e w1 ⟨⟨v,rfl,ho⟩,hb⟩
 have HO:=am ho
 have HB:=am hb
 clear ho hb
 go_wp2
 go_ret
 exact ⟨⟨_,rfl,HO.out⟩,HB.out⟩
theorem TextOk.list {s:ByteArray} (h:TextOk s):∀ (i:Nat) (hi:i < s.data.toList.length),Wordy (s.data.toList[i].toNat:Int)∧s.data.toList[i].toNat≠0∧s.data.toList[i].toNat < 128:=by
 intro i hi
 have hi':i < s.size:=by simpa using hi
 have h1:Wordy ((s.data.toList[i]'hi).toNat:Int):=by
  have:=h.chars i hi'
  simp only [Array.getElem_toList];exact this
 refine ⟨h1,?_⟩
 unfold Wordy Alnum at h1
 omega
theorem baseText_calls {N:Nat} {w:World} {X C cm tp bs:Nat} {tab:Nat→Int} {po:PO} (hx:Cx N w X C cm tp bs tab po) (s:ByteArray) (hs:TextOk s) (v0:Value):
  Calls Tryz.prog 136 #[v0,.iface 187 (.pointer (some ⟨X,0,none⟩)),.string s] w fun e w'=>e=.returned (.string s)∧Below w.heap.size w w':=by
 have HX:=am hx
 have HS:=am hs
 have H3:=am (show s.size≤4000000000000 by have:=hs.le;omega)
 have CE:=am (entities_calls s w H3.out (fun i h=>by have:=hs.chars i h;unfold Wordy Alnum at this;omega))
 clear hx hs
 go_enter Tryz.func136,Tryz.ntmps136
 go_wp2_with (go_at_call 149;fail)
 refine CE.out.mono ?_
 rintro e w1 ⟨rfl,hb⟩
 have HB:=am hb
 clear hb
 have hcv:=Lib.run_convert_string_bytes (P:=Tryz.prog) w1 9 62 5 s Tryz.underlying9 Tryz.underlying62 Tryz.underlying5
 have HX1:=am (((HX.out.keep (HB.out.mono HX.out.le))).keep ((bytesWorld_below w1 s).mono (HX.out.keep (HB.out.mono HX.out.le)).le))
 have HBB:=am (bytesWorld_below w1 s)
 have HRC:=am (bytes_C w1 s (by have:=H3.out;omega))
 obtain ⟨cap,hcap⟩:∃ cap,grownCap w1 s.size 0 5=cap:=⟨_,rfl⟩
 rw [hcap] at hcv
 have HCP:=am (show s.size≤cap by rw [← hcap];exact grownCap_ge w1 s.size 0 5)
 clear hcap
 obtain ⟨W,hW⟩:∃ W,Lib.bytesWorld w1 5 s=W:=⟨_,rfl⟩
 rw [hW] at hcv HX1 HBB HRC
 clear hW
 have hsl:s.size=s.data.toList.length:=by simp
 have CC:=ctxEscape_calls HX1.out _ cap s.data.toList HRC.out (by rw [bytesI_length,← hsl];exact HCP.out) (by rw [← hsl];exact H3.out) HS.out.list
 rw [← hsl] at CC
 have CC:=am CC
 have HSL:=am hsl
 clear hsl
 go_wp2_with (go_at_call 462;fail)
 refine CC.out.mono ?_
 rintro e w2 ⟨⟨v,rfl,ho⟩,hb⟩
 rw [HSL.out,← bytesI_length] at ho
 obtain ⟨A,c1,hv,hr⟩:=own_reads ho
 subst hv
 have hcv2:=string_of_reads (P:=Tryz.prog) (c:=c1) Tryz.underlying62 Tryz.underlying5 Tryz.underlying9 hr
 rw [strOf_bytesI] at hcv2
 have HBE:=am (((HB.out).trans (HBB.out.mono HB.out.size)).trans (hb.mono (Nat.le_trans HB.out.size HBB.out.size)))
 clear hr ho hb hcv
 go_wp2
 go_ret
 exact ⟨rfl,HBE.out⟩
theorem At_data {w:World} {b:Nat} {i:NI} {kids:List DT} {par prev next:Option Nat} (h:DT.At w par prev next (.node b i kids)):w.cell? ⟨b,7,none⟩=some (.string i.data):=by
 obtain ⟨h1,_⟩:=h
 simp [World.cell?,h1]
theorem method_ws (p:Option Addr) (w:World):(method 581 148 (.pointer p) "WriteString").run Tryz.prog w=.ok (335,.pointer p) w:=by kernel_rfl
theorem method_wr (p:Option Addr) (w:World):(method 581 148 (.pointer p) "WriteRune").run Tryz.prog w=.ok (326,.pointer p) w:=by kernel_rfl
theorem renderText_calls {N:Nat} {w:World} {X C cm tp bs:Nat} {tab:Nat→Int} {po:PO} (hx:Cx N w X C cm tp bs tab po) {b:Nat} {l:List UInt8} (hs:Sink N w b l) {q:Nat} {i:NI} {par prev next:Option Nat} (ht:DT.At w par prev next (.node q i [])) (hk:i.kind=1) (hok:TextOk i.data) (hlim:l.length+i.data.size≤4000000000000):
  Calls Tryz.prog 73 #[.pointer (some ⟨C,0,none⟩),.iface 187 (.pointer (some ⟨X,0,none⟩)),.iface 148 (.pointer (some ⟨b,0,none⟩)),.pointer (some ⟨q,0,none⟩)] w fun e w'=>(∃ v,e=.returned v)∧Pours w w' b l (l++i.data.data.toList):=by
 have hd:=At_data ht
 obtain ⟨arr,harr,hH⟩:=hx.now.core.text
 have CG:=am (getTextTransformHandlers_calls w C bs harr hH)
 have HX:=am hx
 have HS:=am hs
 have HK:=am hok
 have HL:=am hlim
 clear hx hs hok hlim hH ht harr
 go_enter Tryz.func73,Tryz.ntmps73
 go_wp2_with (go_at_call 79;fail)
 refine CG.out.mono ?_
 rintro e w1 ⟨g,rfl,hb,hg⟩
 have HB:=am hb
 have HG:=am hg
 clear hb hg
 go_wp2
 clear hd
 have hws:=method_ws (some ⟨b,0,none⟩)
 go_loopg [9,19] 2 (fun gf v9 v19 wx=>∃ (k:Nat),v19=.int .i64 (k:Int)∧v9=.string i.data∧Aside0 (k≤2∧2 - k=gf)∧Aside0 (Below w.heap.size w wx)∧Aside0 (wx.heap[g]?=some (.cells (hcells (Vx.mkText bs arr)).toArray 207 (0,0))))
 case atStart=>exact ⟨0,rfl,rfl,⟨by omega⟩,HB,HG⟩
 case round=>
  obtain ⟨k,rfl,rfl,HP,HBr,HGr⟩:=hrel
  have g0:wr.cell? ⟨g,0,none⟩=some (.func (.func 136) #[.pointer (some ⟨bs,0,none⟩)] #[]):=(Vx.row_cell HGr.out 0).trans rfl
  have g1:wr.cell? ⟨g,1,none⟩=some (.int .i64 500):=(Vx.row_cell HGr.out 1).trans rfl
  have g2:wr.cell? ⟨g,2,none⟩=some (.func (.func 183) #[.agg arr] #[]):=(Vx.row_cell HGr.out 2).trans rfl
  have g3:wr.cell? ⟨g,3,none⟩=some (.int .i64 1000):=(Vx.row_cell HGr.out 3).trans rfl
  obtain rfl|rfl|rfl:k=0∨k=1∨k=2:=by have:=HP.out;omega
  ·go_wp2_with (go_at_call 136;fail)
   refine (baseText_calls ((HX.out.keep (HBr.out.mono HX.out.le)).keep (((Below.refl wr.heap.size wr).alloc (Nat.le_refl _) _).mono (HX.out.keep (HBr.out.mono HX.out.le)).le)) i.data HK.out _).mono ?_
   rintro e w2 ⟨rfl,hb⟩
   have HB2:=am (((Below.refl wr.heap.size wr).alloc (Nat.le_refl _) _).trans (hb.mono (by rw [alloc_size];omega)))
   clear hb g0 g1 g2 g3
   go_wp2
   go_roundg 1
   case measure=>have:=HP.out;omega
   case rel=>exact ⟨1,rfl,rfl,⟨by omega⟩,⟨HBr.out.trans (HB2.out.mono HBr.out.size)⟩,⟨by rw [HB2.out.block g (heap_lt HGr.out)];exact HGr.out⟩⟩
  ·obtain ⟨vc,hvc,hch⟩:=((HX.out.keep (HBr.out.mono HX.out.le)).keep (((Below.refl wr.heap.size wr).alloc (Nat.le_refl _) _).mono (HX.out.keep (HBr.out.mono HX.out.le)).le)).now.chain
   have HVC:=am hvc
   have HCH:=am hch
   clear hvc hch
   go_wp2_with (go_at_call 183;fail)
   refine (cmText_calls _ X vc HVC.out HCH.out arr i.data).mono ?_
   rintro e w2 ⟨rfl,hb⟩
   have HB2:=am (((Below.refl wr.heap.size wr).alloc (Nat.le_refl _) _).trans (hb.mono (by rw [alloc_size];omega)))
   clear hb g0 g1 g2 g3
   go_wp2
   go_roundg 0
   case measure=>have:=HP.out;omega
   case rel=>exact ⟨2,rfl,rfl,⟨by omega⟩,⟨HBr.out.trans (HB2.out.mono HBr.out.size)⟩,⟨by rw [HB2.out.block g (heap_lt HGr.out)];exact HGr.out⟩⟩
  ·go_wp2_with (go_at_call 335;fail)
   refine (sink_string (HS.out.keep HBr.out) i.data (Nat.one_le_iff_ne_zero.2 HK.out.ne) HL.out).mono ?_
   rintro e w2 ⟨rfl,hb⟩
   have HB2:=am hb
   clear hb g0 g1 g2 g3
   go_wp2
   go_ret
   exact ⟨⟨_,rfl⟩,(Pours.still HS.out HBr.out).trans HB2.out⟩
def Rend (N X C cm tp bs:Nat) (tab:Nat→Int) (po:PO) (t:DT) (txt:List UInt8):Prop:=∀ (w:World) (b:Nat) (l:List UInt8) (par prev next:Option Nat),Cx N w X C cm tp bs tab po→Sink N w b l→DT.At w par prev next t→l.length+txt.length≤4000000000000 →
 Calls Tryz.prog 53 #[.pointer (some ⟨C,0,none⟩),.iface 187 (.pointer (some ⟨X,0,none⟩)),.iface 148 (.pointer (some ⟨b,0,none⟩)),.pointer (some ⟨t.blk,0,none⟩)] w fun e w'=>(∃ v,e=.returned v)∧Pours w w' b l (l++txt)
theorem rend_text {N X C cm tp bs:Nat} {tab:Nat→Int} {po:PO} (q:Nat) (i:NI) (hk:i.kind=1) (hok:TextOk i.data):Rend N X C cm tp bs tab po (.node q i []) i.data.data.toList:=by
 intro w b l par prev next hx hs ht hlim
 have CN:=am (nodeName_calls w q i [] par prev next ht (.inl hk))
 rw [if_pos hk] at CN
 have CT:=am (renderText_calls hx hs ht hk hok (by simpa using hlim))
 clear hx hs ht hlim hok
 show Calls Tryz.prog 53 #[.pointer (some ⟨C,0,none⟩),.iface 187 (.pointer (some ⟨X,0,none⟩)),.iface 148 (.pointer (some ⟨b,0,none⟩)),.pointer (some ⟨q,0,none⟩)] w _
 go_enter Tryz.func53,Tryz.ntmps53
 go_wp2_with (go_at_call 72;fail)
 refine CN.out.mono ?_
 rintro e w1 ⟨rfl,hw⟩
 rw [hw]
 clear hw
 go_wp2_with (go_at_call 73;fail)
 refine CT.out.mono ?_
 rintro e w1 ⟨⟨v,rfl⟩,hb⟩
 have HB:=am hb
 clear hb
 go_wp2
 go_ret
 exact ⟨⟨_,rfl⟩,HB.out⟩
structure NodesAt (w:World) (b:Nat) (g:Nat) (kids:List DT):Prop where
 lt:g < w.heap.size
 ne:g≠b
 free:∀ v x y T,w.heap[b]?=some (.cells #[v,x,y] T (0,0))→v.ownBlock≠some g
 at_:∀ (j:Nat) (h:j < kids.length),w.cell? ⟨g,j,none⟩=some (.pointer (some ⟨kids[j].blk,0,none⟩))
inductive Rends (R:DT→List UInt8→Prop):List DT→List (List UInt8)→Prop
 |nil:Rends R [] []
 |cons {t:DT} {x:List UInt8} {l:List DT} {r:List (List UInt8)} (h:R t x) (k:Rends R l r):Rends R (t::l) (x::r)
theorem Rends.len {R:DT→List UInt8→Prop} {l:List DT} {r:List (List UInt8)} (h:Rends R l r):l.length=r.length:=by
 induction h with
 |nil=>rfl
 |cons _ _ ih=>simp [ih]
theorem Rends.get {R:DT→List UInt8→Prop} {l:List DT} {r:List (List UInt8)} (h:Rends R l r):∀ (j:Nat) (h1:j < l.length) (h2:j < r.length),R l[j] r[j]:=by
 induction h with
 |nil=>intro j h1;cases h1
 |cons a b ih=>
  intro j h1 h2
  cases j with
  |zero=>exact a
  |succ j=>exact ih j _ _
theorem flat_take (r:List (List UInt8)) (j:Nat) (h:j < r.length):(r.take (j+1)).flatten=(r.take j).flatten++r[j]:=by
 rw [List.take_succ_eq_append_getElem h,List.flatten_append]
 simp only [List.flatten_cons,List.flatten_nil,List.append_nil]
theorem flat_take_le:∀ (r:List (List UInt8)) (j:Nat),(r.take j).flatten.length≤r.flatten.length
 |[],j=>by simp
 |x::r,0=>by simp
 |x::r,j+1=>by
  have:=flat_take_le r j
  simp only [List.take_succ_cons,List.flatten_cons,List.length_append]
  omega
theorem renderNodes_calls {N X C cm tp bs:Nat} {tab:Nat→Int} {po:PO} {w:World} {b:Nat} {l:List UInt8} (kids:List DT) (txts:List (List UInt8)) (hR:Rends (Rend N X C cm tp bs tab po) kids txts) (hx:Cx N w X C cm tp bs tab po) (hs:Sink N w b l) (hlim:l.length+txts.flatten.length≤4000000000000) (hl:kids.length≤1000)
  (hT:∀ t∈kids,t.Lt N∧∃ par prev next,DT.At w par prev next t) (g c:Nat) (hn:NodesAt w b g kids) (hc:kids.length≤c):
  Calls Tryz.prog 471 #[.pointer (some ⟨C,0,none⟩),.iface 187 (.pointer (some ⟨X,0,none⟩)),.iface 148 (.pointer (some ⟨b,0,none⟩)),.slice (some ⟨g,0,none⟩) kids.length c] w fun e w'=>e=.returned (.tuple #[])∧Pours w w' b l (l++txts.flatten):=by
 have HR:=am hR
 have HX:=am hx
 have HS:=am hs
 have HL:=am hlim
 have HL1:=am hl
 have HT:=am hT
 have HN:=am hn
 clear hR hx hs hlim hT hn
 go_enter Tryz.func471,Tryz.ntmps471
 go_wp2
 go_loopg [12] kids.length (fun gf v12 wx=>∃ (j:Nat),v12=.int .i64 (j:Int)∧Aside0 (j≤kids.length∧kids.length - j=gf)∧Aside0 (Pours w wx b l (l++(txts.take j).flatten)))
 case atStart=>exact ⟨0,rfl,⟨by omega⟩,⟨by simpa using Pours.refl HS.out⟩⟩
 case round=>
  obtain ⟨j,rfl,HP,HW⟩:=hrel
  by_cases hj:j < kids.length
  ·have g0:wr.cell? ⟨g,j,none⟩=some (.pointer (some ⟨kids[j].blk,0,none⟩)):=by
    rw [World.cell?_of_block (HW.out.block HN.out.lt HN.out.ne HN.out.free)]
    exact HN.out.at_ j hj
   have HJ:=am hj
   have hlt:decide ((j:Int) < (kids.length:Int))=true:=decide_eq_true (by omega)
   have hw1:wrap64 ((j:Int)+1)=((j+1:Nat):Int):=by have:=HL1.out;unfold wrap64;omega
   have hjt:j < txts.length:=by rw [← HR.out.len];exact hj
   have CR:=am (HR.out.get j hj hjt)
   have hfl:=flat_take txts j hjt
   obtain ⟨t,ht⟩:∃ t,kids[j]=t:=⟨_,rfl⟩
   obtain ⟨x,hxx⟩:∃ x,txts[j]=x:=⟨_,rfl⟩
   rw [ht,hxx] at CR
   rw [hxx] at hfl
   have HFL:=am hfl
   have hpp:=eq_true hj
   rw [ht] at g0
   have HTJ:=am (HT.out t (ht▸List.getElem_mem hj))
   clear hj ht hxx hfl hjt
   go_wp2_with (go_at_call 53;fail)
   obtain ⟨hlt',par,prev,next,hat⟩:=HTJ.out
   have hb:=HW.out.below HS.out
   have hfl:=HFL.out
   refine (CR.out _ _ _ par prev next (HX.out.keep hb) (HW.out.sink HS.out) (DT.At.keepN hb hlt' hat) ?_).mono ?_
   ·have h1:=flat_take_le txts (j+1)
    rw [hfl] at h1
    have h2:=HL.out
    simp only [List.length_append] at h1 ⊢
    omega
   ·rintro e w2 ⟨⟨v,rfl⟩,hp⟩
    rw [List.append_assoc,← hfl] at hp
    have HP2:=am (HW.out.trans hp)
    clear hp hb hat hlt' hfl g0
    go_wp2
    go_roundg (kids.length - (j+1))
    case measure=>have:=HP.out;have:=HJ.out;omega
    case rel=>exact ⟨j+1,by rw [hw1],⟨by have:=HJ.out;omega⟩,HP2⟩
  ·have hlt:decide ((j:Int) < (kids.length:Int))=false:=decide_eq_false (by omega)
   have hpp:=eq_false hj
   have HJ:=am hj
   clear hj
   go_wp2
   go_end0
   have e1:j=kids.length:=by have:=HP.out;have:=HJ.out;omega
   have h1:=HW.out
   rw [e1,HR.out.len,List.take_length] at h1
   exact ⟨rfl,h1⟩
theorem renderNone_calls {N:Nat} {w:World} {b:Nat} {l:List UInt8} (hs:Sink N w b l) (C:Nat) (v1 v2:Value) (c:Nat):
  Calls Tryz.prog 471 #[.pointer (some ⟨C,0,none⟩),v1,v2,.slice none 0 c] w fun e w'=>e=.returned (.tuple #[])∧Pours w w' b l l:=by
 have HS:=am hs
 clear hs
 go_enter Tryz.func471,Tryz.ntmps471
 go_wp2
 refine wp_loop_once ?_
 go_wp2
 go_end0
 exact ⟨rfl,Pours.refl HS.out⟩
theorem DT.At.kid {w:World} {q:Nat} {i:NI} {kids:List DT} {par prev next:Option Nat} (h:DT.At w par prev next (.node q i kids)):∀ t∈kids,∃ par prev next,DT.At w par prev next t:=by
 have key:∀ (l:List DT) (pr:Option Nat),KidsAt w q pr l→∀ t∈l,∃ par prev next,DT.At w par prev next t:=by
  intro l
  induction l with
  |nil=>intro pr _ t ht;cases ht
  |cons u r ih=>
   intro pr hk t ht
   rcases List.mem_cons.1 ht with rfl|ht
   ·exact ⟨_,_,_,hk.1⟩
   ·exact ih _ hk.2 t ht
 exact key kids none h.2
theorem Sink.noOwn {N:Nat} {w:World} {b:Nat} {l:List UInt8} (hs:Sink N w b l) {g:Nat} (hg:w.heap.size≤g):∀ v x y T,w.heap[b]?=some (.cells #[v,x,y] T (0,0))→v.ownBlock≠some g:=by
 intro v x y T h e
 obtain ⟨u,h1,h2,h3⟩:=hs.at_
 have ev:u=v:=by
  rw [h] at h2
  injection h2 with h4
  injection h4 with h4 _ _
  have:=congrArg (fun a:Array Value=>a[0]?) h4
  simpa using this.symm
 subst ev
 rcases h1.2 with ⟨_,rfl⟩|⟨_,g',cap,cur,rfl,_,h5,_⟩
 ·cases e
 ·have:=heap_lt h5
  have e':g'=g:=by simpa [Value.ownBlock] using e
  omega
theorem nodes_of_own {N:Nat} {w w1:World} {b:Nat} {l:List UInt8} (hs:Sink N w b l) (hb:Below w.heap.size w w1) {kids:List DT} {g c:Nat} {cap:Nat} {cur:Array Value} (hg:w.heap.size≤g) (hh:w1.heap[g]?=some (.cells cur 67 (0,0))) (hc:cur.toList.take kids.length=kids.map fun t=>pv (some t.blk)):NodesAt w1 b g kids:=by
 refine ⟨heap_lt hh,fun e=>by have:=hs.lt;omega,?_,fun j hj=>?_⟩
 ·intro v x y T h
  exact hs.noOwn hg v x y T (by rw [← hb.block b hs.lt];exact h)
 ·have h1:(cur.toList.take kids.length)[j]?=some (pv (some kids[j].blk)):=by
   rw [hc,List.getElem?_map,List.getElem?_eq_getElem hj];rfl
  rw [List.getElem?_take] at h1
  split at h1
  ·simp [World.cell?,hh]
   simpa [pv] using h1
  ·exact absurd hj (by assumption)
theorem renderOwn_calls {N X C cm tp bs:Nat} {tab:Nat→Int} {po:PO} {w w1:World} {b:Nat} {l:List UInt8} (kids:List DT) (txts:List (List UInt8)) (hR:Rends (Rend N X C cm tp bs tab po) kids txts) (hx:Cx N w X C cm tp bs tab po) (hs:Sink N w b l) (hlim:l.length+txts.flatten.length≤4000000000000) (hl:kids.length≤1000)
  (hT:∀ t∈kids,t.Lt N∧∃ par prev next,DT.At w par prev next t) {D:Nat} (hb:Below D w w1) (hD:D=w.heap.size) {v:Value} {D2:Nat} (hD2:w.heap.size≤D2) (ho:w1.ownsRow D2 67 1 v kids.length (kids.map fun t=>pv (some t.blk))):
  Calls Tryz.prog 471 #[.pointer (some ⟨C,0,none⟩),.iface 187 (.pointer (some ⟨X,0,none⟩)),.iface 148 (.pointer (some ⟨b,0,none⟩)),v] w1 fun e w'=>e=.returned (.tuple #[])∧Pours w w' b l (l++txts.flatten):=by
 subst hD
 obtain ⟨ho1,ho2⟩:=ho
 rcases ho2 with ⟨rfl,h0⟩|⟨g,cap,cur,rfl,hg,hh,hlc,hcm,hcs,htk⟩
 ·have e1:kids=[]:=List.eq_nil_of_length_eq_zero h0
  subst e1
  cases hR
  refine (renderNone_calls (hs.keep hb) C _ _ 0).mono ?_
  rintro e w2 ⟨rfl,hp⟩
  exact ⟨rfl,by simpa using (Pours.still hs hb).trans hp⟩
 ·have hbN:=hb.mono hx.le
  refine (renderNodes_calls kids txts hR (hx.keep hbN) (hs.keep hb) hlim hl (fun t ht=>⟨(hT t ht).1,by
   obtain ⟨p,q,r,h⟩:=(hT t ht).2
   exact ⟨p,q,r,DT.At.keep hb h⟩⟩) g cap (nodes_of_own hs hb (Nat.le_trans hD2 hg) hh (c:=0) (cap:=0) (by simpa using htk)) hlc).mono ?_
  rintro e w2 ⟨rfl,hp⟩
  exact ⟨rfl,(Pours.still hs hb).trans hp⟩
theorem renderChild_calls {N X C cm tp bs:Nat} {tab:Nat→Int} {po:PO} {w:World} {b:Nat} {l:List UInt8} (q:Nat) (i:NI) (kids:List DT) (txts:List (List UInt8)) (hR:Rends (Rend N X C cm tp bs tab po) kids txts) (hx:Cx N w X C cm tp bs tab po) (hs:Sink N w b l) (hlim:l.length+txts.flatten.length≤4000000000000) (hl:kids.length≤1000)
  {par prev next:Option Nat} (hT:DT.At w par prev next (.node q i kids)) (hlt:(DT.node q i kids).Lt N):
  Calls Tryz.prog 464 #[.pointer (some ⟨X,0,none⟩),.iface 187 (.pointer (some ⟨X,0,none⟩)),.iface 148 (.pointer (some ⟨b,0,none⟩)),.pointer (some ⟨q,0,none⟩)] w fun e w'=>e=.returned (.tuple #[])∧Pours w w' b l (l++txts.flatten):=by
 have c1:=hx.now.conv
 have HR:=am hR
 have HX:=am hx
 have HS:=am hs
 have HL:=am hlim
 have HL1:=am hl
 have HT:=am hT
 have HLT:=am hlt
 clear hR hx hs hlim hT hl hlt
 go_enter Tryz.func464,Tryz.ntmps464
 have mixed:Tryz.prog.follows .mixedOrders=true:=by kernel_rfl
 have hdr:Below w.heap.size w w.drew:=below_drew (Below.refl _ w)
 have c1d:w.drew.cell? ⟨X,1,none⟩=some (.pointer (some ⟨C,0,none⟩)):=cell_keep hdr c1
 have HDR:=am hdr
 clear hdr
 go_wp2
 have HKT:=am (show ∀ t∈kids,t.Lt N∧∃ par prev next,DT.At w par prev next t from fun t ht=>⟨HLT.out.2.mem t ht,HT.out.kid t ht⟩)
 go_region_with_o (
  first
   |go_at_call 264
    refine (allChildNodes_calls w.drew q i kids par prev next (DT.At.keep HDR.out HT.out) HL1.out).mono ?_
    rintro e w1 ⟨v,rfl,ho,hb⟩
    have HB:=am (HDR.out.trans hb)
    have HO:=am ho
    have c1':=cell_keep hb c1d
    clear hb ho
   |go_at_call 471
    refine (renderOwn_calls kids txts HR.out HX.out HS.out HL.out HL1.out HKT.out HB.out rfl (Nat.le_refl _) HO.out).mono ?_
    rintro e w2 ⟨rfl,hp⟩
    have HP:=am hp
    clear hp)
 all_goals
  go_wp2
  go_end0
  exact ⟨rfl,HP.out⟩
theorem cmRender_calls (w:World) (q:Nat) (i:NI) (kids:List DT) (par prev next:Option Nat) (h:DT.At w par prev next (.node q i kids)) (hp:i.Plain) (v0 v1 v2:Value):
  Calls Tryz.prog 204 #[v0,v1,v2,.pointer (some ⟨q,0,none⟩)] w fun e w'=>e=.returned (.int .i64 0)∧w'=w:=by
 have CN:=am (name_calls w q i kids par prev next h hp)
 have HN:=am hp.cases
 clear h hp
 go_enter Tryz.func204,Tryz.ntmps204
 go_wp2_with (go_at_call 72;fail)
 refine CN.out.mono ?_
 rintro e w1 ⟨rfl,hw⟩
 rw [hw]
 clear hw CN
 rcases HN.out with e|e|e|e|e|e|e|e|e <;> rw [e] <;> clear HN e <;> go_wp2 <;> go_ret <;> exact ⟨rfl,rfl⟩
theorem tpNext_calls (w:World) (q:Nat) (i:NI) (kids:List DT) (par prev next:Option Nat) (h:DT.At w par prev next (.node q i kids)) (hp:i.Plain) (h1:i.nm≠nTable) (h2:i.nm≠nTr) (v0 v1 v2:Value):
  Calls Tryz.prog 403 #[v0,v1,v2,.pointer (some ⟨q,0,none⟩)] w fun e w'=>e=.returned (.int .i64 0)∧w'=w:=by
 have CN:=am (name_calls w q i kids par prev next h hp)
 have HN:=am hp.cases
 have H1:=am h1
 have H2:=am h2
 clear h hp h1 h2
 go_enter Tryz.func403,Tryz.ntmps403
 go_wp2_with (go_at_call 72;fail)
 refine CN.out.mono ?_
 rintro e w1 ⟨rfl,hw⟩
 rw [hw]
 clear hw CN
 rcases HN.out with e|e|e|e|e|e|e|e|e
 case inr.inr.inl=>exact absurd e H1.out
 case inr.inr.inr.inr.inr.inr.inl=>exact absurd e H2.out
 all_goals
  rw [e]
  clear HN H1 H2 e
  go_wp2
  go_ret
  exact ⟨rfl,rfl⟩
theorem fallRow_calls {N X C cm tp bs:Nat} {tab:Nat→Int} {po:PO} {w:World} {b:Nat} {l:List UInt8} (q:Nat) (i:NI) (kids:List DT) (txts:List (List UInt8)) (hR:Rends (Rend N X C cm tp bs tab po) kids txts) (hx:Cx N w X C cm tp bs tab po) (hs:Sink N w b l) (hlim:l.length+(4+txts.flatten.length)≤4000000000000) (hl:kids.length≤1000)
  {par prev next:Option Nat} (hT:DT.At w par prev next (.node q i kids)) (hlt:(DT.node q i kids).Lt N) (v0:Value):
  Calls Tryz.prog 405 #[v0,.iface 187 (.pointer (some ⟨X,0,none⟩)),.iface 148 (.pointer (some ⟨b,0,none⟩)),.pointer (some ⟨q,0,none⟩)] w fun e w'=>e=.returned (.int .i64 1)∧Pours w w' b l (l++([10,10]++txts.flatten++[10,10])):=by
 have HR:=am hR
 have HX:=am hx
 have HS:=am hs
 have HL:=am hlim
 have HL1:=am hl
 have HT:=am hT
 have HLT:=am hlt
 have hws:=method_ws (some ⟨b,0,none⟩)
 clear hR hx hs hlim hT hl hlt
 go_enter Tryz.func405,Tryz.ntmps405
 go_wp2_with (go_at_call 335;fail)
 refine (sink_string HS.out ⟨#[10,10]⟩ (by decide) (by have:=HL.out;show _+2≤_;omega)).mono ?_
 rintro e w1 ⟨rfl,hp⟩
 have HP1:=am hp
 have HB1:=am (hp.below HS.out)
 clear hp
 go_wp2_with (go_at_call 464;fail)
 refine (renderChild_calls q i kids txts HR.out (HX.out.keep HB1.out) (HP1.out.sink HS.out) (by have:=HL.out;simp only [List.length_append];show _+2+_≤_;omega) HL1.out (DT.At.keepN HB1.out HLT.out HT.out) HLT.out).mono ?_
 rintro e w2 ⟨rfl,hp⟩
 have HP2:=am (HP1.out.trans hp)
 clear hp
 go_wp2_with (go_at_call 335;fail)
 refine (sink_string (HP2.out.sink HS.out) ⟨#[10,10]⟩ (by decide) (by have:=HL.out;simp only [List.length_append];show _+2+_+2≤_;omega)).mono ?_
 rintro e w3 ⟨rfl,hp⟩
 have HP3:=am (HP2.out.trans hp)
 clear hp
 go_wp2
 go_ret
 refine ⟨rfl,?_⟩
 have:=HP3.out
 rw [List.append_assoc,List.append_assoc] at this
 exact this
theorem tpRow_calls {w:World} (q:Nat) (i:NI) (kids:List DT) (hnm:i.nm=nTr) (hp:i.Plain) {par prev next:Option Nat} (hT:DT.At w par prev next (.node q i kids)) (v0 v1 v2:Value) (R:Ending→World→Prop)
  (h:Calls Tryz.prog 405 #[v0,v1,v2,.pointer (some ⟨q,0,none⟩)] w fun e w'=>e=.returned (.int .i64 1)∧R e w'):
  Calls Tryz.prog 403 #[v0,v1,v2,.pointer (some ⟨q,0,none⟩)] w fun e w'=>e=.returned (.int .i64 1)∧R e w':=by
 have CN:=am (name_calls w q i kids par prev next hT hp)
 have HF:=am h
 clear hT hp h
 rw [hnm] at CN
 have hnm':nTr=⟨#[116,114]⟩:=rfl
 rw [hnm'] at CN
 clear hnm hnm'
 go_enter Tryz.func403,Tryz.ntmps403
 go_wp2_with (go_at_call 72;fail)
 refine CN.out.mono ?_
 rintro e w1 ⟨rfl,hw⟩
 rw [hw]
 clear hw CN
 go_wp2_with (go_at_call 405;fail)
 refine HF.out.mono ?_
 rintro e w1 ⟨rfl,hr⟩
 have HRR:=am hr
 clear hr
 go_wp2
 go_ret
 exact ⟨rfl,HRR.out⟩
def wrapT (nm:ByteArray) (x:List UInt8):List UInt8:=if nm=nTable then [10]++[10]++x++[10]++[10] else x
theorem fallback_calls {N X C cm tp bs:Nat} {tab:Nat→Int} {po:PO} {w:World} {b:Nat} {l:List UInt8} (q:Nat) (i:NI) (kids:List DT) (hpl:i.Plain) (hnt:i.nm≠nText) (txts:List (List UInt8)) (hR:Rends (Rend N X C cm tp bs tab po) kids txts) (hx:Cx N w X C cm tp bs tab po) (hs:Sink N w b l) (hlim:l.length+(wrapT i.nm txts.flatten).length≤4000000000000) (hl:kids.length≤1000)
  {par prev next:Option Nat} (hT:DT.At w par prev next (.node q i kids)) (hlt:(DT.node q i kids).Lt N) (v0:Value):
  Calls Tryz.prog 74 #[v0,.iface 187 (.pointer (some ⟨X,0,none⟩)),.iface 148 (.pointer (some ⟨b,0,none⟩)),.pointer (some ⟨q,0,none⟩)] w fun e w'=>e=.returned (.int .i64 1)∧Pours w w' b l (l++wrapT i.nm txts.flatten):=by
 have CN:=am (name_calls w q i kids par prev next hT hpl)
 have CT:=am (ctxTagType_calls N w X C i hpl hx.now.conv hx.tags)
 have HR:=am hR
 have HX:=am hx
 have HS:=am hs
 have HL:=am hlim
 have HL1:=am hl
 have HT:=am hT
 have HLT:=am hlt
 have hwr:=method_wr (some ⟨b,0,none⟩)
 clear hR hx hs hlim hT hl hlt hpl
 by_cases ht:i.nm=nTable
 ·have e1:tagOf i.nm=.tuple #[.string ⟨#[98,108,111,99,107]⟩,.bool true]:=by rw [tagOf,if_pos ht]
  have e2:wrapT i.nm txts.flatten=[10]++[10]++txts.flatten++[10]++[10]:=by rw [wrapT,if_pos ht]
  have HL:=am (show l.length+(4+txts.flatten.length)≤4000000000000 by
   have:=HL.out
   rw [e2] at this
   simp only [List.length_append,List.length_cons,List.length_nil] at this
   omega)
  rw [e2]
  rw [e1] at CT
  clear e1 e2 hnt ht
  go_enter Tryz.func74,Tryz.ntmps74
  go_wp2_with (go_at_call 72;fail)
  refine CN.out.mono ?_
  rintro e w1 ⟨rfl,hw⟩
  rw [hw]
  clear hw CN
  go_wp2_with (go_at_call 463;fail)
  refine CT.out.mono ?_
  rintro e w1 ⟨rfl,hw⟩
  rw [hw]
  clear hw CT
  go_wp2_with (go_at_call 326;fail)
  refine (sink_rune HS.out 10 (by decide) (by have:=HL.out;omega)).mono ?_
  rintro e w1 ⟨rfl,hp⟩
  have HP1:=am hp
  clear hp
  go_wp2_with (go_at_call 326;fail)
  refine (sink_rune (HP1.out.sink HS.out) 10 (by decide) (by have:=HL.out;simp only [List.length_append,List.length_cons,List.length_nil];omega)).mono ?_
  rintro e w2 ⟨rfl,hp⟩
  have HP2:=am (HP1.out.trans hp)
  have HB2:=am ((HP1.out.trans hp).below HS.out)
  clear hp
  go_wp2_with (go_at_call 464;fail)
  refine (renderChild_calls q i kids txts HR.out (HX.out.keep HB2.out) (HP2.out.sink HS.out) (by have:=HL.out;simp only [List.length_append,List.length_cons,List.length_nil];omega) HL1.out (DT.At.keepN HB2.out HLT.out HT.out) HLT.out).mono ?_
  rintro e w3 ⟨rfl,hp⟩
  have HP3:=am (HP2.out.trans hp)
  clear hp
  go_wp2_with (go_at_call 326;fail)
  refine (sink_rune (HP3.out.sink HS.out) 10 (by decide) (by have:=HL.out;simp only [List.length_append,List.length_cons,List.length_nil];omega)).mono ?_
  rintro e w4 ⟨rfl,hp⟩
  have HP4:=am (HP3.out.trans hp)
  clear hp
  go_wp2_with (go_at_call 326;fail)
  refine (sink_rune (HP4.out.sink HS.out) 10 (by decide) (by have:=HL.out;simp only [List.length_append,List.length_cons,List.length_nil];omega)).mono ?_
  rintro e w5 ⟨rfl,hp⟩
  have HP5:=am (HP4.out.trans hp)
  clear hp
  go_wp2
  go_ret
  refine ⟨rfl,?_⟩
  have:=HP5.out
  simpa only [List.append_assoc,List.cons_append,List.nil_append] using this
 ·have e1:tagOf i.nm=.tuple #[.string ⟨#[]⟩,.bool false]:=by rw [tagOf,if_neg ht,if_neg hnt]
  have e2:wrapT i.nm txts.flatten=txts.flatten:=by rw [wrapT,if_neg ht]
  have HL:=am (show l.length+txts.flatten.length≤4000000000000 by
   have:=HL.out
   rwa [e2] at this)
  rw [e2]
  rw [e1] at CT
  clear e1 e2 hnt ht
  go_enter Tryz.func74,Tryz.ntmps74
  go_wp2_with (go_at_call 72;fail)
  refine CN.out.mono ?_
  rintro e w1 ⟨rfl,hw⟩
  rw [hw]
  clear hw CN
  go_wp2_with (go_at_call 463;fail)
  refine CT.out.mono ?_
  rintro e w1 ⟨rfl,hw⟩
  rw [hw]
  clear hw CT
  go_wp2_with (go_at_call 464;fail)
  refine (renderChild_calls q i kids txts HR.out HX.out HS.out (by have:=HL.out;omega) HL1.out HT.out HLT.out).mono ?_
  rintro e w3 ⟨rfl,hp⟩
  have HP3:=am hp
  clear hp
  go_wp2
  go_ret
  exact ⟨rfl,HP3.out⟩
def TpDoes (N X C cm tp bs:Nat) (tab:Nat→Int) (po:PO) (q:Nat) (i:NI) (kids:List DT) (s:Int) (txt:List UInt8):Prop:=∀ (w:World) (b:Nat) (l:List UInt8) (par prev next:Option Nat),Cx N w X C cm tp bs tab po→Sink N w b l→DT.At w par prev next (.node q i kids)→l.length+txt.length≤4000000000000 →
 Calls Tryz.prog 403 #[.pointer (some ⟨tp,0,none⟩),.iface 187 (.pointer (some ⟨X,0,none⟩)),.iface 148 (.pointer (some ⟨b,0,none⟩)),.pointer (some ⟨q,0,none⟩)] w fun e w'=>e=.returned (.int .i64 s)∧Pours w w' b l (l++txt)
def FallDoes (N X C cm tp bs:Nat) (tab:Nat→Int) (po:PO) (q:Nat) (i:NI) (kids:List DT) (txt:List UInt8):Prop:=∀ (w:World) (b:Nat) (l:List UInt8) (par prev next:Option Nat),Cx N w X C cm tp bs tab po→Sink N w b l→DT.At w par prev next (.node q i kids)→l.length+txt.length≤4000000000000 →
 Calls Tryz.prog 74 #[.pointer (some ⟨C,0,none⟩),.iface 187 (.pointer (some ⟨X,0,none⟩)),.iface 148 (.pointer (some ⟨b,0,none⟩)),.pointer (some ⟨q,0,none⟩)] w fun e w'=>e=.returned (.int .i64 1)∧Pours w w' b l (l++txt)
theorem rend_elem {N X C cm tp bs:Nat} {tab:Nat→Int} {po:PO} (q:Nat) (i:NI) (kids:List DT) (hpl:i.Plain) (hnt:i.nm≠nText) (hlt:(DT.node q i kids).Lt N) (txt:List UInt8) (s:Bool) (h1:TpDoes N X C cm tp bs tab po q i kids (if s then 1 else 0) (if s then txt else [])) (h2:s=false→FallDoes N X C cm tp bs tab po q i kids txt):
  Rend N X C cm tp bs tab po (.node q i kids) txt:=by
 intro w b l par prev next hx hs hT hlim
 have CN:=am (name_calls w q i kids par prev next hT hpl)
 have hnt':(i.nm.toList==[35,116,101,120,116])=false:=by
  rw [beq_eq_false_iff_ne]
  intro e
  rw [ByteArray.toList_eq] at e
  exact hnt (Vx.ba_ext (e.trans rfl))
 have CG:=am (getRenderHandlers_calls w C cm tp hx.now.core.render)
 have HX:=am hx
 have HS:=am hs
 have HL:=am hlim
 have HT:=am hT
 have HLT:=am hlt
 have HPL:=am hpl
 have H1:=am h1
 have H2:=am h2
 clear hx hs hT hlim hlt hpl h1 h2 hnt
 show Calls Tryz.prog 53 #[.pointer (some ⟨C,0,none⟩),.iface 187 (.pointer (some ⟨X,0,none⟩)),.iface 148 (.pointer (some ⟨b,0,none⟩)),.pointer (some ⟨q,0,none⟩)] w _
 go_enter Tryz.func53,Tryz.ntmps53
 go_wp2_with (go_at_call 72;fail)
 refine CN.out.mono ?_
 rintro e w1 ⟨rfl,hw⟩
 rw [hw]
 clear hw CN
 go_wp2_with (go_at_call 43;fail)
 refine CG.out.mono ?_
 rintro e w1 ⟨g,rfl,hb,hg⟩
 have HB:=am hb
 have HG:=am hg
 clear hb hg CG
 go_wp2
 go_loopg [25] 2 (fun gf v25 wx=>∃ (k:Nat),v25=.int .i64 (k:Int)∧Aside0 (k≤2∧2 - k=gf)∧Aside0 (Pours w wx b l l)∧Aside0 (k≤1→Below w.heap.size w wx∧wx.heap[g]?=some (.cells (hcells (Vx.mkRen cm tp)).toArray 194 (0,0)))∧Aside0 (k=2→s=false))
 case atStart=>exact ⟨0,rfl,⟨by omega⟩,⟨Pours.still HS.out HB.out⟩,⟨fun _=>⟨HB.out,HG.out⟩⟩,⟨by omega⟩⟩
 case round=>
  obtain ⟨k,rfl,HP,HW,HK,HF⟩:=hrel
  obtain rfl|rfl|rfl:k=0∨k=1∨k=2:=by have:=HP.out;omega
  ·obtain ⟨hb0,hg0⟩:=HK.out (by omega)
   have HB0:=am hb0
   have HG0:=am hg0
   clear hb0 hg0
   have g0:wr.cell? ⟨g,0,none⟩=some (.func (.func 204) #[.pointer (some ⟨cm,0,none⟩)] #[]):=(Vx.row_cell HG0.out 0).trans rfl
   have g1:wr.cell? ⟨g,1,none⟩=some (.int .i64 500):=(Vx.row_cell HG0.out 1).trans rfl
   have CM:=am (cmRender_calls (wr.alloc (.cells #[.func (.func 204) #[.pointer (some ⟨cm,0,none⟩)] #[],.int .i64 500] 194)) q i kids par prev next (DT.At.keep ((Below.refl wr.heap.size wr).alloc (Nat.le_refl _) _) (DT.At.keep HB0.out HT.out)) HPL.out)
   go_wp2_with (go_at_call 204;fail)
   refine (CM.out _ _ _).mono ?_
   rintro e w2 ⟨rfl,hw⟩
   rw [hw]
   clear hw g0 g1 CM
   go_wp2
   go_roundg 1
   case measure=>have:=HP.out;omega
   case rel=>
    have hb2:=HB0.out.trans (((Below.refl wr.heap.size wr).alloc (Nat.le_refl _) (.cells #[.func (.func 204) #[.pointer (some ⟨cm,0,none⟩)] #[],.int .i64 500] 194)).mono HB0.out.size)
    exact ⟨1,rfl,⟨by omega⟩,⟨Pours.still HS.out hb2⟩,⟨fun _=>⟨hb2,by rw [Below.heap_alloc _ _ _ (by have:=heap_lt HG0.out;omega)];exact HG0.out⟩⟩,⟨by omega⟩⟩
  ·obtain ⟨hb0,hg0⟩:=HK.out (by omega)
   have HB0:=am hb0
   have HG0:=am hg0
   clear hb0 hg0
   have g2:wr.cell? ⟨g,2,none⟩=some (.func (.func 403) #[.pointer (some ⟨tp,0,none⟩)] #[]):=(Vx.row_cell HG0.out 2).trans rfl
   have g3:wr.cell? ⟨g,3,none⟩=some (.int .i64 500):=(Vx.row_cell HG0.out 3).trans rfl
   have HB2:=am (HB0.out.trans (((Below.refl wr.heap.size wr).alloc (Nat.le_refl _) (.cells #[.func (.func 403) #[.pointer (some ⟨tp,0,none⟩)] #[],.int .i64 500] 194)).mono HB0.out.size))
   have CM:=am (H1.out _ b l par prev next (HX.out.keep (HB2.out.mono HX.out.le)) (HS.out.keep HB2.out) (DT.At.keep HB2.out HT.out) (by cases s with|true=>exact HL.out|false=>(have:=HL.out;show _+0≤_;omega)))
   go_wp2_with (go_at_call 403;fail)
   refine CM.out.mono ?_
   rintro e w2 ⟨rfl,hp⟩
   have HP2:=am ((Pours.still HS.out HB2.out).trans hp)
   clear hp g2 g3 CM
   cases s with
   |true=>
    simp only [if_true] at HP2
    go_wp2
    go_ret
    exact ⟨⟨_,rfl⟩,HP2.out⟩
   |false=>
    simp only [Bool.false_eq_true,if_false,List.append_nil] at HP2
    go_wp2
    go_roundg 0
    case measure=>have:=HP.out;omega
    case rel=>exact ⟨2,rfl,⟨by omega⟩,HP2,⟨by omega⟩,⟨fun _=>by first|rfl|trivial⟩⟩
  ·have hs:=HF.out rfl
   subst hs
   have hb:=HW.out.below HS.out
   have CF:=am (H2.out rfl wr b l par prev next (HX.out.keep hb) (HW.out.sink HS.out) (DT.At.keepN hb HLT.out HT.out) HL.out)
   clear hb
   go_wp2_with (go_at_call 74;fail)
   refine CF.out.mono ?_
   rintro e w2 ⟨rfl,hp⟩
   have HP2:=am (HW.out.trans hp)
   clear hp
   go_wp2
   go_ret
   exact ⟨⟨_,rfl⟩,HP2.out⟩
end Go.Proofs.YtbheflncgmhadaaGreat.Hand
namespace Go.Proofs.YtbheflncgmhadaaGreat.Hand
open Go.RowKit Go.Proofs.YtbheflncgmhadaaGreatW.PrintWords Go.Proofs.YtbheflncgmhadaaGreatW.PrintLast Go.Proofs.YtbheflncgmhadaaGreatW.PrintMore
theorem fallDoes {N X C cm tp bs:Nat} {tab:Nat→Int} {po:PO} (q:Nat) (i:NI) (kids:List DT) (hpl:i.Plain) (hnt:i.nm≠nText) (hlt:(DT.node q i kids).Lt N) (txts:List (List UInt8)) (hR:Rends (Rend N X C cm tp bs tab po) kids txts) (hl:kids.length≤1000):
 FallDoes N X C cm tp bs tab po q i kids (wrapT i.nm txts.flatten):=fun w b l par prev next hx hs hT hlim=>fallback_calls q i kids hpl hnt txts hR hx hs hlim hl hT hlt _
theorem rend_plain {N X C cm tp bs:Nat} {tab:Nat→Int} {po:PO} (q:Nat) (i:NI) (kids:List DT) (hpl:i.Plain) (hnt:i.nm≠nText) (h1:i.nm≠nTable) (h2:i.nm≠nTr) (hlt:(DT.node q i kids).Lt N) (txts:List (List UInt8)) (hR:Rends (Rend N X C cm tp bs tab po) kids txts) (hl:kids.length≤1000):
  Rend N X C cm tp bs tab po (.node q i kids) txts.flatten:=by
 refine rend_elem q i kids hpl hnt hlt _ false (fun w b l par prev next hx hs hT hlim=>?_) (fun _=>?_)
 ·refine (tpNext_calls w q i kids par prev next hT hpl h1 h2 _ _ _).mono ?_
  rintro e w' ⟨rfl,rfl⟩
  exact ⟨rfl,by simpa using Pours.refl hs⟩
 ·have:=fallDoes q i kids hpl hnt hlt txts hR hl
  rwa [wrapT,if_neg h1] at this
theorem rend_row {N X C cm tp bs:Nat} {tab:Nat→Int} {po:PO} (q:Nat) (i:NI) (kids:List DT) (hpl:i.Plain) (hnm:i.nm=nTr) (hlt:(DT.node q i kids).Lt N) (txts:List (List UInt8)) (hR:Rends (Rend N X C cm tp bs tab po) kids txts) (hl:kids.length≤1000):
  Rend N X C cm tp bs tab po (.node q i kids) ([10,10]++txts.flatten++[10,10]):=by
 refine rend_elem q i kids hpl (by rw [hnm];decide) hlt _ true (fun w b l par prev next hx hs hT hlim=>?_) (fun h=>by cases h)
 refine tpRow_calls q i kids hnm hpl hT _ _ _ (fun _ w'=>Pours w w' b l (l++([10,10]++txts.flatten++[10,10]))) ?_
 exact fallRow_calls q i kids txts hR hx hs (by
  simp only [if_true,List.length_append,List.length_cons,List.length_nil] at hlim ⊢
  omega) hl hT hlt _
end Go.Proofs.YtbheflncgmhadaaGreat.Hand
