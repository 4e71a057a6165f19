/- The statement of laws.FnTableGroups, for every input. Conditions: none. -/
import Derived.Test.YtbheflncgmhadaaGreatXy
import Derived.Test.YtbheflncgmhadaaGreatXz
import Derived.Test.YtbheflncgmhadaaGreatRows
import Derived.Test.YtbheflncgmhadaaGreatFnFacts
import Derived.ProofKit
import Derived.HandedShaped
import Derived.Carry
import Derived.OpenShut
set_option linter.unusedVariables false
set_option linter.unusedSimpArgs false
set_option maxHeartbeats 40000000
set_option maxRecDepth 100000
namespace Go.Proofs.YtbheflncgmhadaaGreat
open Go.ChangeShapes Go.WideShapes Go.ChangeAt Go.RowKit Go.Lib Go.Shelf
open Go.ChangeMaps (open_string shut_string)
open Go.Proofs.YtbheflncgmhadaaGreat.Hand
theorem own:ownKnob Tryz.prog.godebug=none:=by kernel_rfl
theorem laidOut:laidOutB Tryz.prog=true:=by kernel_rfl
theorem lifted (os:Os) (started:os.Started) (H:Type) (enc:TypeId×Value→H):
  ReturnsInHanded {} Tryz.checked os 3 .any (Rows.fnTableGroupsSpec.pre6 enc Tryz.prog Tryz.f3 [] false)
   (Rows.fnTableGroupsSpec.post enc Tryz.prog Tryz.f3 false true false false):=by
 refine returnsInHanded_of_change_shaped (C:=Tryz.checked) own started (by kernel_rfl) Tryz.func3
  (ChangeSpec.witness6 (enc:=enc) (C:=Tryz.checked) false ⟨#[],#[.slice none 0 0,.int .i64 0,.agg #[.int .i64 0,.bool false,.bool false,.bool false,.bool false,.bool false]],[]⟩ 8 (by kernel_rfl) (by kernel_rfl) (by kernel_rfl) (by kernel_rfl)) ?_
 intro W base args ds gs before hval0 hW _ _ hsh _
 have hval:∀ (j:Nat) t v,Tryz.f3.params[j]?=some t→args[j]?=some v→Value.okWide Tryz.prog W .any base t v:=hval0
 have hW':=hW
 obtain ⟨p,q,hA0,hV,rfl,_,_⟩:=hW
 have hA:DataW.TrodAll enc Tryz.prog W 0 (fun _=>true) true Tryz.f3.params.toList args.toList ds p:=hA0
 rw [Tryz.params3] at hA hval
 obtain ⟨v0,v1,v2,d0,d1,d2,p0,p1,p2,rfl,rfl,rfl,h0,h1,h2⟩:=trodAll_three hA
 obtain ⟨rfl,rfl⟩:=trodVars_none hV
 have k0:=h0
 have k1:=h1
 have k2:=h2
 have lt0:∀ x∈p0,x.block < W.heap.size:=by obtain ⟨m,hm⟩:=k0;exact DataW.trod_lt m _ _ _ hm
 have lt1:∀ x∈p1,x.block < W.heap.size:=by obtain ⟨m,hm⟩:=k1;exact DataW.trod_lt m _ _ _ hm
 have lt2:∀ x∈p2,x.block < W.heap.size:=by obtain ⟨m,hm⟩:=k2;exact DataW.trod_lt m _ _ _ hm
 obtain ⟨a0,len0,cap0,rfl⟩:=okWide_slice Tryz.underlying22 (hval 0 22 v0 rfl rfl)
 obtain ⟨A,c,l,hv0,hl,hC⟩:=open_rows rfl h0
 injection hv0 with e1 e2 e3
 subst e1
 subst e2
 subst e3
 obtain ⟨feet,rfl,rfl,rfl,_⟩:=open_int Tryz.underlying3 (hval 1 3 v1 rfl rfl) h1
 obtain ⟨pd,kp,mi,pr,sk,ps,rfl⟩:=open_opts (hval 2 24 v2 rfl rfl) h2
 obtain ⟨tab,hT⟩:=space_any W hsh
 refine (law_calls W a0 cap0 l hC hl feet pd kp mi pr sk ps tab hT).mono fun e W' ⟨he,bel⟩=>?_
 subst he
 exact ⟨_,rfl,_,_,_,[],_,[],hW',trodAll_mk1 (shut_bool Tryz.underlying4 _),trodAll_cons_mk (Below.trod laidOut (by kernel_rfl) (of_decide_eq_true (by kernel_rfl)) k0 bel lt0) (trodAll_cons_mk (Below.trod laidOut (by kernel_rfl) (of_decide_eq_true (by kernel_rfl)) k1 bel lt1) (trodAll_cons_mk (Below.trod laidOut (by kernel_rfl) (of_decide_eq_true (by kernel_rfl)) k2 bel lt2) trodAll_mk0)),rfl,bel.frame _,fun h=>by cases h⟩
theorem fnTableGroups_holds:Rows.FnTableGroupsSaid:=
 OpenClaim.holds_of_wide 3 Tryz.f3 rfl rfl rfl rfl rfl rfl rfl ⟨rfl,rfl,rfl,rfl,rfl⟩ rfl rfl rfl rfl rfl (by kernel_rfl) Tryz.func3 fnTableGroups_closed
  (of_decide_eq_true (by kernel_rfl)) (by unfold Func.isWrapper;first|(rw [if_pos (by decide +kernel)];kernel_rfl)|(rw [if_neg (by decide +kernel)];exact ⟨rfl,rfl⟩))
  (fun os started H enc _=>lifted os started H enc)
end Go.Proofs.YtbheflncgmhadaaGreat
