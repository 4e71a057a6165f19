/- The options of the plugin of tables. Conditions: those in each statement. -/
import Derived.Test.YtbheflncgmhadaaGreatXl
import Derived.Deep.RegionHeld3
set_option linter.unusedVariables false
set_option linter.unusedSimpArgs false
set_option maxHeartbeats 40000000
set_option maxRecDepth 100000
namespace Go.Proofs.YtbheflncgmhadaaGreat.Hand
open Go.RowKit Go.Proofs.YtbheflncgmhadaaGreatW.PrintWords Go.Proofs.YtbheflncgmhadaaGreatW.PrintLast Go.Proofs.YtbheflncgmhadaaGreatW.PrintMore
attribute [local go_sem] run_store_func'
abbrev tpObj (sp nl:ByteArray) (sk pr ps:Bool) (pd:ByteArray):Obj:=.cells #[.nilIface,.string sp,.string nl,.bool sk,.bool pr,.bool ps,.string pd] 168 (0,0)
def bEmpty:ByteArray:=⟨#[]⟩
def bAligned:ByteArray:=⟨#[97,108,105,103,110,101,100]⟩
def bMinimal:ByteArray:=⟨#[109,105,110,105,109,97,108]⟩
def bNone:ByteArray:=⟨#[110,111,110,101]⟩
def bPreserve:ByteArray:=⟨#[112,114,101,115,101,114,118,101]⟩
def bMirror:ByteArray:=⟨#[109,105,114,114,111,114]⟩
theorem withPad_calls (w:World) (s:ByteArray):
  Calls Tryz.prog 32 #[.string s] w fun e w'=>e=.returned (.func (.func 59) #[] #[.pointer (some ⟨w.heap.size,0,none⟩)])∧w'=w.alloc (.cells #[.string s] 84):=by
 have hmf:∀ (fn:Fn) (first cap:Array Value) (w:World),(Instr.makeFunc fn first cap).run Tryz.prog w=.ok (.func fn first cap) w:=fun _ _ _ _=>rfl
 go_enter Tryz.func32,Tryz.ntmps32
 go_wp2
 go_ret
 exact ⟨rfl,rfl⟩
theorem withLines_calls (w:World) (s:ByteArray):
  Calls Tryz.prog 33 #[.string s] w fun e w'=>e=.returned (.func (.func 60) #[] #[.pointer (some ⟨w.heap.size,0,none⟩)])∧w'=w.alloc (.cells #[.string s] 85):=by
 have hmf:∀ (fn:Fn) (first cap:Array Value) (w:World),(Instr.makeFunc fn first cap).run Tryz.prog w=.ok (.func fn first cap) w:=fun _ _ _ _=>rfl
 go_enter Tryz.func33,Tryz.ntmps33
 go_wp2
 go_ret
 exact ⟨rfl,rfl⟩
theorem withSpan_calls (w:World) (s:ByteArray):
  Calls Tryz.prog 34 #[.string s] w fun e w'=>e=.returned (.func (.func 61) #[] #[.pointer (some ⟨w.heap.size,0,none⟩)])∧w'=w.alloc (.cells #[.string s] 86):=by
 have hmf:∀ (fn:Fn) (first cap:Array Value) (w:World),(Instr.makeFunc fn first cap).run Tryz.prog w=.ok (.func fn first cap) w:=fun _ _ _ _=>rfl
 go_enter Tryz.func34,Tryz.ntmps34
 go_wp2
 go_ret
 exact ⟨rfl,rfl⟩
theorem withPromote_calls (w:World) (s:Bool):
  Calls Tryz.prog 35 #[.bool s] w fun e w'=>e=.returned (.func (.func 62) #[] #[.pointer (some ⟨w.heap.size,0,none⟩)])∧w'=w.alloc (.cells #[.bool s] 4):=by
 have hmf:∀ (fn:Fn) (first cap:Array Value) (w:World),(Instr.makeFunc fn first cap).run Tryz.prog w=.ok (.func fn first cap) w:=fun _ _ _ _=>rfl
 go_enter Tryz.func35,Tryz.ntmps35
 go_wp2
 go_ret
 exact ⟨rfl,rfl⟩
theorem withSkip_calls (w:World) (s:Bool):
  Calls Tryz.prog 36 #[.bool s] w fun e w'=>e=.returned (.func (.func 63) #[] #[.pointer (some ⟨w.heap.size,0,none⟩)])∧w'=w.alloc (.cells #[.bool s] 4):=by
 have hmf:∀ (fn:Fn) (first cap:Array Value) (w:World),(Instr.makeFunc fn first cap).run Tryz.prog w=.ok (.func fn first cap) w:=fun _ _ _ _=>rfl
 go_enter Tryz.func36,Tryz.ntmps36
 go_wp2
 go_ret
 exact ⟨rfl,rfl⟩
theorem withPres_calls (w:World) (s:Bool):
  Calls Tryz.prog 37 #[.bool s] w fun e w'=>e=.returned (.func (.func 64) #[] #[.pointer (some ⟨w.heap.size,0,none⟩)])∧w'=w.alloc (.cells #[.bool s] 4):=by
 have hmf:∀ (fn:Fn) (first cap:Array Value) (w:World),(Instr.makeFunc fn first cap).run Tryz.prog w=.ok (.func fn first cap) w:=fun _ _ _ _=>rfl
 go_enter Tryz.func37,Tryz.ntmps37
 go_wp2
 go_ret
 exact ⟨rfl,rfl⟩
theorem pad1_bEmpty (w:World) (tp box:Nat) (sp nl:ByteArray) (sk pr ps:Bool) (pd:ByteArray)  (h:w.heap[tp]?=some (tpObj sp nl sk pr ps pd)) (hb:w.cell? ⟨box,0,none⟩=some (.string ⟨#[]⟩)):
  Calls Tryz.prog 59 #[.pointer (some ⟨tp,0,none⟩),.pointer (some ⟨box,0,none⟩)] w fun e w'=>e=.returned .nilIface∧w'.heap[tp]?=some (tpObj sp nl sk pr ps ⟨#[97,108,105,103,110,101,100]⟩)∧OnlyIn w w' (fun k=>k=tp):=by
 have HH:=am h
 have HF:=am (show ∀ j:Nat,w.frozen? ⟨tp,j,none⟩=false from fun j=>by simp [World.frozen?,h])
 have z1:=HF.out 1
 have z2:=HF.out 2
 have z3:=HF.out 3
 have z4:=HF.out 4
 have z5:=HF.out 5
 have z6:=HF.out 6
 have k1:w.cell? ⟨tp,1,none⟩=some (.string sp):=by simp [World.cell?,h]
 have k2:w.cell? ⟨tp,2,none⟩=some (.string nl):=by simp [World.cell?,h]
 have k3:w.cell? ⟨tp,3,none⟩=some (.bool sk):=by simp [World.cell?,h]
 have k4:w.cell? ⟨tp,4,none⟩=some (.bool pr):=by simp [World.cell?,h]
 have k5:w.cell? ⟨tp,5,none⟩=some (.bool ps):=by simp [World.cell?,h]
 have k6:w.cell? ⟨tp,6,none⟩=some (.string pd):=by simp [World.cell?,h]
 clear h
 go_enter Tryz.func59,Tryz.ntmps59
 go_wp2
 go_ret
 refine ⟨rfl,?_,OnlyIn.setCell (S:=fun k=>k=tp) (OnlyIn.refl _ _) (b:=tp) (j:=6) rfl _⟩
 rw [setCell_eq_setRow w tp 6 _ _ _ _ HH.out]
 exact setRow_heap w tp _ _ _ (0,0) HH.out
theorem pad1_bAligned (w:World) (tp box:Nat) (sp nl:ByteArray) (sk pr ps:Bool) (pd:ByteArray)  (h:w.heap[tp]?=some (tpObj sp nl sk pr ps pd)) (hb:w.cell? ⟨box,0,none⟩=some (.string ⟨#[97,108,105,103,110,101,100]⟩)):
  Calls Tryz.prog 59 #[.pointer (some ⟨tp,0,none⟩),.pointer (some ⟨box,0,none⟩)] w fun e w'=>e=.returned .nilIface∧w'.heap[tp]?=some (tpObj sp nl sk pr ps ⟨#[97,108,105,103,110,101,100]⟩)∧OnlyIn w w' (fun k=>k=tp):=by
 have HH:=am h
 have HF:=am (show ∀ j:Nat,w.frozen? ⟨tp,j,none⟩=false from fun j=>by simp [World.frozen?,h])
 have z1:=HF.out 1
 have z2:=HF.out 2
 have z3:=HF.out 3
 have z4:=HF.out 4
 have z5:=HF.out 5
 have z6:=HF.out 6
 have k1:w.cell? ⟨tp,1,none⟩=some (.string sp):=by simp [World.cell?,h]
 have k2:w.cell? ⟨tp,2,none⟩=some (.string nl):=by simp [World.cell?,h]
 have k3:w.cell? ⟨tp,3,none⟩=some (.bool sk):=by simp [World.cell?,h]
 have k4:w.cell? ⟨tp,4,none⟩=some (.bool pr):=by simp [World.cell?,h]
 have k5:w.cell? ⟨tp,5,none⟩=some (.bool ps):=by simp [World.cell?,h]
 have k6:w.cell? ⟨tp,6,none⟩=some (.string pd):=by simp [World.cell?,h]
 clear h
 go_enter Tryz.func59,Tryz.ntmps59
 go_wp2
 go_ret
 refine ⟨rfl,?_,OnlyIn.setCell (S:=fun k=>k=tp) (OnlyIn.refl _ _) (b:=tp) (j:=6) rfl _⟩
 rw [setCell_eq_setRow w tp 6 _ _ _ _ HH.out]
 exact setRow_heap w tp _ _ _ (0,0) HH.out
theorem pad1_bMinimal (w:World) (tp box:Nat) (sp nl:ByteArray) (sk pr ps:Bool) (pd:ByteArray)  (h:w.heap[tp]?=some (tpObj sp nl sk pr ps pd)) (hb:w.cell? ⟨box,0,none⟩=some (.string ⟨#[109,105,110,105,109,97,108]⟩)):
  Calls Tryz.prog 59 #[.pointer (some ⟨tp,0,none⟩),.pointer (some ⟨box,0,none⟩)] w fun e w'=>e=.returned .nilIface∧w'.heap[tp]?=some (tpObj sp nl sk pr ps ⟨#[109,105,110,105,109,97,108]⟩)∧OnlyIn w w' (fun k=>k=tp):=by
 have HH:=am h
 have HF:=am (show ∀ j:Nat,w.frozen? ⟨tp,j,none⟩=false from fun j=>by simp [World.frozen?,h])
 have z1:=HF.out 1
 have z2:=HF.out 2
 have z3:=HF.out 3
 have z4:=HF.out 4
 have z5:=HF.out 5
 have z6:=HF.out 6
 have k1:w.cell? ⟨tp,1,none⟩=some (.string sp):=by simp [World.cell?,h]
 have k2:w.cell? ⟨tp,2,none⟩=some (.string nl):=by simp [World.cell?,h]
 have k3:w.cell? ⟨tp,3,none⟩=some (.bool sk):=by simp [World.cell?,h]
 have k4:w.cell? ⟨tp,4,none⟩=some (.bool pr):=by simp [World.cell?,h]
 have k5:w.cell? ⟨tp,5,none⟩=some (.bool ps):=by simp [World.cell?,h]
 have k6:w.cell? ⟨tp,6,none⟩=some (.string pd):=by simp [World.cell?,h]
 clear h
 go_enter Tryz.func59,Tryz.ntmps59
 go_wp2
 go_ret
 refine ⟨rfl,?_,OnlyIn.setCell (S:=fun k=>k=tp) (OnlyIn.refl _ _) (b:=tp) (j:=6) rfl _⟩
 rw [setCell_eq_setRow w tp 6 _ _ _ _ HH.out]
 exact setRow_heap w tp _ _ _ (0,0) HH.out
theorem pad1_bNone (w:World) (tp box:Nat) (sp nl:ByteArray) (sk pr ps:Bool) (pd:ByteArray)  (h:w.heap[tp]?=some (tpObj sp nl sk pr ps pd)) (hb:w.cell? ⟨box,0,none⟩=some (.string ⟨#[110,111,110,101]⟩)):
  Calls Tryz.prog 59 #[.pointer (some ⟨tp,0,none⟩),.pointer (some ⟨box,0,none⟩)] w fun e w'=>e=.returned .nilIface∧w'.heap[tp]?=some (tpObj sp nl sk pr ps ⟨#[110,111,110,101]⟩)∧OnlyIn w w' (fun k=>k=tp):=by
 have HH:=am h
 have HF:=am (show ∀ j:Nat,w.frozen? ⟨tp,j,none⟩=false from fun j=>by simp [World.frozen?,h])
 have z1:=HF.out 1
 have z2:=HF.out 2
 have z3:=HF.out 3
 have z4:=HF.out 4
 have z5:=HF.out 5
 have z6:=HF.out 6
 have k1:w.cell? ⟨tp,1,none⟩=some (.string sp):=by simp [World.cell?,h]
 have k2:w.cell? ⟨tp,2,none⟩=some (.string nl):=by simp [World.cell?,h]
 have k3:w.cell? ⟨tp,3,none⟩=some (.bool sk):=by simp [World.cell?,h]
 have k4:w.cell? ⟨tp,4,none⟩=some (.bool pr):=by simp [World.cell?,h]
 have k5:w.cell? ⟨tp,5,none⟩=some (.bool ps):=by simp [World.cell?,h]
 have k6:w.cell? ⟨tp,6,none⟩=some (.string pd):=by simp [World.cell?,h]
 clear h
 go_enter Tryz.func59,Tryz.ntmps59
 go_wp2
 go_ret
 refine ⟨rfl,?_,OnlyIn.setCell (S:=fun k=>k=tp) (OnlyIn.refl _ _) (b:=tp) (j:=6) rfl _⟩
 rw [setCell_eq_setRow w tp 6 _ _ _ _ HH.out]
 exact setRow_heap w tp _ _ _ (0,0) HH.out
theorem lines1_bEmpty (w:World) (tp box:Nat) (sp nl:ByteArray) (sk pr ps:Bool) (pd:ByteArray)  (h:w.heap[tp]?=some (tpObj sp nl sk pr ps pd)) (hb:w.cell? ⟨box,0,none⟩=some (.string ⟨#[]⟩)):
  Calls Tryz.prog 60 #[.pointer (some ⟨tp,0,none⟩),.pointer (some ⟨box,0,none⟩)] w fun e w'=>e=.returned .nilIface∧w'.heap[tp]?=some (tpObj sp nl sk pr ps pd)∧OnlyIn w w' (fun k=>k=tp):=by
 have HH:=am h
 have HF:=am (show ∀ j:Nat,w.frozen? ⟨tp,j,none⟩=false from fun j=>by simp [World.frozen?,h])
 have z1:=HF.out 1
 have z2:=HF.out 2
 have z3:=HF.out 3
 have z4:=HF.out 4
 have z5:=HF.out 5
 have z6:=HF.out 6
 have k1:w.cell? ⟨tp,1,none⟩=some (.string sp):=by simp [World.cell?,h]
 have k2:w.cell? ⟨tp,2,none⟩=some (.string nl):=by simp [World.cell?,h]
 have k3:w.cell? ⟨tp,3,none⟩=some (.bool sk):=by simp [World.cell?,h]
 have k4:w.cell? ⟨tp,4,none⟩=some (.bool pr):=by simp [World.cell?,h]
 have k5:w.cell? ⟨tp,5,none⟩=some (.bool ps):=by simp [World.cell?,h]
 have k6:w.cell? ⟨tp,6,none⟩=some (.string pd):=by simp [World.cell?,h]
 clear h
 go_enter Tryz.func60,Tryz.ntmps60
 go_wp2
 go_ret
 exact ⟨rfl,HH.out,OnlyIn.refl _ _⟩
theorem lines1_bPreserve (w:World) (tp box:Nat) (sp nl:ByteArray) (sk pr ps:Bool) (pd:ByteArray)  (h:w.heap[tp]?=some (tpObj sp nl sk pr ps pd)) (hb:w.cell? ⟨box,0,none⟩=some (.string ⟨#[112,114,101,115,101,114,118,101]⟩)):
  Calls Tryz.prog 60 #[.pointer (some ⟨tp,0,none⟩),.pointer (some ⟨box,0,none⟩)] w fun e w'=>e=.returned .nilIface∧w'.heap[tp]?=some (tpObj sp ⟨#[112,114,101,115,101,114,118,101]⟩ sk pr ps pd)∧OnlyIn w w' (fun k=>k=tp):=by
 have HH:=am h
 have HF:=am (show ∀ j:Nat,w.frozen? ⟨tp,j,none⟩=false from fun j=>by simp [World.frozen?,h])
 have z1:=HF.out 1
 have z2:=HF.out 2
 have z3:=HF.out 3
 have z4:=HF.out 4
 have z5:=HF.out 5
 have z6:=HF.out 6
 have k1:w.cell? ⟨tp,1,none⟩=some (.string sp):=by simp [World.cell?,h]
 have k2:w.cell? ⟨tp,2,none⟩=some (.string nl):=by simp [World.cell?,h]
 have k3:w.cell? ⟨tp,3,none⟩=some (.bool sk):=by simp [World.cell?,h]
 have k4:w.cell? ⟨tp,4,none⟩=some (.bool pr):=by simp [World.cell?,h]
 have k5:w.cell? ⟨tp,5,none⟩=some (.bool ps):=by simp [World.cell?,h]
 have k6:w.cell? ⟨tp,6,none⟩=some (.string pd):=by simp [World.cell?,h]
 clear h
 go_enter Tryz.func60,Tryz.ntmps60
 go_wp2
 go_ret
 refine ⟨rfl,?_,OnlyIn.setCell (S:=fun k=>k=tp) (OnlyIn.refl _ _) (b:=tp) (j:=2) rfl _⟩
 rw [setCell_eq_setRow w tp 2 _ _ _ _ HH.out]
 exact setRow_heap w tp _ _ _ (0,0) HH.out
theorem span1_bEmpty (w:World) (tp box:Nat) (sp nl:ByteArray) (sk pr ps:Bool) (pd:ByteArray)  (h:w.heap[tp]?=some (tpObj sp nl sk pr ps pd)) (hb:w.cell? ⟨box,0,none⟩=some (.string ⟨#[]⟩)):
  Calls Tryz.prog 61 #[.pointer (some ⟨tp,0,none⟩),.pointer (some ⟨box,0,none⟩)] w fun e w'=>e=.returned .nilIface∧w'.heap[tp]?=some (tpObj sp nl sk pr ps pd)∧OnlyIn w w' (fun k=>k=tp):=by
 have HH:=am h
 have HF:=am (show ∀ j:Nat,w.frozen? ⟨tp,j,none⟩=false from fun j=>by simp [World.frozen?,h])
 have z1:=HF.out 1
 have z2:=HF.out 2
 have z3:=HF.out 3
 have z4:=HF.out 4
 have z5:=HF.out 5
 have z6:=HF.out 6
 have k1:w.cell? ⟨tp,1,none⟩=some (.string sp):=by simp [World.cell?,h]
 have k2:w.cell? ⟨tp,2,none⟩=some (.string nl):=by simp [World.cell?,h]
 have k3:w.cell? ⟨tp,3,none⟩=some (.bool sk):=by simp [World.cell?,h]
 have k4:w.cell? ⟨tp,4,none⟩=some (.bool pr):=by simp [World.cell?,h]
 have k5:w.cell? ⟨tp,5,none⟩=some (.bool ps):=by simp [World.cell?,h]
 have k6:w.cell? ⟨tp,6,none⟩=some (.string pd):=by simp [World.cell?,h]
 clear h
 go_enter Tryz.func61,Tryz.ntmps61
 go_wp2
 go_ret
 exact ⟨rfl,HH.out,OnlyIn.refl _ _⟩
theorem span1_bMirror (w:World) (tp box:Nat) (sp nl:ByteArray) (sk pr ps:Bool) (pd:ByteArray)  (h:w.heap[tp]?=some (tpObj sp nl sk pr ps pd)) (hb:w.cell? ⟨box,0,none⟩=some (.string ⟨#[109,105,114,114,111,114]⟩)):
  Calls Tryz.prog 61 #[.pointer (some ⟨tp,0,none⟩),.pointer (some ⟨box,0,none⟩)] w fun e w'=>e=.returned .nilIface∧w'.heap[tp]?=some (tpObj ⟨#[109,105,114,114,111,114]⟩ nl sk pr ps pd)∧OnlyIn w w' (fun k=>k=tp):=by
 have HH:=am h
 have HF:=am (show ∀ j:Nat,w.frozen? ⟨tp,j,none⟩=false from fun j=>by simp [World.frozen?,h])
 have z1:=HF.out 1
 have z2:=HF.out 2
 have z3:=HF.out 3
 have z4:=HF.out 4
 have z5:=HF.out 5
 have z6:=HF.out 6
 have k1:w.cell? ⟨tp,1,none⟩=some (.string sp):=by simp [World.cell?,h]
 have k2:w.cell? ⟨tp,2,none⟩=some (.string nl):=by simp [World.cell?,h]
 have k3:w.cell? ⟨tp,3,none⟩=some (.bool sk):=by simp [World.cell?,h]
 have k4:w.cell? ⟨tp,4,none⟩=some (.bool pr):=by simp [World.cell?,h]
 have k5:w.cell? ⟨tp,5,none⟩=some (.bool ps):=by simp [World.cell?,h]
 have k6:w.cell? ⟨tp,6,none⟩=some (.string pd):=by simp [World.cell?,h]
 clear h
 go_enter Tryz.func61,Tryz.ntmps61
 go_wp2
 go_ret
 refine ⟨rfl,?_,OnlyIn.setCell (S:=fun k=>k=tp) (OnlyIn.refl _ _) (b:=tp) (j:=1) rfl _⟩
 rw [setCell_eq_setRow w tp 1 _ _ _ _ HH.out]
 exact setRow_heap w tp _ _ _ (0,0) HH.out
theorem promote1_calls (w:World) (tp box:Nat) (sp nl:ByteArray) (sk pr ps:Bool) (pd:ByteArray) (b:Bool) (h:w.heap[tp]?=some (tpObj sp nl sk pr ps pd)) (hb:w.cell? ⟨box,0,none⟩=some (.bool b)):
  Calls Tryz.prog 62 #[.pointer (some ⟨tp,0,none⟩),.pointer (some ⟨box,0,none⟩)] w fun e w'=>e=.returned .nilIface∧w'.heap[tp]?=some (tpObj sp nl sk b ps pd)∧OnlyIn w w' (fun k=>k=tp):=by
 have HH:=am h
 have HF:=am (show ∀ j:Nat,w.frozen? ⟨tp,j,none⟩=false from fun j=>by simp [World.frozen?,h])
 have z1:=HF.out 1
 have z2:=HF.out 2
 have z3:=HF.out 3
 have z4:=HF.out 4
 have z5:=HF.out 5
 have z6:=HF.out 6
 have k1:w.cell? ⟨tp,1,none⟩=some (.string sp):=by simp [World.cell?,h]
 have k2:w.cell? ⟨tp,2,none⟩=some (.string nl):=by simp [World.cell?,h]
 have k3:w.cell? ⟨tp,3,none⟩=some (.bool sk):=by simp [World.cell?,h]
 have k4:w.cell? ⟨tp,4,none⟩=some (.bool pr):=by simp [World.cell?,h]
 have k5:w.cell? ⟨tp,5,none⟩=some (.bool ps):=by simp [World.cell?,h]
 have k6:w.cell? ⟨tp,6,none⟩=some (.string pd):=by simp [World.cell?,h]
 clear h
 go_enter Tryz.func62,Tryz.ntmps62
 go_wp2
 go_ret
 refine ⟨rfl,?_,OnlyIn.setCell (S:=fun k=>k=tp) (OnlyIn.refl _ _) (b:=tp) (j:=4) rfl _⟩
 rw [setCell_eq_setRow w tp 4 _ _ _ _ HH.out]
 exact setRow_heap w tp _ _ _ (0,0) HH.out
theorem skip1_calls (w:World) (tp box:Nat) (sp nl:ByteArray) (sk pr ps:Bool) (pd:ByteArray) (b:Bool) (h:w.heap[tp]?=some (tpObj sp nl sk pr ps pd)) (hb:w.cell? ⟨box,0,none⟩=some (.bool b)):
  Calls Tryz.prog 63 #[.pointer (some ⟨tp,0,none⟩),.pointer (some ⟨box,0,none⟩)] w fun e w'=>e=.returned .nilIface∧w'.heap[tp]?=some (tpObj sp nl b pr ps pd)∧OnlyIn w w' (fun k=>k=tp):=by
 have HH:=am h
 have HF:=am (show ∀ j:Nat,w.frozen? ⟨tp,j,none⟩=false from fun j=>by simp [World.frozen?,h])
 have z1:=HF.out 1
 have z2:=HF.out 2
 have z3:=HF.out 3
 have z4:=HF.out 4
 have z5:=HF.out 5
 have z6:=HF.out 6
 have k1:w.cell? ⟨tp,1,none⟩=some (.string sp):=by simp [World.cell?,h]
 have k2:w.cell? ⟨tp,2,none⟩=some (.string nl):=by simp [World.cell?,h]
 have k3:w.cell? ⟨tp,3,none⟩=some (.bool sk):=by simp [World.cell?,h]
 have k4:w.cell? ⟨tp,4,none⟩=some (.bool pr):=by simp [World.cell?,h]
 have k5:w.cell? ⟨tp,5,none⟩=some (.bool ps):=by simp [World.cell?,h]
 have k6:w.cell? ⟨tp,6,none⟩=some (.string pd):=by simp [World.cell?,h]
 clear h
 go_enter Tryz.func63,Tryz.ntmps63
 go_wp2
 go_ret
 refine ⟨rfl,?_,OnlyIn.setCell (S:=fun k=>k=tp) (OnlyIn.refl _ _) (b:=tp) (j:=3) rfl _⟩
 rw [setCell_eq_setRow w tp 3 _ _ _ _ HH.out]
 exact setRow_heap w tp _ _ _ (0,0) HH.out
theorem pres1_calls (w:World) (tp box:Nat) (sp nl:ByteArray) (sk pr ps:Bool) (pd:ByteArray) (b:Bool) (h:w.heap[tp]?=some (tpObj sp nl sk pr ps pd)) (hb:w.cell? ⟨box,0,none⟩=some (.bool b)):
  Calls Tryz.prog 64 #[.pointer (some ⟨tp,0,none⟩),.pointer (some ⟨box,0,none⟩)] w fun e w'=>e=.returned .nilIface∧w'.heap[tp]?=some (tpObj sp nl sk pr b pd)∧OnlyIn w w' (fun k=>k=tp):=by
 have HH:=am h
 have HF:=am (show ∀ j:Nat,w.frozen? ⟨tp,j,none⟩=false from fun j=>by simp [World.frozen?,h])
 have z1:=HF.out 1
 have z2:=HF.out 2
 have z3:=HF.out 3
 have z4:=HF.out 4
 have z5:=HF.out 5
 have z6:=HF.out 6
 have k1:w.cell? ⟨tp,1,none⟩=some (.string sp):=by simp [World.cell?,h]
 have k2:w.cell? ⟨tp,2,none⟩=some (.string nl):=by simp [World.cell?,h]
 have k3:w.cell? ⟨tp,3,none⟩=some (.bool sk):=by simp [World.cell?,h]
 have k4:w.cell? ⟨tp,4,none⟩=some (.bool pr):=by simp [World.cell?,h]
 have k5:w.cell? ⟨tp,5,none⟩=some (.bool ps):=by simp [World.cell?,h]
 have k6:w.cell? ⟨tp,6,none⟩=some (.string pd):=by simp [World.cell?,h]
 clear h
 go_enter Tryz.func64,Tryz.ntmps64
 go_wp2
 go_ret
 refine ⟨rfl,?_,OnlyIn.setCell (S:=fun k=>k=tp) (OnlyIn.refl _ _) (b:=tp) (j:=5) rfl _⟩
 rw [setCell_eq_setRow w tp 5 _ _ _ _ HH.out]
 exact setRow_heap w tp _ _ _ (0,0) HH.out
theorem OnlyIn.trans {w w1 w2:World} {S:Nat→Prop} (h:OnlyIn w w1 S) (k:OnlyIn w1 w2 S):OnlyIn w w2 S:=⟨k.os.trans h.os,k.tape.trans h.tape,k.output.trans h.output,k.size.trans h.size,fun q hq=>(k.block q hq).trans (h.block q hq)⟩
theorem newPlugin_calls (w:World) (g:Nat) (fs bx:Nat→Nat) (ob:Nat→Obj)
  (hf:∀ j,j < 6→∀ a w,(callFunc (fs j) a).run Tryz.prog w=.ok (.enter (fs j) a) w)
  (hcell:∀ j,j < 6→w.cell? ⟨g,j,none⟩=some (.func (.func (fs j)) #[] #[.pointer (some ⟨bx j,0,none⟩)]))
  (hstep:∀ j,j < 6→∀ wx,OnlyIn (w.alloc (tpObj bEmpty bEmpty false false false bAligned)) wx (fun k=>k=w.heap.size)→wx.heap[w.heap.size]?=some (ob j)→Calls Tryz.prog (fs j) #[.pointer (some ⟨w.heap.size,0,none⟩),.pointer (some ⟨bx j,0,none⟩)] wx fun e w'=>e=.returned .nilIface∧w'.heap[w.heap.size]?=some (ob (j+1))∧OnlyIn wx w' (fun k=>k=w.heap.size))
  (h0:ob 0=tpObj bEmpty bEmpty false false false bAligned):
  Calls Tryz.prog 31 #[.slice (some ⟨g,0,none⟩) 6 6] w fun e w'=>e=.returned (.iface 166 (.pointer (some ⟨w.heap.size,0,none⟩)))∧w'.heap[w.heap.size]?=some (ob 6)∧Below w.heap.size w w':=by
 have HF:=am hf
 have HC:=am hcell
 have HS:=am hstep
 have H0:=am (show (w.alloc (tpObj bEmpty bEmpty false false false bAligned)).heap[w.heap.size]?=some (ob 0) by rw [h0];exact alloc_new _ _)
 have HB:=am ((Below.refl _ w).alloc (Nat.le_refl _) (tpObj bEmpty bEmpty false false false bAligned))
 clear hf hcell hstep h0
 go_enter Tryz.func31,Tryz.ntmps31
 go_wp2
 obtain ⟨w1,hw1⟩:∃ w1,w.alloc (tpObj bEmpty bEmpty false false false bAligned)=w1:=⟨_,rfl⟩
 rw [show w.alloc (.cells #[.nilIface,.string ⟨#[]⟩,.string ⟨#[]⟩,.bool false,.bool false,.bool false,.string ⟨#[97,108,105,103,110,101,100]⟩] 168)=w1 from hw1]
 rw [hw1] at H0 HB HS
 have HGS:=am (cell_block (HC.out 0 (by decide)))
 clear hw1
 go_loopg [11] 6 (fun gf v11 wx=>∃ (k:Nat),v11=.int .i64 (k:Int)∧Aside0 (k≤6∧6 - k=gf)∧Aside0 (OnlyIn w1 wx (fun k=>k=w.heap.size))∧Aside0 (wx.heap[w.heap.size]?=some (ob k)))
 case atStart=>exact ⟨0,rfl,⟨by omega⟩,⟨OnlyIn.refl _ _⟩,H0⟩
 case round=>
  obtain ⟨k,rfl,HP,HO,HK⟩:=hrel
  by_cases hk:k < 6
  ·have hpp:=eq_true hk
   have hlt:decide ((k:Int) < 6)=true:=decide_eq_true (by omega)
   have hlt2:((k:Int) < 6)=True:=eq_true (by omega)
   have hw1':wrap64 ((k:Int)+1)=((k+1:Nat):Int):=by unfold wrap64;omega
   have g0:wr.cell? ⟨g,k,none⟩=some (.func (.func (fs k)) #[] #[.pointer (some ⟨bx k,0,none⟩)]):=by
    rw [World.cell?_of_block ((HO.out.block g (fun e=>by have:=HGS.out;omega)).trans (HB.out.block g HGS.out))]
    exact HC.out k hk
   have hfk:=HF.out k hk
   have CS:=am (HS.out k hk wr HO.out HK.out)
   have HKK:=am hk
   obtain ⟨fk,hfe⟩:∃ fk,fs k=fk:=⟨_,rfl⟩
   obtain ⟨bk,hbe⟩:∃ bk,bx k=bk:=⟨_,rfl⟩
   rw [hfe,hbe] at g0 CS
   rw [hfe] at hfk
   clear hk hfe hbe
   go_wp2_with fail
   refine CS.out.mono ?_
   rintro e w2 ⟨rfl,hh,ho⟩
   have HO2:=am (HO.out.trans ho)
   have HH2:=am hh
   clear hh ho CS g0
   go_wp2
   go_roundg (6 - (k+1))
   case measure=>have:=HP.out;have:=HKK.out;omega
   case rel=>exact ⟨k+1,by rw [hw1'],⟨by have:=HKK.out;omega⟩,HO2,HH2⟩
  ·have hpp:=eq_false hk
   have hlt:decide ((k:Int) < 6)=false:=decide_eq_false (by omega)
   have hlt2:((k:Int) < 6)=False:=eq_false (by omega)
   have HKK:=am hk
   clear hk
   go_wp2
   go_ret
   have e6:k=6:=by have:=HP.out;have:=HKK.out;omega
   subst e6
   exact ⟨rfl,HK.out,HB.out.trans ⟨HO.out.os,HO.out.tape,HO.out.output,Nat.le_of_eq HO.out.size.symm,fun q hq=>HO.out.block q (fun e=>by omega)⟩⟩
def padIn (p:Int):ByteArray:=if p≤0 then bEmpty else if p=2 then bMinimal else if p=3 then bNone else bAligned
def padOut (p:Int):ByteArray:=if p=2 then bMinimal else if p=3 then bNone else bAligned
theorem padded_calls (w:World) (p:Int) (hp:0 < p):Calls Tryz.prog 30 #[.int .i64 p] w fun e w'=>e=.returned (.string (padIn p))∧w'=w:=by
 have h0:¬ p≤0:=by omega
 by_cases h2:p=2
 ·subst h2
  go_enter Tryz.func30,Tryz.ntmps30
  go_wp2
  go_ret
  exact ⟨rfl,rfl⟩
 by_cases h3:p=3
 ·subst h3
  go_enter Tryz.func30,Tryz.ntmps30
  go_wp2
  go_ret
  exact ⟨rfl,rfl⟩
 have e:padIn p=bAligned:=by unfold padIn;rw [if_neg h0,if_neg h2,if_neg h3]
 rw [e]
 have b2:(p==2)=false:=beq_eq_false_iff_ne.mpr h2
 have b3:(p==3)=false:=beq_eq_false_iff_ne.mpr h3
 have n2:=eq_false h2
 have n3:=eq_false h3
 go_enter Tryz.func30,Tryz.ntmps30
 go_wp2
 go_ret
 exact ⟨rfl,rfl⟩
def PadStep (i o:ByteArray):Prop:=∀ (w:World) (tp box:Nat) (sp nl:ByteArray) (sk pr ps:Bool) (pd:ByteArray),w.heap[tp]?=some (tpObj sp nl sk pr ps pd)→w.cell? ⟨box,0,none⟩=some (.string i) →
 Calls Tryz.prog 59 #[.pointer (some ⟨tp,0,none⟩),.pointer (some ⟨box,0,none⟩)] w fun e w'=>e=.returned .nilIface∧w'.heap[tp]?=some (tpObj sp nl sk pr ps o)∧OnlyIn w w' (fun k=>k=tp)
def LinesStep (i o:ByteArray):Prop:=∀ (w:World) (tp box:Nat) (sp:ByteArray) (sk pr ps:Bool) (pd:ByteArray),w.heap[tp]?=some (tpObj sp bEmpty sk pr ps pd)→w.cell? ⟨box,0,none⟩=some (.string i) →
 Calls Tryz.prog 60 #[.pointer (some ⟨tp,0,none⟩),.pointer (some ⟨box,0,none⟩)] w fun e w'=>e=.returned .nilIface∧w'.heap[tp]?=some (tpObj sp o sk pr ps pd)∧OnlyIn w w' (fun k=>k=tp)
def SpanStep (i o:ByteArray):Prop:=∀ (w:World) (tp box:Nat) (nl:ByteArray) (sk pr ps:Bool) (pd:ByteArray),w.heap[tp]?=some (tpObj bEmpty nl sk pr ps pd)→w.cell? ⟨box,0,none⟩=some (.string i) →
 Calls Tryz.prog 61 #[.pointer (some ⟨tp,0,none⟩),.pointer (some ⟨box,0,none⟩)] w fun e w'=>e=.returned .nilIface∧w'.heap[tp]?=some (tpObj o nl sk pr ps pd)∧OnlyIn w w' (fun k=>k=tp)
theorem padStep (p:Int):PadStep (padIn p) (padOut p):=by
 intro w tp box sp nl sk pr ps pd h hb
 by_cases h2:p=2
 ·subst h2;exact pad1_bMinimal w tp box sp nl sk pr ps pd h hb
 by_cases h3:p=3
 ·subst h3;exact pad1_bNone w tp box sp nl sk pr ps pd h hb
 have e:padOut p=bAligned:=by unfold padOut;rw [if_neg h2,if_neg h3]
 rw [e]
 by_cases h0:p≤0
 ·have e:padIn p=bEmpty:=by unfold padIn;rw [if_pos h0]
  rw [e] at hb
  exact pad1_bEmpty w tp box sp nl sk pr ps pd h hb
 ·have e:padIn p=bAligned:=by unfold padIn;rw [if_neg h0,if_neg h2,if_neg h3]
  rw [e] at hb
  exact pad1_bAligned w tp box sp nl sk pr ps pd h hb
theorem linesStep (k:Bool):LinesStep (if k then bPreserve else bEmpty) (if k then bPreserve else bEmpty):=by
 intro w tp box sp sk pr ps pd h hb
 cases k
 ·exact lines1_bEmpty w tp box sp bEmpty sk pr ps pd h hb
 ·exact lines1_bPreserve w tp box sp bEmpty sk pr ps pd h hb
theorem spanStep (k:Bool):SpanStep (if k then bMirror else bEmpty) (if k then bMirror else bEmpty):=by
 intro w tp box sp sk pr ps pd h hb
 cases k
 ·exact span1_bEmpty w tp box bEmpty sp sk pr ps pd h hb
 ·exact span1_bMirror w tp box bEmpty sp sk pr ps pd h hb
theorem plug_of (w:World) (g b0 b1 b2 b3 b4 b5:Nat) (pdI pdO lnI lnO spI spO:ByteArray) (pr sk ps:Bool) (hp:PadStep pdI pdO) (hl:LinesStep lnI lnO) (hs:SpanStep spI spO)
  (c0:w.cell? ⟨b0,0,none⟩=some (.string pdI)) (c1:w.cell? ⟨b1,0,none⟩=some (.string lnI)) (c2:w.cell? ⟨b2,0,none⟩=some (.string spI)) (c3:w.cell? ⟨b3,0,none⟩=some (.bool pr)) (c4:w.cell? ⟨b4,0,none⟩=some (.bool sk)) (c5:w.cell? ⟨b5,0,none⟩=some (.bool ps))
  (g0:w.heap[g]?=some (.cells #[.func (.func 59) #[] #[.pointer (some ⟨b0,0,none⟩)],.func (.func 60) #[] #[.pointer (some ⟨b1,0,none⟩)],.func (.func 61) #[] #[.pointer (some ⟨b2,0,none⟩)],.func (.func 62) #[] #[.pointer (some ⟨b3,0,none⟩)],.func (.func 63) #[] #[.pointer (some ⟨b4,0,none⟩)],.func (.func 64) #[] #[.pointer (some ⟨b5,0,none⟩)]] 90 (0,0))):
  Calls Tryz.prog 31 #[.slice (some ⟨g,0,none⟩) 6 6] w fun e w'=>e=.returned (.iface 166 (.pointer (some ⟨w.heap.size,0,none⟩)))∧w'.heap[w.heap.size]?=some (tpObj spO lnO sk pr ps pdO)∧Below w.heap.size w w':=by
 have stay:∀ {wx:World} {b:Nat} {v:Value},OnlyIn (w.alloc (tpObj bEmpty bEmpty false false false bAligned)) wx (fun k=>k=w.heap.size)→w.cell? ⟨b,0,none⟩=some v→wx.cell? ⟨b,0,none⟩=some v:=fun {wx b v} ho hc=>by
  have hlt:=cell_block hc
  rw [World.cell?_of_block (ho.block b (fun e=>by omega)),World.cell?_of_block (Below.heap_alloc _ _ b hlt)]
  exact hc
 refine newPlugin_calls w g (fun j=>[59,60,61,62,63,64].getD j 0) (fun j=>[b0,b1,b2,b3,b4,b5].getD j 0)
  (fun j=>[tpObj bEmpty bEmpty false false false bAligned,tpObj bEmpty bEmpty false false false pdO,tpObj bEmpty lnO false false false pdO,tpObj spO lnO false false false pdO,tpObj spO lnO false pr false pdO,tpObj spO lnO sk pr false pdO,tpObj spO lnO sk pr ps pdO].getD j (tpObj bEmpty bEmpty false false false bAligned)) ?_ ?_ ?_ rfl
 ·intro j hj a w
  obtain rfl|rfl|rfl|rfl|rfl|rfl:j=0∨j=1∨j=2∨j=3∨j=4∨j=5:=by omega
  all_goals rfl
 ·intro j hj
  have h:=fun k=>show w.cell? ⟨g,k,none⟩=_ by simp only [World.cell?,g0];rfl
  obtain rfl|rfl|rfl|rfl|rfl|rfl:j=0∨j=1∨j=2∨j=3∨j=4∨j=5:=by omega
  all_goals exact (h _).trans rfl
 ·intro j hj wx ho hh
  obtain rfl|rfl|rfl|rfl|rfl|rfl:j=0∨j=1∨j=2∨j=3∨j=4∨j=5:=by omega
  ·exact hp wx _ b0 _ _ _ _ _ _ hh (stay ho c0)
  ·exact hl wx _ b1 _ _ _ _ _ hh (stay ho c1)
  ·exact hs wx _ b2 _ _ _ _ _ hh (stay ho c2)
  ·exact promote1_calls wx _ b3 _ _ _ _ _ _ pr hh (stay ho c3)
  ·exact skip1_calls wx _ b4 _ _ _ _ _ _ sk hh (stay ho c4)
  ·exact pres1_calls wx _ b5 _ _ _ _ _ _ ps hh (stay ho c5)
theorem below_first {w wA:World} {o:Obj} (kA:Below (w.alloc o).drew.heap.size (w.alloc o).drew wA):Below w.heap.size w wA:=by
 have b0:=below_drew ((Below.refl w.heap.size w).alloc (Nat.le_refl _) o)
 exact b0.trans (kA.mono b0.size)
theorem keep3 {w w':World} {b:Nat} {u v x:Value} (hb:Below w.heap.size w w') (h:w.cell? ⟨b,3,none⟩=some u∧w.cell? ⟨b,4,none⟩=some v∧w.cell? ⟨b,5,none⟩=some x):w'.cell? ⟨b,3,none⟩=some u∧w'.cell? ⟨b,4,none⟩=some v∧w'.cell? ⟨b,5,none⟩=some x:=⟨cell_keep hb h.1,cell_keep hb h.2.1,cell_keep hb h.2.2⟩
theorem cell_new1 (w:World) (v:Value) (T:TypeId):(w.alloc (.cells #[v] T)).cell? ⟨w.heap.size,0,none⟩=some v:=by unfold World.cell?;rw [alloc_new];rfl
theorem withPad_any (w:World) (s:ByteArray):
  Calls Tryz.prog 32 #[.string s] w fun e w'=>∃ b,e=.returned (.func (.func 59) #[] #[.pointer (some ⟨b,0,none⟩)])∧w'.cell? ⟨b,0,none⟩=some (.string s)∧Below w.heap.size w w':=by
 refine (withPad_calls w s).mono ?_
 rintro e w' ⟨rfl,rfl⟩
 exact ⟨_,rfl,cell_new1 _ _ _,(Below.refl _ _).alloc (Nat.le_refl _) _⟩
theorem withLines_any (w:World) (s:ByteArray):
  Calls Tryz.prog 33 #[.string s] w fun e w'=>∃ b,e=.returned (.func (.func 60) #[] #[.pointer (some ⟨b,0,none⟩)])∧w'.cell? ⟨b,0,none⟩=some (.string s)∧Below w.heap.size w w':=by
 refine (withLines_calls w s).mono ?_
 rintro e w' ⟨rfl,rfl⟩
 exact ⟨_,rfl,cell_new1 _ _ _,(Below.refl _ _).alloc (Nat.le_refl _) _⟩
theorem withSpan_any (w:World) (s:ByteArray):
  Calls Tryz.prog 34 #[.string s] w fun e w'=>∃ b,e=.returned (.func (.func 61) #[] #[.pointer (some ⟨b,0,none⟩)])∧w'.cell? ⟨b,0,none⟩=some (.string s)∧Below w.heap.size w w':=by
 refine (withSpan_calls w s).mono ?_
 rintro e w' ⟨rfl,rfl⟩
 exact ⟨_,rfl,cell_new1 _ _ _,(Below.refl _ _).alloc (Nat.le_refl _) _⟩
theorem withPromote_any (w:World) (s:Bool):
  Calls Tryz.prog 35 #[.bool s] w fun e w'=>∃ b,e=.returned (.func (.func 62) #[] #[.pointer (some ⟨b,0,none⟩)])∧w'.cell? ⟨b,0,none⟩=some (.bool s)∧Below w.heap.size w w':=by
 refine (withPromote_calls w s).mono ?_
 rintro e w' ⟨rfl,rfl⟩
 exact ⟨_,rfl,cell_new1 _ _ _,(Below.refl _ _).alloc (Nat.le_refl _) _⟩
theorem withSkip_any (w:World) (s:Bool):
  Calls Tryz.prog 36 #[.bool s] w fun e w'=>∃ b,e=.returned (.func (.func 63) #[] #[.pointer (some ⟨b,0,none⟩)])∧w'.cell? ⟨b,0,none⟩=some (.bool s)∧Below w.heap.size w w':=by
 refine (withSkip_calls w s).mono ?_
 rintro e w' ⟨rfl,rfl⟩
 exact ⟨_,rfl,cell_new1 _ _ _,(Below.refl _ _).alloc (Nat.le_refl _) _⟩
theorem withPres_any (w:World) (s:Bool):
  Calls Tryz.prog 37 #[.bool s] w fun e w'=>∃ b,e=.returned (.func (.func 64) #[] #[.pointer (some ⟨b,0,none⟩)])∧w'.cell? ⟨b,0,none⟩=some (.bool s)∧Below w.heap.size w w':=by
 refine (withPres_calls w s).mono ?_
 rintro e w' ⟨rfl,rfl⟩
 exact ⟨_,rfl,cell_new1 _ _ _,(Below.refl _ _).alloc (Nat.le_refl _) _⟩
def optRow (b0 b1 b2 b3 b4 b5:Nat):Obj:=.cells #[.func (.func 59) #[] #[.pointer (some ⟨b0,0,none⟩)],.func (.func 60) #[] #[.pointer (some ⟨b1,0,none⟩)],.func (.func 61) #[] #[.pointer (some ⟨b2,0,none⟩)],.func (.func 62) #[] #[.pointer (some ⟨b3,0,none⟩)],.func (.func 63) #[] #[.pointer (some ⟨b4,0,none⟩)],.func (.func 64) #[] #[.pointer (some ⟨b5,0,none⟩)]] 90
theorem plug_any (w:World) (b0 b1 b2 b3 b4 b5:Nat) (pdI pdO lnI lnO spI spO:ByteArray) (pr sk ps:Bool) (hp:PadStep pdI pdO) (hl:LinesStep lnI lnO) (hs:SpanStep spI spO)
  (c0:w.cell? ⟨b0,0,none⟩=some (.string pdI)) (c1:w.cell? ⟨b1,0,none⟩=some (.string lnI)) (c2:w.cell? ⟨b2,0,none⟩=some (.string spI)) (c3:w.cell? ⟨b3,0,none⟩=some (.bool pr)) (c4:w.cell? ⟨b4,0,none⟩=some (.bool sk)) (c5:w.cell? ⟨b5,0,none⟩=some (.bool ps)):
  Calls Tryz.prog 31 #[.slice (some ⟨w.heap.size,0,none⟩) 6 6] (w.alloc (optRow b0 b1 b2 b3 b4 b5)) fun e w'=>∃ tp,e=.returned (.iface 166 (.pointer (some ⟨tp,0,none⟩)))∧w.heap.size≤tp∧w'.heap[tp]?=some (tpObj spO lnO sk pr ps pdO)∧Below (w.alloc (optRow b0 b1 b2 b3 b4 b5)).heap.size (w.alloc (optRow b0 b1 b2 b3 b4 b5)) w':=by
 have hb:=(Below.refl w.heap.size w).alloc (Nat.le_refl _) (optRow b0 b1 b2 b3 b4 b5)
 refine (plug_of _ w.heap.size b0 b1 b2 b3 b4 b5 pdI pdO lnI lnO spI spO pr sk ps hp hl hs (cell_keep hb c0) (cell_keep hb c1) (cell_keep hb c2) (cell_keep hb c3) (cell_keep hb c4) (cell_keep hb c5) (alloc_new _ _)).mono ?_
 rintro e w' ⟨rfl,h1,h2⟩
 exact ⟨_,rfl,hb.size,h1,h2⟩
theorem tables_calls (w:World) (p:Int) (k m pr sk ps:Bool):
  Calls Tryz.prog 19 #[.agg #[.int .i64 p,.bool k,.bool m,.bool pr,.bool sk,.bool ps]] w fun e w'=>∃ tp,e=.returned (.iface 166 (.pointer (some ⟨tp,0,none⟩)))∧w.heap.size≤tp∧w'.heap[tp]?=some (tpObj (if m then bMirror else bEmpty) (if k then bPreserve else bEmpty) sk pr ps (padOut p))∧Below w.heap.size w w':=by
 have mixed:Tryz.prog.follows .mixedOrders=true:=by kernel_rfl
 have HLS:=am (linesStep k)
 have HSS:=am (spanStep m)
 by_cases hp:0 < p
 ·have hgt:decide (0 < p)=true:=decide_eq_true hp
  have hpp:=eq_true hp
  have CP:=am (fun w=>padded_calls w p hp)
  have HPI:=am (padStep p)
  clear hp
  cases k <;> cases m
  all_goals
   go_enter Tryz.func19,Tryz.ntmps19
   go_wp2_with (go_at_call 30;fail)
   refine (CP.out _).mono ?_
   rintro e w1 ⟨rfl,hw⟩
   rw [hw]
   clear hw CP
   go_wp2
   go_region_held3 (fun w'=>w'.cell? ⟨w.heap.size,3,none⟩=some (.bool pr)∧w'.cell? ⟨w.heap.size,4,none⟩=some (.bool sk)∧w'.cell? ⟨w.heap.size,5,none⟩=some (.bool ps)) (first|go_keep|exact keep3 (by assumption) (by assumption)) (first|(go_at_call 32;refine (withPad_any _ _).mono ?_;rintro e wA ⟨bA,rfl,hA,kA⟩)|(go_at_call 33;refine (withLines_any _ _).mono ?_;rintro e wB ⟨bB,rfl,hB,kB⟩)|(go_at_call 34;refine (withSpan_any _ _).mono ?_;rintro e wC ⟨bC,rfl,hC,kC⟩)|(go_at_call 35;refine (withPromote_any _ _).mono ?_;rintro e wD ⟨bD,rfl,hD,kD⟩)|(go_at_call 36;refine (withSkip_any _ _).mono ?_;rintro e wE ⟨bE,rfl,hE,kE⟩)|(go_at_call 37;refine (withPres_any _ _).mono ?_;rintro e wF ⟨bF,rfl,hF,kF⟩)|(go_at_call 31;refine (plug_any _ _ _ _ _ _ _ (padIn p) (padOut p) _ _ _ _ pr sk ps HPI.out HLS.out HSS.out (cell_keep kF (cell_keep kE (cell_keep kD (cell_keep kC (cell_keep kB hA))))) (cell_keep kF (cell_keep kE (cell_keep kD (cell_keep kC hB)))) (cell_keep kF (cell_keep kE (cell_keep kD hC))) (cell_keep kF (cell_keep kE hD)) (cell_keep kF hE) hF).mono ?_;rintro e wG ⟨tp,rfl,ht1,ht2,kG⟩))
   all_goals
    go_wp2
    go_ret
    have b1:=below_first kA
    have b2:=b1.trans (kB.mono b1.size)
    have b3:=b2.trans (kC.mono b2.size)
    have b4:=b3.trans (kD.mono b3.size)
    have b5:=b4.trans (kE.mono b4.size)
    have b6:=b5.trans (kF.mono b5.size)
    have b7:=b6.trans ((Below.refl wF.heap.size wF).alloc (Nat.le_refl _) (optRow bA bB bC bD bE bF) |>.mono b6.size)
    exact ⟨_,rfl,Nat.le_trans b6.size ht1,ht2,b7.trans (kG.mono b7.size)⟩
 ·have hgt:decide (0 < p)=false:=decide_eq_false hp
  have hpp:=eq_false hp
  have HPI:=am (show PadStep ⟨#[]⟩ (padOut p) by
   have h:=padStep p
   rw [show padIn p=⟨#[]⟩ by unfold padIn;rw [if_pos (by omega)];rfl] at h
   exact h)
  clear hp
  cases k <;> cases m
  all_goals
   go_enter Tryz.func19,Tryz.ntmps19
   go_wp2
   go_region_held3 (fun w'=>w'.cell? ⟨w.heap.size,3,none⟩=some (.bool pr)∧w'.cell? ⟨w.heap.size,4,none⟩=some (.bool sk)∧w'.cell? ⟨w.heap.size,5,none⟩=some (.bool ps)) (first|go_keep|exact keep3 (by assumption) (by assumption)) (first|(go_at_call 32;refine (withPad_any _ _).mono ?_;rintro e wA ⟨bA,rfl,hA,kA⟩)|(go_at_call 33;refine (withLines_any _ _).mono ?_;rintro e wB ⟨bB,rfl,hB,kB⟩)|(go_at_call 34;refine (withSpan_any _ _).mono ?_;rintro e wC ⟨bC,rfl,hC,kC⟩)|(go_at_call 35;refine (withPromote_any _ _).mono ?_;rintro e wD ⟨bD,rfl,hD,kD⟩)|(go_at_call 36;refine (withSkip_any _ _).mono ?_;rintro e wE ⟨bE,rfl,hE,kE⟩)|(go_at_call 37;refine (withPres_any _ _).mono ?_;rintro e wF ⟨bF,rfl,hF,kF⟩)|(go_at_call 31;refine (plug_any _ _ _ _ _ _ _ ⟨#[]⟩ (padOut p) _ _ _ _ pr sk ps HPI.out HLS.out HSS.out (cell_keep kF (cell_keep kE (cell_keep kD (cell_keep kC (cell_keep kB hA))))) (cell_keep kF (cell_keep kE (cell_keep kD (cell_keep kC hB)))) (cell_keep kF (cell_keep kE (cell_keep kD hC))) (cell_keep kF (cell_keep kE hD)) (cell_keep kF hE) hF).mono ?_;rintro e wG ⟨tp,rfl,ht1,ht2,kG⟩))
   all_goals
    go_wp2
    go_ret
    have b1:=below_first kA
    have b2:=b1.trans (kB.mono b1.size)
    have b3:=b2.trans (kC.mono b2.size)
    have b4:=b3.trans (kD.mono b3.size)
    have b5:=b4.trans (kE.mono b4.size)
    have b6:=b5.trans (kF.mono b5.size)
    have b7:=b6.trans ((Below.refl wF.heap.size wF).alloc (Nat.le_refl _) (optRow bA bB bC bD bE bF) |>.mono b6.size)
    exact ⟨_,rfl,Nat.le_trans b6.size ht1,ht2,b7.trans (kG.mono b7.size)⟩
end Go.Proofs.YtbheflncgmhadaaGreat.Hand
