import JvmDerived
import JvmDerived.Pilot.@@N@@Statement
import JvmDerived.Pilot.@@N@@Code
set_option linter.unusedVariables false
set_option linter.unusedSimpArgs false
namespace Jvm.RoadKit
open Sem ClassFile Op Lib Jvm.Stand Jvm.Free Jvm.LawKit
section New
variable {p : Program} {l : Launch} {e : Env} {R : Room} {s : State} {m : MethodId} {args : Array Value} {below : List Frame} {meth : Method} {c : Code} {T : State} {locs : List Loc} {cells slots : Nat}
theorem retI (X : Stand p l e R s m args below meth c T locs cells slots) (hx : p.tables.exec = Jvm.exec) {pc : Nat} {Ls : Array Slot} {z : Int32} {rest : List Value} (hret : meth.sig.returnType = some .int) (hd : decode c.code pc = .ok (.ireturn, 1)) {fs : List Frame}
    (hl : ∀ (f : JFrame) (acts : List Action), f.method = m → f.locked = none → f.entered = [] → (doReturn e (T.setTop f) acts (some (.int z))).1 = T.setFrames fs) : Steps p.tables e below (T.setTop (mkF m pc Ls (.int z :: rest))) (T.setFrames fs) := by
  have hm' : T.vm.method? m = some meth := X.method'
  have hn : narrow .int (.int z) = .int z := rfl
  show Steps p.tables e below (T.setTop { method := m, pc := pc, locals := Ls, stack := _ :: rest, locked := none }) _
  jvm_step X.here [X.here.top, hx, hd, hm', hret, hn]
  first | (intro acts; rw [hl _ acts rfl rfl rfl]) | rw [hl _ _ rfl rfl rfl]
  exact Steps.refl _
end New
end Jvm.RoadKit
namespace Jvm.Pilot.@@N@@
open Jvm Jvm.ClassFile Sem Op Lib Jvm.Free Jvm.Stand Jvm.LawKit Jvm.RoadKit Bundle Jvm.Pilot.@@N@@.Jvm.D
theorem d3_0 : decode method_3_code 0 = .ok (.iload_n 0, 1) := by decide +kernel
theorem d3_1 : decode method_3_code 1 = .ok (.bipush 10, 2) := by decide +kernel
theorem d3_3 : decode method_3_code 3 = .ok (.if_icmp .ge 11, 3) := by decide +kernel
theorem d3_6 : decode method_3_code 6 = .ok (.bipush 48, 2) := by decide +kernel
theorem d3_8 : decode method_3_code 8 = .ok (.iload_n 0, 1) := by decide +kernel
theorem d3_9 : decode method_3_code 9 = .ok (.iadd, 1) := by decide +kernel
theorem d3_10 : decode method_3_code 10 = .ok (.istore_n 1, 1) := by decide +kernel
theorem d3_11 : decode method_3_code 11 = .ok (.goto 11, 3) := by decide +kernel
theorem d3_14 : decode method_3_code 14 = .ok (.bipush 65, 2) := by decide +kernel
theorem d3_16 : decode method_3_code 16 = .ok (.iload_n 0, 1) := by decide +kernel
theorem d3_17 : decode method_3_code 17 = .ok (.bipush 10, 2) := by decide +kernel
theorem d3_19 : decode method_3_code 19 = .ok (.isub, 1) := by decide +kernel
theorem d3_20 : decode method_3_code 20 = .ok (.iadd, 1) := by decide +kernel
theorem d3_21 : decode method_3_code 21 = .ok (.istore_n 1, 1) := by decide +kernel
theorem d3_22 : decode method_3_code 22 = .ok (.iload_n 1, 1) := by decide +kernel
theorem d3_23 : decode method_3_code 23 = .ok (.ireturn, 1) := by decide +kernel
theorem pn_3 : plainName "com/example/open_brace/openbrace/text/EscapesHexValuePinLaw" = true := by first | (simp [plainName, overriddenIn]; done) | decide +kernel
theorem ef_3 (m : MethodId) (i0 : Int32) : entryFrame m #[(.int i0)] 2 = mkF m 0 #[.val (.int i0), .unset] [] := by first | (simp [entryFrame, mkF, argsToLocals, Value.category]; done) | rfl
def own_f3_0 (i0 : Int32) : Int32 :=
  (if i0 < (10 : Int32) then ((48 : Int32) + i0) else ((65 : Int32) + (i0 - (10 : Int32))))
set_option maxRecDepth 65536 in
set_option maxHeartbeats 40000000 in
theorem own_b3_0 {p : Program} {l : Launch} {e : Env} {s : State} {m : MethodId} {args : Array Value} {below : List Frame} {meth : Method} {c : Code} {Z : State} {a0_ : Array Value} (hx : p.tables.exec = Jvm.exec) (hZ : Z.Warmed39 s.vm) (hw : ∀ d ∈ tables_1, d.before a0_ Z = true) (hby : c.code = method_3_code) (hml : c.maxLocals = 2) (hown : s.vm.findClass "com/example/open_brace/openbrace/text/EscapesHexValuePinLaw" = some m.cls) (hret : meth.sig.returnType = some .int) {T0 : State} {locs : List Loc} {cells slots : Nat} {h0 : Heap} (i0 : Int32)
    (X0 : Stand p l e ({ frames := 0, cells := 0, slots := 0, locals := 0 } : Room) s m args below meth c T0 locs cells slots) (e0 : T0.heap = h0) (hcl : cells ≤ ({ frames := 0, cells := 0, slots := 0, locals := 0 } : Room).cells) (hsl : slots ≤ ({ frames := 0, cells := 0, slots := 0, locals := 0 } : Room).slots)  :
    ∃ T', Stand p l e ({ frames := 0, cells := 0, slots := 0, locals := 0 } : Room) s m args below meth c T' locs cells slots ∧ T'.heap = h0 ∧ ∀ fs, (∀ (f : JFrame) (acts : List Action), f.method = m → f.locked = none → f.entered = [] → (doReturn e (T'.setTop f) acts (some (.int (own_f3_0 i0)))).1 = T'.setFrames fs) → Steps p.tables e below (T0.setTop (mkF m 0 #[.val (.int i0), .unset] [])) (T'.setFrames fs) := by
  have pre1 : ∀ target, Steps p.tables e below (T0.setTop (mkF m 3 #[.val (.int i0), .unset] [(.int (10 : Int32)), (.int i0)])) target → Steps p.tables e below (T0.setTop (mkF m 0 #[.val (.int i0), .unset] [])) target := by
    intro target kt
    show Steps p.tables e below (T0.setTop (mkF m 0 #[.val (.int i0), .unset] [])) _
    refine XS.iloadN X0.here hx rfl (hb hby d3_0) rfl ?_
    show Steps p.tables e below (T0.setTop (mkF m 1 #[.val (.int i0), .unset] [(.int i0)])) _
    refine XS.bipush X0.here hx rfl (hb hby d3_1) ?_
    exact kt
  by_cases hc3 : i0 < (10 : Int32)
  · refine ⟨T0, X0, e0, fun fs hr => ?_⟩
    have hv : (own_f3_0 i0) = ((48 : Int32) + i0) := by unfold own_f3_0; rw [if_pos hc3]
    rw [hv] at hr
    refine pre1 _ ?_
    show Steps p.tables e below (T0.setTop (mkF m 3 #[.val (.int i0), .unset] [(.int (10 : Int32)), (.int i0)])) _
    refine XS.icmpNo X0.here hx rfl (hb hby d3_3) rfl (tlt hc3).2.1 ?_
    show Steps p.tables e below (T0.setTop (mkF m 6 #[.val (.int i0), .unset] [])) _
    refine XS.bipush X0.here hx rfl (hb hby d3_6) ?_
    show Steps p.tables e below (T0.setTop (mkF m 8 #[.val (.int i0), .unset] [(.int (48 : Int32))])) _
    refine XS.iloadN X0.here hx rfl (hb hby d3_8) rfl ?_
    show Steps p.tables e below (T0.setTop (mkF m 9 #[.val (.int i0), .unset] [(.int i0), (.int (48 : Int32))])) _
    refine XS.iadd X0.here hx rfl (hb hby d3_9) rfl ?_
    show Steps p.tables e below (T0.setTop (mkF m 10 #[.val (.int i0), .unset] [(.int ((48 : Int32) + i0))])) _
    refine XS.istoreN X0.here hx rfl (hb hby d3_10) rfl (l' := #[.val (.int i0), .val (.int ((48 : Int32) + i0))]) rfl ?_
    show Steps p.tables e below (T0.setTop (mkF m 11 #[.val (.int i0), .val (.int ((48 : Int32) + i0))] [])) _
    refine XS.goto X0.here hx rfl (pc0 := 11) (pc' := 22) rfl (hb hby d3_11) (by decide) (by decide) ?_
    show Steps p.tables e below (T0.setTop (mkF m 22 #[.val (.int i0), .val (.int ((48 : Int32) + i0))] [])) _
    refine XS.iloadN X0.here hx rfl (hb hby d3_22) rfl ?_
    show Steps p.tables e below (T0.setTop (mkF m 23 #[.val (.int i0), .val (.int ((48 : Int32) + i0))] [(.int ((48 : Int32) + i0))])) _
    exact retI X0 hx hret (hb hby d3_23) hr
  · refine ⟨T0, X0, e0, fun fs hr => ?_⟩
    have hv : (own_f3_0 i0) = ((65 : Int32) + (i0 - (10 : Int32))) := by unfold own_f3_0; rw [if_neg hc3]
    rw [hv] at hr
    refine pre1 _ ?_
    show Steps p.tables e below (T0.setTop (mkF m 3 #[.val (.int i0), .unset] [(.int (10 : Int32)), (.int i0)])) _
    refine XS.icmpYes X0.here hx rfl (pc0 := 3) (pc' := 14) rfl (hb hby d3_3) rfl (flt hc3).2.1 (by decide) (by decide) ?_
    show Steps p.tables e below (T0.setTop (mkF m 14 #[.val (.int i0), .unset] [])) _
    refine XS.bipush X0.here hx rfl (hb hby d3_14) ?_
    show Steps p.tables e below (T0.setTop (mkF m 16 #[.val (.int i0), .unset] [(.int (65 : Int32))])) _
    refine XS.iloadN X0.here hx rfl (hb hby d3_16) rfl ?_
    show Steps p.tables e below (T0.setTop (mkF m 17 #[.val (.int i0), .unset] [(.int i0), (.int (65 : Int32))])) _
    refine XS.bipush X0.here hx rfl (hb hby d3_17) ?_
    show Steps p.tables e below (T0.setTop (mkF m 19 #[.val (.int i0), .unset] [(.int (10 : Int32)), (.int i0), (.int (65 : Int32))])) _
    refine XS.isub X0.here hx rfl (hb hby d3_19) rfl ?_
    show Steps p.tables e below (T0.setTop (mkF m 20 #[.val (.int i0), .unset] [(.int (i0 - (10 : Int32))), (.int (65 : Int32))])) _
    refine XS.iadd X0.here hx rfl (hb hby d3_20) rfl ?_
    show Steps p.tables e below (T0.setTop (mkF m 21 #[.val (.int i0), .unset] [(.int ((65 : Int32) + (i0 - (10 : Int32))))])) _
    refine XS.istoreN X0.here hx rfl (hb hby d3_21) rfl (l' := #[.val (.int i0), .val (.int ((65 : Int32) + (i0 - (10 : Int32))))]) rfl ?_
    show Steps p.tables e below (T0.setTop (mkF m 22 #[.val (.int i0), .val (.int ((65 : Int32) + (i0 - (10 : Int32))))] [])) _
    refine XS.iloadN X0.here hx rfl (hb hby d3_22) rfl ?_
    show Steps p.tables e below (T0.setTop (mkF m 23 #[.val (.int i0), .val (.int ((65 : Int32) + (i0 - (10 : Int32))))] [(.int ((65 : Int32) + (i0 - (10 : Int32))))])) _
    exact retI X0 hx hret (hb hby d3_23) hr
def Q3 (Z : State) (i0 : Int32) (h0 : Heap) (n0 : Nat) (v : Option Value) (h : Heap) (L : List Loc) : Prop := v = some (.int (own_f3_0 i0)) ∧ L = [] ∧ h = h0
set_option maxRecDepth 65536 in
set_option maxHeartbeats 40000000 in
theorem rm3 (l : Launch) (Z : State) (a0_ : Array Value) (hw : ∀ d ∈ tables_1, d.before a0_ Z = true) (ws : List Jvm.Cond) (i0 : Int32) (h0 : Heap) (n0 : Nat) (Z0 : n0 ≤ h0.size)  :
    MetFree l (⟨"com/example/open_brace/openbrace/text/EscapesHexValuePinLaw", "upperDigit", "(I)I"⟩ : MethodName) (head1 (Jvm.Cond.code (⟨"com/example/open_brace/openbrace/text/EscapesHexValuePinLaw", "upperDigit", "(I)I"⟩ : MethodName) method_3_code 2 (some .int) :: ws) ({ frames := 0, cells := 0, slots := 0, locals := 0 } : Room)) (fun a U => a = #[(.int i0)] ∧ Z.Warmed39 U.vm ∧ U.heap = h0) (fun _ _ _ _ _ => True) (fun _ U o U' => ∃ v L, o = .returned v ∧ Q3 Z i0 h0 n0 v U'.heap L ∧ FrameEnd U o U' L ({ frames := 0, cells := 0, slots := 0, locals := 0 } : Room).cells ({ frames := 0, cells := 0, slots := 0, locals := 0 } : Room).slots) := by
  refine MetFree.of_bodySF (plainFor_of_name pn_3) hisR ?_
  intro p e s m args below meth c s₁ Bd hml0 hP hK
  obtain ⟨rfl, hZ, hh⟩ := hP
  have hx := Bd.exec
  have hby := Bd.bytes
  have hml : c.maxLocals = 2 := hml0
  have hown : s.vm.findClass "com/example/open_brace/openbrace/text/EscapesHexValuePinLaw" = some m.cls := findClass_of_methodNamed Bd.named
  have X0 : Stand p l e ({ frames := 0, cells := 0, slots := 0, locals := 0 } : Room) s m #[(.int i0)] below meth c s₁ [] 0 0 := Stand.of_body Bd
  have e0 : s₁.heap = h0 := by rw [← hh, Bd.state]; rfl
  obtain ⟨T', X', e', st'⟩ := own_b3_0 hx hZ hw hby hml hown Bd.returns  i0 X0 e0 (by decide) (by decide) 
  obtain ⟨fs, hr, hrun, hended, hW, hsame⟩ := X'.leave (v := some (.int (own_f3_0 i0))) (fun h => by rw [Bd.returns] at h; cases h)
  refine ⟨_, _, castTop (ef_3 m i0) (st' fs hr), hrun, hended, _, _, rfl, ?_, ⟨_, rfl⟩, hW, hsame.mono (by decide) (by decide)⟩
  exact ⟨rfl, rfl, e'⟩
theorem d1_0 : decode method_2_code 0 = .ok (.iload_n 0, 1) := by decide +kernel
theorem d1_1 : decode method_2_code 1 = .ok (.bipush 10, 2) := by decide +kernel
theorem d1_3 : decode method_2_code 3 = .ok (.if_icmp .ge 11, 3) := by decide +kernel
theorem d1_6 : decode method_2_code 6 = .ok (.bipush 48, 2) := by decide +kernel
theorem d1_8 : decode method_2_code 8 = .ok (.iload_n 0, 1) := by decide +kernel
theorem d1_9 : decode method_2_code 9 = .ok (.iadd, 1) := by decide +kernel
theorem d1_10 : decode method_2_code 10 = .ok (.istore_n 1, 1) := by decide +kernel
theorem d1_11 : decode method_2_code 11 = .ok (.goto 11, 3) := by decide +kernel
theorem d1_14 : decode method_2_code 14 = .ok (.bipush 97, 2) := by decide +kernel
theorem d1_16 : decode method_2_code 16 = .ok (.iload_n 0, 1) := by decide +kernel
theorem d1_17 : decode method_2_code 17 = .ok (.bipush 10, 2) := by decide +kernel
theorem d1_19 : decode method_2_code 19 = .ok (.isub, 1) := by decide +kernel
theorem d1_20 : decode method_2_code 20 = .ok (.iadd, 1) := by decide +kernel
theorem d1_21 : decode method_2_code 21 = .ok (.istore_n 1, 1) := by decide +kernel
theorem d1_22 : decode method_2_code 22 = .ok (.iload_n 1, 1) := by decide +kernel
theorem d1_23 : decode method_2_code 23 = .ok (.ireturn, 1) := by decide +kernel
theorem pn_1 : plainName "com/example/open_brace/openbrace/text/EscapesHexValuePinLaw" = true := by first | (simp [plainName, overriddenIn]; done) | decide +kernel
theorem ef_1 (m : MethodId) (i0 : Int32) : entryFrame m #[(.int i0)] 2 = mkF m 0 #[.val (.int i0), .unset] [] := by first | (simp [entryFrame, mkF, argsToLocals, Value.category]; done) | rfl
def own_f1_0 (i0 : Int32) : Int32 :=
  (if i0 < (10 : Int32) then ((48 : Int32) + i0) else ((97 : Int32) + (i0 - (10 : Int32))))
set_option maxRecDepth 65536 in
set_option maxHeartbeats 40000000 in
theorem own_b1_0 {p : Program} {l : Launch} {e : Env} {s : State} {m : MethodId} {args : Array Value} {below : List Frame} {meth : Method} {c : Code} {Z : State} {a0_ : Array Value} (hx : p.tables.exec = Jvm.exec) (hZ : Z.Warmed39 s.vm) (hw : ∀ d ∈ tables_1, d.before a0_ Z = true) (hby : c.code = method_2_code) (hml : c.maxLocals = 2) (hown : s.vm.findClass "com/example/open_brace/openbrace/text/EscapesHexValuePinLaw" = some m.cls) (hret : meth.sig.returnType = some .int) {T0 : State} {locs : List Loc} {cells slots : Nat} {h0 : Heap} (i0 : Int32)
    (X0 : Stand p l e ({ frames := 0, cells := 0, slots := 0, locals := 0 } : Room) s m args below meth c T0 locs cells slots) (e0 : T0.heap = h0) (hcl : cells ≤ ({ frames := 0, cells := 0, slots := 0, locals := 0 } : Room).cells) (hsl : slots ≤ ({ frames := 0, cells := 0, slots := 0, locals := 0 } : Room).slots)  :
    ∃ T', Stand p l e ({ frames := 0, cells := 0, slots := 0, locals := 0 } : Room) s m args below meth c T' locs cells slots ∧ T'.heap = h0 ∧ ∀ fs, (∀ (f : JFrame) (acts : List Action), f.method = m → f.locked = none → f.entered = [] → (doReturn e (T'.setTop f) acts (some (.int (own_f1_0 i0)))).1 = T'.setFrames fs) → Steps p.tables e below (T0.setTop (mkF m 0 #[.val (.int i0), .unset] [])) (T'.setFrames fs) := by
  have pre1 : ∀ target, Steps p.tables e below (T0.setTop (mkF m 3 #[.val (.int i0), .unset] [(.int (10 : Int32)), (.int i0)])) target → Steps p.tables e below (T0.setTop (mkF m 0 #[.val (.int i0), .unset] [])) target := by
    intro target kt
    show Steps p.tables e below (T0.setTop (mkF m 0 #[.val (.int i0), .unset] [])) _
    refine XS.iloadN X0.here hx rfl (hb hby d1_0) rfl ?_
    show Steps p.tables e below (T0.setTop (mkF m 1 #[.val (.int i0), .unset] [(.int i0)])) _
    refine XS.bipush X0.here hx rfl (hb hby d1_1) ?_
    exact kt
  by_cases hc3 : i0 < (10 : Int32)
  · refine ⟨T0, X0, e0, fun fs hr => ?_⟩
    have hv : (own_f1_0 i0) = ((48 : Int32) + i0) := by unfold own_f1_0; rw [if_pos hc3]
    rw [hv] at hr
    refine pre1 _ ?_
    show Steps p.tables e below (T0.setTop (mkF m 3 #[.val (.int i0), .unset] [(.int (10 : Int32)), (.int i0)])) _
    refine XS.icmpNo X0.here hx rfl (hb hby d1_3) rfl (tlt hc3).2.1 ?_
    show Steps p.tables e below (T0.setTop (mkF m 6 #[.val (.int i0), .unset] [])) _
    refine XS.bipush X0.here hx rfl (hb hby d1_6) ?_
    show Steps p.tables e below (T0.setTop (mkF m 8 #[.val (.int i0), .unset] [(.int (48 : Int32))])) _
    refine XS.iloadN X0.here hx rfl (hb hby d1_8) rfl ?_
    show Steps p.tables e below (T0.setTop (mkF m 9 #[.val (.int i0), .unset] [(.int i0), (.int (48 : Int32))])) _
    refine XS.iadd X0.here hx rfl (hb hby d1_9) rfl ?_
    show Steps p.tables e below (T0.setTop (mkF m 10 #[.val (.int i0), .unset] [(.int ((48 : Int32) + i0))])) _
    refine XS.istoreN X0.here hx rfl (hb hby d1_10) rfl (l' := #[.val (.int i0), .val (.int ((48 : Int32) + i0))]) rfl ?_
    show Steps p.tables e below (T0.setTop (mkF m 11 #[.val (.int i0), .val (.int ((48 : Int32) + i0))] [])) _
    refine XS.goto X0.here hx rfl (pc0 := 11) (pc' := 22) rfl (hb hby d1_11) (by decide) (by decide) ?_
    show Steps p.tables e below (T0.setTop (mkF m 22 #[.val (.int i0), .val (.int ((48 : Int32) + i0))] [])) _
    refine XS.iloadN X0.here hx rfl (hb hby d1_22) rfl ?_
    show Steps p.tables e below (T0.setTop (mkF m 23 #[.val (.int i0), .val (.int ((48 : Int32) + i0))] [(.int ((48 : Int32) + i0))])) _
    exact retI X0 hx hret (hb hby d1_23) hr
  · refine ⟨T0, X0, e0, fun fs hr => ?_⟩
    have hv : (own_f1_0 i0) = ((97 : Int32) + (i0 - (10 : Int32))) := by unfold own_f1_0; rw [if_neg hc3]
    rw [hv] at hr
    refine pre1 _ ?_
    show Steps p.tables e below (T0.setTop (mkF m 3 #[.val (.int i0), .unset] [(.int (10 : Int32)), (.int i0)])) _
    refine XS.icmpYes X0.here hx rfl (pc0 := 3) (pc' := 14) rfl (hb hby d1_3) rfl (flt hc3).2.1 (by decide) (by decide) ?_
    show Steps p.tables e below (T0.setTop (mkF m 14 #[.val (.int i0), .unset] [])) _
    refine XS.bipush X0.here hx rfl (hb hby d1_14) ?_
    show Steps p.tables e below (T0.setTop (mkF m 16 #[.val (.int i0), .unset] [(.int (97 : Int32))])) _
    refine XS.iloadN X0.here hx rfl (hb hby d1_16) rfl ?_
    show Steps p.tables e below (T0.setTop (mkF m 17 #[.val (.int i0), .unset] [(.int i0), (.int (97 : Int32))])) _
    refine XS.bipush X0.here hx rfl (hb hby d1_17) ?_
    show Steps p.tables e below (T0.setTop (mkF m 19 #[.val (.int i0), .unset] [(.int (10 : Int32)), (.int i0), (.int (97 : Int32))])) _
    refine XS.isub X0.here hx rfl (hb hby d1_19) rfl ?_
    show Steps p.tables e below (T0.setTop (mkF m 20 #[.val (.int i0), .unset] [(.int (i0 - (10 : Int32))), (.int (97 : Int32))])) _
    refine XS.iadd X0.here hx rfl (hb hby d1_20) rfl ?_
    show Steps p.tables e below (T0.setTop (mkF m 21 #[.val (.int i0), .unset] [(.int ((97 : Int32) + (i0 - (10 : Int32))))])) _
    refine XS.istoreN X0.here hx rfl (hb hby d1_21) rfl (l' := #[.val (.int i0), .val (.int ((97 : Int32) + (i0 - (10 : Int32))))]) rfl ?_
    show Steps p.tables e below (T0.setTop (mkF m 22 #[.val (.int i0), .val (.int ((97 : Int32) + (i0 - (10 : Int32))))] [])) _
    refine XS.iloadN X0.here hx rfl (hb hby d1_22) rfl ?_
    show Steps p.tables e below (T0.setTop (mkF m 23 #[.val (.int i0), .val (.int ((97 : Int32) + (i0 - (10 : Int32))))] [(.int ((97 : Int32) + (i0 - (10 : Int32))))])) _
    exact retI X0 hx hret (hb hby d1_23) hr
def Q1 (Z : State) (i0 : Int32) (h0 : Heap) (n0 : Nat) (v : Option Value) (h : Heap) (L : List Loc) : Prop := v = some (.int (own_f1_0 i0)) ∧ L = [] ∧ h = h0
set_option maxRecDepth 65536 in
set_option maxHeartbeats 40000000 in
theorem rm1 (l : Launch) (Z : State) (a0_ : Array Value) (hw : ∀ d ∈ tables_1, d.before a0_ Z = true) (ws : List Jvm.Cond) (i0 : Int32) (h0 : Heap) (n0 : Nat) (Z0 : n0 ≤ h0.size)  :
    MetFree l (⟨"com/example/open_brace/openbrace/text/EscapesHexValuePinLaw", "lowerDigit", "(I)I"⟩ : MethodName) (head1 (Jvm.Cond.code (⟨"com/example/open_brace/openbrace/text/EscapesHexValuePinLaw", "lowerDigit", "(I)I"⟩ : MethodName) method_2_code 2 (some .int) :: ws) ({ frames := 0, cells := 0, slots := 0, locals := 0 } : Room)) (fun a U => a = #[(.int i0)] ∧ Z.Warmed39 U.vm ∧ U.heap = h0) (fun _ _ _ _ _ => True) (fun _ U o U' => ∃ v L, o = .returned v ∧ Q1 Z i0 h0 n0 v U'.heap L ∧ FrameEnd U o U' L ({ frames := 0, cells := 0, slots := 0, locals := 0 } : Room).cells ({ frames := 0, cells := 0, slots := 0, locals := 0 } : Room).slots) := by
  refine MetFree.of_bodySF (plainFor_of_name pn_1) hisR ?_
  intro p e s m args below meth c s₁ Bd hml0 hP hK
  obtain ⟨rfl, hZ, hh⟩ := hP
  have hx := Bd.exec
  have hby := Bd.bytes
  have hml : c.maxLocals = 2 := hml0
  have hown : s.vm.findClass "com/example/open_brace/openbrace/text/EscapesHexValuePinLaw" = some m.cls := findClass_of_methodNamed Bd.named
  have X0 : Stand p l e ({ frames := 0, cells := 0, slots := 0, locals := 0 } : Room) s m #[(.int i0)] below meth c s₁ [] 0 0 := Stand.of_body Bd
  have e0 : s₁.heap = h0 := by rw [← hh, Bd.state]; rfl
  obtain ⟨T', X', e', st'⟩ := own_b1_0 hx hZ hw hby hml hown Bd.returns  i0 X0 e0 (by decide) (by decide) 
  obtain ⟨fs, hr, hrun, hended, hW, hsame⟩ := X'.leave (v := some (.int (own_f1_0 i0))) (fun h => by rw [Bd.returns] at h; cases h)
  refine ⟨_, _, castTop (ef_1 m i0) (st' fs hr), hrun, hended, _, _, rfl, ?_, ⟨_, rfl⟩, hW, hsame.mono (by decide) (by decide)⟩
  exact ⟨rfl, rfl, e'⟩
theorem d2_0 : decode prog_93_method_5_code 0 = .ok (.iconst (-1), 1) := by decide +kernel
theorem d2_1 : decode prog_93_method_5_code 1 = .ok (.istore_n 1, 1) := by decide +kernel
theorem d2_2 : decode prog_93_method_5_code 2 = .ok (.iload_n 0, 1) := by decide +kernel
theorem d2_3 : decode prog_93_method_5_code 3 = .ok (.bipush 48, 2) := by decide +kernel
theorem d2_5 : decode prog_93_method_5_code 5 = .ok (.if_icmp .lt 17, 3) := by decide +kernel
theorem d2_8 : decode prog_93_method_5_code 8 = .ok (.iload_n 0, 1) := by decide +kernel
theorem d2_9 : decode prog_93_method_5_code 9 = .ok (.bipush 57, 2) := by decide +kernel
theorem d2_11 : decode prog_93_method_5_code 11 = .ok (.if_icmp .gt 11, 3) := by decide +kernel
theorem d2_14 : decode prog_93_method_5_code 14 = .ok (.iload_n 0, 1) := by decide +kernel
theorem d2_15 : decode prog_93_method_5_code 15 = .ok (.bipush 48, 2) := by decide +kernel
theorem d2_17 : decode prog_93_method_5_code 17 = .ok (.isub, 1) := by decide +kernel
theorem d2_18 : decode prog_93_method_5_code 18 = .ok (.istore_n 1, 1) := by decide +kernel
theorem d2_19 : decode prog_93_method_5_code 19 = .ok (.goto 46, 3) := by decide +kernel
theorem d2_22 : decode prog_93_method_5_code 22 = .ok (.iload_n 0, 1) := by decide +kernel
theorem d2_23 : decode prog_93_method_5_code 23 = .ok (.bipush 97, 2) := by decide +kernel
theorem d2_25 : decode prog_93_method_5_code 25 = .ok (.if_icmp .lt 20, 3) := by decide +kernel
theorem d2_28 : decode prog_93_method_5_code 28 = .ok (.iload_n 0, 1) := by decide +kernel
theorem d2_29 : decode prog_93_method_5_code 29 = .ok (.bipush 102, 2) := by decide +kernel
theorem d2_31 : decode prog_93_method_5_code 31 = .ok (.if_icmp .gt 14, 3) := by decide +kernel
theorem d2_34 : decode prog_93_method_5_code 34 = .ok (.iload_n 0, 1) := by decide +kernel
theorem d2_35 : decode prog_93_method_5_code 35 = .ok (.bipush 97, 2) := by decide +kernel
theorem d2_37 : decode prog_93_method_5_code 37 = .ok (.isub, 1) := by decide +kernel
theorem d2_38 : decode prog_93_method_5_code 38 = .ok (.bipush 10, 2) := by decide +kernel
theorem d2_40 : decode prog_93_method_5_code 40 = .ok (.iadd, 1) := by decide +kernel
theorem d2_41 : decode prog_93_method_5_code 41 = .ok (.istore_n 1, 1) := by decide +kernel
theorem d2_42 : decode prog_93_method_5_code 42 = .ok (.goto 23, 3) := by decide +kernel
theorem d2_45 : decode prog_93_method_5_code 45 = .ok (.iload_n 0, 1) := by decide +kernel
theorem d2_46 : decode prog_93_method_5_code 46 = .ok (.bipush 65, 2) := by decide +kernel
theorem d2_48 : decode prog_93_method_5_code 48 = .ok (.if_icmp .lt 17, 3) := by decide +kernel
theorem d2_51 : decode prog_93_method_5_code 51 = .ok (.iload_n 0, 1) := by decide +kernel
theorem d2_52 : decode prog_93_method_5_code 52 = .ok (.bipush 70, 2) := by decide +kernel
theorem d2_54 : decode prog_93_method_5_code 54 = .ok (.if_icmp .gt 11, 3) := by decide +kernel
theorem d2_57 : decode prog_93_method_5_code 57 = .ok (.iload_n 0, 1) := by decide +kernel
theorem d2_58 : decode prog_93_method_5_code 58 = .ok (.bipush 65, 2) := by decide +kernel
theorem d2_60 : decode prog_93_method_5_code 60 = .ok (.isub, 1) := by decide +kernel
theorem d2_61 : decode prog_93_method_5_code 61 = .ok (.bipush 10, 2) := by decide +kernel
theorem d2_63 : decode prog_93_method_5_code 63 = .ok (.iadd, 1) := by decide +kernel
theorem d2_64 : decode prog_93_method_5_code 64 = .ok (.istore_n 1, 1) := by decide +kernel
theorem d2_65 : decode prog_93_method_5_code 65 = .ok (.iload_n 1, 1) := by decide +kernel
theorem d2_66 : decode prog_93_method_5_code 66 = .ok (.ireturn, 1) := by decide +kernel
theorem pn_2 : plainName "com/example/open_brace/openbrace/text/Escapes" = true := by first | (simp [plainName, overriddenIn]; done) | decide +kernel
theorem ef_2 (m : MethodId) (i0 : Int32) : entryFrame m #[(.int i0)] 2 = mkF m 0 #[.val (.int i0), .unset] [] := by first | (simp [entryFrame, mkF, argsToLocals, Value.category]; done) | rfl
def own_f2_45 (i0 : Int32) (i1 : Int32) : Int32 :=
  (if i0 < (65 : Int32) then i1 else (if (70 : Int32) < i0 then i1 else ((i0 - (65 : Int32)) + (10 : Int32))))
def own_f2_22 (i0 : Int32) (i1 : Int32) : Int32 :=
  (if i0 < (97 : Int32) then (own_f2_45 i0 i1) else (if (102 : Int32) < i0 then (own_f2_45 i0 i1) else ((i0 - (97 : Int32)) + (10 : Int32))))
def own_f2_0 (i0 : Int32) : Int32 :=
  (if i0 < (48 : Int32) then (own_f2_22 i0 (-1 : Int32)) else (if (57 : Int32) < i0 then (own_f2_22 i0 (-1 : Int32)) else (i0 - (48 : Int32))))
set_option maxRecDepth 65536 in
set_option maxHeartbeats 40000000 in
theorem own_b2_45 {p : Program} {l : Launch} {e : Env} {s : State} {m : MethodId} {args : Array Value} {below : List Frame} {meth : Method} {c : Code} {Z : State} {a0_ : Array Value} (hx : p.tables.exec = Jvm.exec) (hZ : Z.Warmed39 s.vm) (hw : ∀ d ∈ tables_1, d.before a0_ Z = true) (hby : c.code = prog_93_method_5_code) (hml : c.maxLocals = 2) (hown : s.vm.findClass "com/example/open_brace/openbrace/text/Escapes" = some m.cls) (hret : meth.sig.returnType = some .int) {T0 : State} {locs : List Loc} {cells slots : Nat} {h0 : Heap} (i0 : Int32) (i1 : Int32)
    (X0 : Stand p l e ({ frames := 0, cells := 0, slots := 0, locals := 0 } : Room) s m args below meth c T0 locs cells slots) (e0 : T0.heap = h0) (hcl : cells ≤ ({ frames := 0, cells := 0, slots := 0, locals := 0 } : Room).cells) (hsl : slots ≤ ({ frames := 0, cells := 0, slots := 0, locals := 0 } : Room).slots)  :
    ∃ T', Stand p l e ({ frames := 0, cells := 0, slots := 0, locals := 0 } : Room) s m args below meth c T' locs cells slots ∧ T'.heap = h0 ∧ ∀ fs, (∀ (f : JFrame) (acts : List Action), f.method = m → f.locked = none → f.entered = [] → (doReturn e (T'.setTop f) acts (some (.int (own_f2_45 i0 i1)))).1 = T'.setFrames fs) → Steps p.tables e below (T0.setTop (mkF m 45 #[.val (.int i0), .val (.int i1)] [])) (T'.setFrames fs) := by
  have pre1 : ∀ target, Steps p.tables e below (T0.setTop (mkF m 48 #[.val (.int i0), .val (.int i1)] [(.int (65 : Int32)), (.int i0)])) target → Steps p.tables e below (T0.setTop (mkF m 45 #[.val (.int i0), .val (.int i1)] [])) target := by
    intro target kt
    show Steps p.tables e below (T0.setTop (mkF m 45 #[.val (.int i0), .val (.int i1)] [])) _
    refine XS.iloadN X0.here hx rfl (hb hby d2_45) rfl ?_
    show Steps p.tables e below (T0.setTop (mkF m 46 #[.val (.int i0), .val (.int i1)] [(.int i0)])) _
    refine XS.bipush X0.here hx rfl (hb hby d2_46) ?_
    exact kt
  by_cases hc48 : i0 < (65 : Int32)
  · refine ⟨T0, X0, e0, fun fs hr => ?_⟩
    have hv : (own_f2_45 i0 i1) = i1 := by unfold own_f2_45; rw [if_pos hc48]
    rw [hv] at hr
    refine pre1 _ ?_
    show Steps p.tables e below (T0.setTop (mkF m 48 #[.val (.int i0), .val (.int i1)] [(.int (65 : Int32)), (.int i0)])) _
    refine XS.icmpYes X0.here hx rfl (pc0 := 48) (pc' := 65) rfl (hb hby d2_48) rfl (tlt hc48).1 (by decide) (by decide) ?_
    show Steps p.tables e below (T0.setTop (mkF m 65 #[.val (.int i0), .val (.int i1)] [])) _
    refine XS.iloadN X0.here hx rfl (hb hby d2_65) rfl ?_
    show Steps p.tables e below (T0.setTop (mkF m 66 #[.val (.int i0), .val (.int i1)] [(.int i1)])) _
    exact retI X0 hx hret (hb hby d2_66) hr
  · have pre2 : ∀ target, Steps p.tables e below (T0.setTop (mkF m 54 #[.val (.int i0), .val (.int i1)] [(.int (70 : Int32)), (.int i0)])) target → Steps p.tables e below (T0.setTop (mkF m 45 #[.val (.int i0), .val (.int i1)] [])) target := by
      intro target kt
      refine pre1 target ?_
      show Steps p.tables e below (T0.setTop (mkF m 48 #[.val (.int i0), .val (.int i1)] [(.int (65 : Int32)), (.int i0)])) _
      refine XS.icmpNo X0.here hx rfl (hb hby d2_48) rfl (flt hc48).1 ?_
      show Steps p.tables e below (T0.setTop (mkF m 51 #[.val (.int i0), .val (.int i1)] [])) _
      refine XS.iloadN X0.here hx rfl (hb hby d2_51) rfl ?_
      show Steps p.tables e below (T0.setTop (mkF m 52 #[.val (.int i0), .val (.int i1)] [(.int i0)])) _
      refine XS.bipush X0.here hx rfl (hb hby d2_52) ?_
      exact kt
    by_cases hc54 : (70 : Int32) < i0
    · refine ⟨T0, X0, e0, fun fs hr => ?_⟩
      have hv : (own_f2_45 i0 i1) = i1 := by unfold own_f2_45; rw [if_neg hc48, if_pos hc54]
      rw [hv] at hr
      refine pre2 _ ?_
      show Steps p.tables e below (T0.setTop (mkF m 54 #[.val (.int i0), .val (.int i1)] [(.int (70 : Int32)), (.int i0)])) _
      refine XS.icmpYes X0.here hx rfl (pc0 := 54) (pc' := 65) rfl (hb hby d2_54) rfl (tlt hc54).2.2.1 (by decide) (by decide) ?_
      show Steps p.tables e below (T0.setTop (mkF m 65 #[.val (.int i0), .val (.int i1)] [])) _
      refine XS.iloadN X0.here hx rfl (hb hby d2_65) rfl ?_
      show Steps p.tables e below (T0.setTop (mkF m 66 #[.val (.int i0), .val (.int i1)] [(.int i1)])) _
      exact retI X0 hx hret (hb hby d2_66) hr
    · refine ⟨T0, X0, e0, fun fs hr => ?_⟩
      have hv : (own_f2_45 i0 i1) = ((i0 - (65 : Int32)) + (10 : Int32)) := by unfold own_f2_45; rw [if_neg hc48, if_neg hc54]
      rw [hv] at hr
      refine pre2 _ ?_
      show Steps p.tables e below (T0.setTop (mkF m 54 #[.val (.int i0), .val (.int i1)] [(.int (70 : Int32)), (.int i0)])) _
      refine XS.icmpNo X0.here hx rfl (hb hby d2_54) rfl (flt hc54).2.2.1 ?_
      show Steps p.tables e below (T0.setTop (mkF m 57 #[.val (.int i0), .val (.int i1)] [])) _
      refine XS.iloadN X0.here hx rfl (hb hby d2_57) rfl ?_
      show Steps p.tables e below (T0.setTop (mkF m 58 #[.val (.int i0), .val (.int i1)] [(.int i0)])) _
      refine XS.bipush X0.here hx rfl (hb hby d2_58) ?_
      show Steps p.tables e below (T0.setTop (mkF m 60 #[.val (.int i0), .val (.int i1)] [(.int (65 : Int32)), (.int i0)])) _
      refine XS.isub X0.here hx rfl (hb hby d2_60) rfl ?_
      show Steps p.tables e below (T0.setTop (mkF m 61 #[.val (.int i0), .val (.int i1)] [(.int (i0 - (65 : Int32)))])) _
      refine XS.bipush X0.here hx rfl (hb hby d2_61) ?_
      show Steps p.tables e below (T0.setTop (mkF m 63 #[.val (.int i0), .val (.int i1)] [(.int (10 : Int32)), (.int (i0 - (65 : Int32)))])) _
      refine XS.iadd X0.here hx rfl (hb hby d2_63) rfl ?_
      show Steps p.tables e below (T0.setTop (mkF m 64 #[.val (.int i0), .val (.int i1)] [(.int ((i0 - (65 : Int32)) + (10 : Int32)))])) _
      refine XS.istoreN X0.here hx rfl (hb hby d2_64) rfl (l' := #[.val (.int i0), .val (.int ((i0 - (65 : Int32)) + (10 : Int32)))]) rfl ?_
      show Steps p.tables e below (T0.setTop (mkF m 65 #[.val (.int i0), .val (.int ((i0 - (65 : Int32)) + (10 : Int32)))] [])) _
      refine XS.iloadN X0.here hx rfl (hb hby d2_65) rfl ?_
      show Steps p.tables e below (T0.setTop (mkF m 66 #[.val (.int i0), .val (.int ((i0 - (65 : Int32)) + (10 : Int32)))] [(.int ((i0 - (65 : Int32)) + (10 : Int32)))])) _
      exact retI X0 hx hret (hb hby d2_66) hr
set_option maxRecDepth 65536 in
set_option maxHeartbeats 40000000 in
theorem own_b2_22 {p : Program} {l : Launch} {e : Env} {s : State} {m : MethodId} {args : Array Value} {below : List Frame} {meth : Method} {c : Code} {Z : State} {a0_ : Array Value} (hx : p.tables.exec = Jvm.exec) (hZ : Z.Warmed39 s.vm) (hw : ∀ d ∈ tables_1, d.before a0_ Z = true) (hby : c.code = prog_93_method_5_code) (hml : c.maxLocals = 2) (hown : s.vm.findClass "com/example/open_brace/openbrace/text/Escapes" = some m.cls) (hret : meth.sig.returnType = some .int) {T0 : State} {locs : List Loc} {cells slots : Nat} {h0 : Heap} (i0 : Int32) (i1 : Int32)
    (X0 : Stand p l e ({ frames := 0, cells := 0, slots := 0, locals := 0 } : Room) s m args below meth c T0 locs cells slots) (e0 : T0.heap = h0) (hcl : cells ≤ ({ frames := 0, cells := 0, slots := 0, locals := 0 } : Room).cells) (hsl : slots ≤ ({ frames := 0, cells := 0, slots := 0, locals := 0 } : Room).slots)  :
    ∃ T', Stand p l e ({ frames := 0, cells := 0, slots := 0, locals := 0 } : Room) s m args below meth c T' locs cells slots ∧ T'.heap = h0 ∧ ∀ fs, (∀ (f : JFrame) (acts : List Action), f.method = m → f.locked = none → f.entered = [] → (doReturn e (T'.setTop f) acts (some (.int (own_f2_22 i0 i1)))).1 = T'.setFrames fs) → Steps p.tables e below (T0.setTop (mkF m 22 #[.val (.int i0), .val (.int i1)] [])) (T'.setFrames fs) := by
  have pre1 : ∀ target, Steps p.tables e below (T0.setTop (mkF m 25 #[.val (.int i0), .val (.int i1)] [(.int (97 : Int32)), (.int i0)])) target → Steps p.tables e below (T0.setTop (mkF m 22 #[.val (.int i0), .val (.int i1)] [])) target := by
    intro target kt
    show Steps p.tables e below (T0.setTop (mkF m 22 #[.val (.int i0), .val (.int i1)] [])) _
    refine XS.iloadN X0.here hx rfl (hb hby d2_22) rfl ?_
    show Steps p.tables e below (T0.setTop (mkF m 23 #[.val (.int i0), .val (.int i1)] [(.int i0)])) _
    refine XS.bipush X0.here hx rfl (hb hby d2_23) ?_
    exact kt
  by_cases hc25 : i0 < (97 : Int32)
  · have pre2 : ∀ target, Steps p.tables e below (T0.setTop (mkF m 45 #[.val (.int i0), .val (.int i1)] [])) target → Steps p.tables e below (T0.setTop (mkF m 22 #[.val (.int i0), .val (.int i1)] [])) target := by
      intro target kt
      refine pre1 target ?_
      show Steps p.tables e below (T0.setTop (mkF m 25 #[.val (.int i0), .val (.int i1)] [(.int (97 : Int32)), (.int i0)])) _
      refine XS.icmpYes X0.here hx rfl (pc0 := 25) (pc' := 45) rfl (hb hby d2_25) rfl (tlt hc25).1 (by decide) (by decide) ?_
      exact kt
    obtain ⟨T3, X3, e3, st3⟩ := own_b2_45 hx hZ hw hby hml hown hret i0 i1  X0 e0 hcl hsl  
    have hv : (own_f2_22 i0 i1) = (own_f2_45 i0 i1) := by unfold own_f2_22; rw [if_pos hc25]
    exact ⟨T3, X3, e3, fun fs hr => pre2 _ (st3 fs (by rw [hv] at hr; exact hr))⟩
  · have pre4 : ∀ target, Steps p.tables e below (T0.setTop (mkF m 31 #[.val (.int i0), .val (.int i1)] [(.int (102 : Int32)), (.int i0)])) target → Steps p.tables e below (T0.setTop (mkF m 22 #[.val (.int i0), .val (.int i1)] [])) target := by
      intro target kt
      refine pre1 target ?_
      show Steps p.tables e below (T0.setTop (mkF m 25 #[.val (.int i0), .val (.int i1)] [(.int (97 : Int32)), (.int i0)])) _
      refine XS.icmpNo X0.here hx rfl (hb hby d2_25) rfl (flt hc25).1 ?_
      show Steps p.tables e below (T0.setTop (mkF m 28 #[.val (.int i0), .val (.int i1)] [])) _
      refine XS.iloadN X0.here hx rfl (hb hby d2_28) rfl ?_
      show Steps p.tables e below (T0.setTop (mkF m 29 #[.val (.int i0), .val (.int i1)] [(.int i0)])) _
      refine XS.bipush X0.here hx rfl (hb hby d2_29) ?_
      exact kt
    by_cases hc31 : (102 : Int32) < i0
    · have pre5 : ∀ target, Steps p.tables e below (T0.setTop (mkF m 45 #[.val (.int i0), .val (.int i1)] [])) target → Steps p.tables e below (T0.setTop (mkF m 22 #[.val (.int i0), .val (.int i1)] [])) target := by
        intro target kt
        refine pre4 target ?_
        show Steps p.tables e below (T0.setTop (mkF m 31 #[.val (.int i0), .val (.int i1)] [(.int (102 : Int32)), (.int i0)])) _
        refine XS.icmpYes X0.here hx rfl (pc0 := 31) (pc' := 45) rfl (hb hby d2_31) rfl (tlt hc31).2.2.1 (by decide) (by decide) ?_
        exact kt
      obtain ⟨T6, X6, e6, st6⟩ := own_b2_45 hx hZ hw hby hml hown hret i0 i1  X0 e0 hcl hsl  
      have hv : (own_f2_22 i0 i1) = (own_f2_45 i0 i1) := by unfold own_f2_22; rw [if_neg hc25, if_pos hc31]
      exact ⟨T6, X6, e6, fun fs hr => pre5 _ (st6 fs (by rw [hv] at hr; exact hr))⟩
    · refine ⟨T0, X0, e0, fun fs hr => ?_⟩
      have hv : (own_f2_22 i0 i1) = ((i0 - (97 : Int32)) + (10 : Int32)) := by unfold own_f2_22; rw [if_neg hc25, if_neg hc31]
      rw [hv] at hr
      refine pre4 _ ?_
      show Steps p.tables e below (T0.setTop (mkF m 31 #[.val (.int i0), .val (.int i1)] [(.int (102 : Int32)), (.int i0)])) _
      refine XS.icmpNo X0.here hx rfl (hb hby d2_31) rfl (flt hc31).2.2.1 ?_
      show Steps p.tables e below (T0.setTop (mkF m 34 #[.val (.int i0), .val (.int i1)] [])) _
      refine XS.iloadN X0.here hx rfl (hb hby d2_34) rfl ?_
      show Steps p.tables e below (T0.setTop (mkF m 35 #[.val (.int i0), .val (.int i1)] [(.int i0)])) _
      refine XS.bipush X0.here hx rfl (hb hby d2_35) ?_
      show Steps p.tables e below (T0.setTop (mkF m 37 #[.val (.int i0), .val (.int i1)] [(.int (97 : Int32)), (.int i0)])) _
      refine XS.isub X0.here hx rfl (hb hby d2_37) rfl ?_
      show Steps p.tables e below (T0.setTop (mkF m 38 #[.val (.int i0), .val (.int i1)] [(.int (i0 - (97 : Int32)))])) _
      refine XS.bipush X0.here hx rfl (hb hby d2_38) ?_
      show Steps p.tables e below (T0.setTop (mkF m 40 #[.val (.int i0), .val (.int i1)] [(.int (10 : Int32)), (.int (i0 - (97 : Int32)))])) _
      refine XS.iadd X0.here hx rfl (hb hby d2_40) rfl ?_
      show Steps p.tables e below (T0.setTop (mkF m 41 #[.val (.int i0), .val (.int i1)] [(.int ((i0 - (97 : Int32)) + (10 : Int32)))])) _
      refine XS.istoreN X0.here hx rfl (hb hby d2_41) rfl (l' := #[.val (.int i0), .val (.int ((i0 - (97 : Int32)) + (10 : Int32)))]) rfl ?_
      show Steps p.tables e below (T0.setTop (mkF m 42 #[.val (.int i0), .val (.int ((i0 - (97 : Int32)) + (10 : Int32)))] [])) _
      refine XS.goto X0.here hx rfl (pc0 := 42) (pc' := 65) rfl (hb hby d2_42) (by decide) (by decide) ?_
      show Steps p.tables e below (T0.setTop (mkF m 65 #[.val (.int i0), .val (.int ((i0 - (97 : Int32)) + (10 : Int32)))] [])) _
      refine XS.iloadN X0.here hx rfl (hb hby d2_65) rfl ?_
      show Steps p.tables e below (T0.setTop (mkF m 66 #[.val (.int i0), .val (.int ((i0 - (97 : Int32)) + (10 : Int32)))] [(.int ((i0 - (97 : Int32)) + (10 : Int32)))])) _
      exact retI X0 hx hret (hb hby d2_66) hr
set_option maxRecDepth 65536 in
set_option maxHeartbeats 40000000 in
theorem own_b2_0 {p : Program} {l : Launch} {e : Env} {s : State} {m : MethodId} {args : Array Value} {below : List Frame} {meth : Method} {c : Code} {Z : State} {a0_ : Array Value} (hx : p.tables.exec = Jvm.exec) (hZ : Z.Warmed39 s.vm) (hw : ∀ d ∈ tables_1, d.before a0_ Z = true) (hby : c.code = prog_93_method_5_code) (hml : c.maxLocals = 2) (hown : s.vm.findClass "com/example/open_brace/openbrace/text/Escapes" = some m.cls) (hret : meth.sig.returnType = some .int) {T0 : State} {locs : List Loc} {cells slots : Nat} {h0 : Heap} (i0 : Int32)
    (X0 : Stand p l e ({ frames := 0, cells := 0, slots := 0, locals := 0 } : Room) s m args below meth c T0 locs cells slots) (e0 : T0.heap = h0) (hcl : cells ≤ ({ frames := 0, cells := 0, slots := 0, locals := 0 } : Room).cells) (hsl : slots ≤ ({ frames := 0, cells := 0, slots := 0, locals := 0 } : Room).slots)  :
    ∃ T', Stand p l e ({ frames := 0, cells := 0, slots := 0, locals := 0 } : Room) s m args below meth c T' locs cells slots ∧ T'.heap = h0 ∧ ∀ fs, (∀ (f : JFrame) (acts : List Action), f.method = m → f.locked = none → f.entered = [] → (doReturn e (T'.setTop f) acts (some (.int (own_f2_0 i0)))).1 = T'.setFrames fs) → Steps p.tables e below (T0.setTop (mkF m 0 #[.val (.int i0), .unset] [])) (T'.setFrames fs) := by
  have pre1 : ∀ target, Steps p.tables e below (T0.setTop (mkF m 5 #[.val (.int i0), .val (.int (-1 : Int32))] [(.int (48 : Int32)), (.int i0)])) target → Steps p.tables e below (T0.setTop (mkF m 0 #[.val (.int i0), .unset] [])) target := by
    intro target kt
    show Steps p.tables e below (T0.setTop (mkF m 0 #[.val (.int i0), .unset] [])) _
    refine XS.iconst X0.here hx rfl (hb hby d2_0) ?_
    show Steps p.tables e below (T0.setTop (mkF m 1 #[.val (.int i0), .unset] [(.int (-1 : Int32))])) _
    refine XS.istoreN X0.here hx rfl (hb hby d2_1) rfl (l' := #[.val (.int i0), .val (.int (-1 : Int32))]) rfl ?_
    show Steps p.tables e below (T0.setTop (mkF m 2 #[.val (.int i0), .val (.int (-1 : Int32))] [])) _
    refine XS.iloadN X0.here hx rfl (hb hby d2_2) rfl ?_
    show Steps p.tables e below (T0.setTop (mkF m 3 #[.val (.int i0), .val (.int (-1 : Int32))] [(.int i0)])) _
    refine XS.bipush X0.here hx rfl (hb hby d2_3) ?_
    exact kt
  by_cases hc5 : i0 < (48 : Int32)
  · have pre2 : ∀ target, Steps p.tables e below (T0.setTop (mkF m 22 #[.val (.int i0), .val (.int (-1 : Int32))] [])) target → Steps p.tables e below (T0.setTop (mkF m 0 #[.val (.int i0), .unset] [])) target := by
      intro target kt
      refine pre1 target ?_
      show Steps p.tables e below (T0.setTop (mkF m 5 #[.val (.int i0), .val (.int (-1 : Int32))] [(.int (48 : Int32)), (.int i0)])) _
      refine XS.icmpYes X0.here hx rfl (pc0 := 5) (pc' := 22) rfl (hb hby d2_5) rfl (tlt hc5).1 (by decide) (by decide) ?_
      exact kt
    obtain ⟨T3, X3, e3, st3⟩ := own_b2_22 hx hZ hw hby hml hown hret i0 (-1 : Int32)  X0 e0 hcl hsl  
    have hv : (own_f2_0 i0) = (own_f2_22 i0 (-1 : Int32)) := by unfold own_f2_0; rw [if_pos hc5]
    exact ⟨T3, X3, e3, fun fs hr => pre2 _ (st3 fs (by rw [hv] at hr; exact hr))⟩
  · have pre4 : ∀ target, Steps p.tables e below (T0.setTop (mkF m 11 #[.val (.int i0), .val (.int (-1 : Int32))] [(.int (57 : Int32)), (.int i0)])) target → Steps p.tables e below (T0.setTop (mkF m 0 #[.val (.int i0), .unset] [])) target := by
      intro target kt
      refine pre1 target ?_
      show Steps p.tables e below (T0.setTop (mkF m 5 #[.val (.int i0), .val (.int (-1 : Int32))] [(.int (48 : Int32)), (.int i0)])) _
      refine XS.icmpNo X0.here hx rfl (hb hby d2_5) rfl (flt hc5).1 ?_
      show Steps p.tables e below (T0.setTop (mkF m 8 #[.val (.int i0), .val (.int (-1 : Int32))] [])) _
      refine XS.iloadN X0.here hx rfl (hb hby d2_8) rfl ?_
      show Steps p.tables e below (T0.setTop (mkF m 9 #[.val (.int i0), .val (.int (-1 : Int32))] [(.int i0)])) _
      refine XS.bipush X0.here hx rfl (hb hby d2_9) ?_
      exact kt
    by_cases hc11 : (57 : Int32) < i0
    · have pre5 : ∀ target, Steps p.tables e below (T0.setTop (mkF m 22 #[.val (.int i0), .val (.int (-1 : Int32))] [])) target → Steps p.tables e below (T0.setTop (mkF m 0 #[.val (.int i0), .unset] [])) target := by
        intro target kt
        refine pre4 target ?_
        show Steps p.tables e below (T0.setTop (mkF m 11 #[.val (.int i0), .val (.int (-1 : Int32))] [(.int (57 : Int32)), (.int i0)])) _
        refine XS.icmpYes X0.here hx rfl (pc0 := 11) (pc' := 22) rfl (hb hby d2_11) rfl (tlt hc11).2.2.1 (by decide) (by decide) ?_
        exact kt
      obtain ⟨T6, X6, e6, st6⟩ := own_b2_22 hx hZ hw hby hml hown hret i0 (-1 : Int32)  X0 e0 hcl hsl  
      have hv : (own_f2_0 i0) = (own_f2_22 i0 (-1 : Int32)) := by unfold own_f2_0; rw [if_neg hc5, if_pos hc11]
      exact ⟨T6, X6, e6, fun fs hr => pre5 _ (st6 fs (by rw [hv] at hr; exact hr))⟩
    · refine ⟨T0, X0, e0, fun fs hr => ?_⟩
      have hv : (own_f2_0 i0) = (i0 - (48 : Int32)) := by unfold own_f2_0; rw [if_neg hc5, if_neg hc11]
      rw [hv] at hr
      refine pre4 _ ?_
      show Steps p.tables e below (T0.setTop (mkF m 11 #[.val (.int i0), .val (.int (-1 : Int32))] [(.int (57 : Int32)), (.int i0)])) _
      refine XS.icmpNo X0.here hx rfl (hb hby d2_11) rfl (flt hc11).2.2.1 ?_
      show Steps p.tables e below (T0.setTop (mkF m 14 #[.val (.int i0), .val (.int (-1 : Int32))] [])) _
      refine XS.iloadN X0.here hx rfl (hb hby d2_14) rfl ?_
      show Steps p.tables e below (T0.setTop (mkF m 15 #[.val (.int i0), .val (.int (-1 : Int32))] [(.int i0)])) _
      refine XS.bipush X0.here hx rfl (hb hby d2_15) ?_
      show Steps p.tables e below (T0.setTop (mkF m 17 #[.val (.int i0), .val (.int (-1 : Int32))] [(.int (48 : Int32)), (.int i0)])) _
      refine XS.isub X0.here hx rfl (hb hby d2_17) rfl ?_
      show Steps p.tables e below (T0.setTop (mkF m 18 #[.val (.int i0), .val (.int (-1 : Int32))] [(.int (i0 - (48 : Int32)))])) _
      refine XS.istoreN X0.here hx rfl (hb hby d2_18) rfl (l' := #[.val (.int i0), .val (.int (i0 - (48 : Int32)))]) rfl ?_
      show Steps p.tables e below (T0.setTop (mkF m 19 #[.val (.int i0), .val (.int (i0 - (48 : Int32)))] [])) _
      refine XS.goto X0.here hx rfl (pc0 := 19) (pc' := 65) rfl (hb hby d2_19) (by decide) (by decide) ?_
      show Steps p.tables e below (T0.setTop (mkF m 65 #[.val (.int i0), .val (.int (i0 - (48 : Int32)))] [])) _
      refine XS.iloadN X0.here hx rfl (hb hby d2_65) rfl ?_
      show Steps p.tables e below (T0.setTop (mkF m 66 #[.val (.int i0), .val (.int (i0 - (48 : Int32)))] [(.int (i0 - (48 : Int32)))])) _
      exact retI X0 hx hret (hb hby d2_66) hr
def Q2 (Z : State) (i0 : Int32) (h0 : Heap) (n0 : Nat) (v : Option Value) (h : Heap) (L : List Loc) : Prop := v = some (.int (own_f2_0 i0)) ∧ L = [] ∧ h = h0
set_option maxRecDepth 65536 in
set_option maxHeartbeats 40000000 in
theorem rm2 (l : Launch) (Z : State) (a0_ : Array Value) (hw : ∀ d ∈ tables_1, d.before a0_ Z = true) (ws : List Jvm.Cond) (i0 : Int32) (h0 : Heap) (n0 : Nat) (Z0 : n0 ≤ h0.size)  :
    MetFree l (⟨"com/example/open_brace/openbrace/text/Escapes", "hexValue", "(I)I"⟩ : MethodName) (head1 (Jvm.Cond.code (⟨"com/example/open_brace/openbrace/text/Escapes", "hexValue", "(I)I"⟩ : MethodName) prog_93_method_5_code 2 (some .int) :: ws) ({ frames := 0, cells := 0, slots := 0, locals := 0 } : Room)) (fun a U => a = #[(.int i0)] ∧ Z.Warmed39 U.vm ∧ U.heap = h0) (fun _ _ _ _ _ => True) (fun _ U o U' => ∃ v L, o = .returned v ∧ Q2 Z i0 h0 n0 v U'.heap L ∧ FrameEnd U o U' L ({ frames := 0, cells := 0, slots := 0, locals := 0 } : Room).cells ({ frames := 0, cells := 0, slots := 0, locals := 0 } : Room).slots) := by
  refine MetFree.of_bodySF (plainFor_of_name pn_2) hisR ?_
  intro p e s m args below meth c s₁ Bd hml0 hP hK
  obtain ⟨rfl, hZ, hh⟩ := hP
  have hx := Bd.exec
  have hby := Bd.bytes
  have hml : c.maxLocals = 2 := hml0
  have hown : s.vm.findClass "com/example/open_brace/openbrace/text/Escapes" = some m.cls := findClass_of_methodNamed Bd.named
  have X0 : Stand p l e ({ frames := 0, cells := 0, slots := 0, locals := 0 } : Room) s m #[(.int i0)] below meth c s₁ [] 0 0 := Stand.of_body Bd
  have e0 : s₁.heap = h0 := by rw [← hh, Bd.state]; rfl
  obtain ⟨T', X', e', st'⟩ := own_b2_0 hx hZ hw hby hml hown Bd.returns  i0 X0 e0 (by decide) (by decide) 
  obtain ⟨fs, hr, hrun, hended, hW, hsame⟩ := X'.leave (v := some (.int (own_f2_0 i0))) (fun h => by rw [Bd.returns] at h; cases h)
  refine ⟨_, _, castTop (ef_2 m i0) (st' fs hr), hrun, hended, _, _, rfl, ?_, ⟨_, rfl⟩, hW, hsame.mono (by decide) (by decide)⟩
  exact ⟨rfl, rfl, e'⟩
theorem pn_0 : plainName "com/example/open_brace/openbrace/text/EscapesHexValuePinLaw" = true := by first | (simp [plainName, overriddenIn]; done) | decide +kernel
theorem pd_0_0 : parseMethodDescriptor "(I)I" = some ⟨[.int], some .int⟩ := by decide +kernel
theorem ef_0 (m : MethodId) (i0 : Int32) (i1 : Int32) : entryFrame m #[(.int i0), (.int i1)] maxLocals = mkF m 0 #[.val (.int i0), .val (.int i1), .unset, .unset, .unset, .unset] [] := by first | (simp [entryFrame, mkF, argsToLocals, Value.category, maxLocals]; done) | rfl
def own_f0_38 (i0 : Int32) (i1 : Int32) (i2 : Int32) (i3 : Int32) (i4 : Int32) : Int32 :=
  (if (own_f2_0 i4) = i2 then (if (own_f2_0 i0) = (-1 : Int32) then (1 : Int32) else (if (own_f2_0 i0) < (0 : Int32) then (0 : Int32) else (if (15 : Int32) < (own_f2_0 i0) then (0 : Int32) else (if i0 = (own_f1_0 (own_f2_0 i0)) then (1 : Int32) else (if i0 = (own_f3_0 (own_f2_0 i0)) then (1 : Int32) else (0 : Int32)))))) else (0 : Int32))
def own_f0_18 (i0 : Int32) (i1 : Int32) (i2 : Int32) (u0 : Int32) : Int32 :=
  (if u0 = (0 : Int32) then (own_f0_38 i0 i1 i2 u0 (own_f1_0 i2)) else (own_f0_38 i0 i1 i2 u0 (own_f3_0 i2)))
def own_f0_0 (i0 : Int32) (i1 : Int32) : Int32 :=
  (if (((i1.toUInt32 >>> ((4 : Int32) &&& 31).toUInt32).toInt32) &&& (1 : Int32)) = (0 : Int32) then (own_f0_18 i0 i1 (i1 &&& (15 : Int32)) (0 : Int32)) else (own_f0_18 i0 i1 (i1 &&& (15 : Int32)) (1 : Int32)))
set_option maxRecDepth 65536 in
set_option maxHeartbeats 40000000 in
theorem own_b0_38 {p : Program} {l : Launch} {e : Env} {s : State} {m : MethodId} {args : Array Value} {below : List Frame} {meth : Method} {c : Code} {Z : State} {a0_ : Array Value} (hx : p.tables.exec = Jvm.exec) (hZ : Z.Warmed39 s.vm) (hw : ∀ d ∈ tables_1, d.before a0_ Z = true) (hby : c.code = code) (hml : c.maxLocals = 6) (hown : s.vm.findClass "com/example/open_brace/openbrace/text/EscapesHexValuePinLaw" = some m.cls) (hret : meth.sig.returnType = some .boolean) {T0 : State} {locs : List Loc} {cells slots : Nat} {h0 : Heap} (i0 : Int32) (i1 : Int32) (i2 : Int32) (i3 : Int32) (i4 : Int32)
    (X0 : Stand p l e room_1 s m args below meth c T0 locs cells slots) (e0 : T0.heap = h0) (hcl : cells ≤ room_1.cells) (hsl : slots ≤ room_1.slots)  :
    ∃ T', Stand p l e room_1 s m args below meth c T' locs cells slots ∧ T'.heap = h0 ∧ ∀ fs, (∀ (f : JFrame) (acts : List Action), f.method = m → f.locked = none → f.entered = [] → (doReturn e (T'.setTop f) acts (some (.int (own_f0_38 i0 i1 i2 i3 i4)))).1 = T'.setFrames fs) → Steps p.tables e below (T0.setTop (mkF m 38 #[.val (.int i0), .val (.int i1), .val (.int i2), .val (.int i3), .val (.int i4), .unset] [])) (T'.setFrames fs) := by
  obtain ⟨_, _, ⟨T1, L1, k1, n1⟩, -, X1, ⟨Lc1, hQ1, l1, y1, z1⟩, st1⟩ := Jvm.LawKit.callS X0 hx (y := (⟨"com/example/open_brace/openbrace/text/Escapes", "hexValue", "(I)I"⟩ : MethodName)) hown (mvT hZ (hw _ (List.mem_of_getElem? (i := 4) rfl))) (mvT hZ (hw _ (List.mem_of_getElem? (i := 5) rfl))) (mvT hZ (hw _ (List.mem_of_getElem? (i := 6) rfl))) (mvT hZ (hw _ (List.mem_of_getElem? (i := 7) rfl))) (by decide) (backOf (W := 0) (rm2 l Z a0_ hw [] i4  h0 0 (Nat.zero_le _) ) hZ (hw _ (List.mem_of_getElem? (i := 7) rfl)) (hw _ (List.mem_of_getElem? (i := 6) rfl)) (by decide) (by decide)) (g := (mkF m 40 #[.val (.int i0), .val (.int i1), .val (.int i2), .val (.int i3), .val (.int i4), .unset] [(.int i4)])) rfl (by rw [hml]; rfl) (argsL := [(.int i4)]) (rest := []) (lenOf pd_0_0 rfl) rfl (by show 2 * 0 + _ ≤ _; exact Nat.le_of_eq rfl) (hb hby at_40) (fun _ _ => ⟨rfl, e0, hcl, hsl⟩)
  dsimp only [Pt.U, Pt.locs, Pt.cells, Pt.slots] at X1 l1 y1 z1 st1 hQ1
  subst l1 y1 z1
  obtain ⟨rfl, rfl, e1⟩ := hQ1
  rw [List.append_nil] at X1
  have pre2 : ∀ target, Steps p.tables e below (T1.setTop (mkF m 44 #[.val (.int i0), .val (.int i1), .val (.int i2), .val (.int i3), .val (.int i4), .unset] [(.int i2), (.int (own_f2_0 i4))])) target → Steps p.tables e below (T0.setTop (mkF m 38 #[.val (.int i0), .val (.int i1), .val (.int i2), .val (.int i3), .val (.int i4), .unset] [])) target := by
    intro target kt
    show Steps p.tables e below (T0.setTop (mkF m 38 #[.val (.int i0), .val (.int i1), .val (.int i2), .val (.int i3), .val (.int i4), .unset] [])) _
    refine XS.iload X0.here hx rfl (hb hby at_38) rfl ?_
    show Steps p.tables e below (T0.setTop (mkF m 40 #[.val (.int i0), .val (.int i1), .val (.int i2), .val (.int i3), .val (.int i4), .unset] [(.int i4)])) _
    refine st1 _ ?_
    show Steps p.tables e below (T1.setTop (mkF m 43 #[.val (.int i0), .val (.int i1), .val (.int i2), .val (.int i3), .val (.int i4), .unset] [(.int (own_f2_0 i4))])) _
    refine XS.iloadN X1.here hx rfl (hb hby at_43) rfl ?_
    exact kt
  by_cases hc44 : (own_f2_0 i4) = i2
  · obtain ⟨_, _, ⟨T3, L3, k3, n3⟩, -, X3, ⟨Lc3, hQ3, l3, y3, z3⟩, st3⟩ := Jvm.LawKit.callS X1 hx (y := (⟨"com/example/open_brace/openbrace/text/Escapes", "hexValue", "(I)I"⟩ : MethodName)) hown (mvT hZ (hw _ (List.mem_of_getElem? (i := 4) rfl))) (mvT hZ (hw _ (List.mem_of_getElem? (i := 5) rfl))) (mvT hZ (hw _ (List.mem_of_getElem? (i := 6) rfl))) (mvT hZ (hw _ (List.mem_of_getElem? (i := 7) rfl))) (by decide) (backOf (W := 0) (rm2 l Z a0_ hw [] i0  h0 0 (Nat.zero_le _) ) hZ (hw _ (List.mem_of_getElem? (i := 7) rfl)) (hw _ (List.mem_of_getElem? (i := 6) rfl)) (by decide) (by decide)) (g := (mkF m 50 #[.val (.int i0), .val (.int i1), .val (.int i2), .val (.int i3), .val (.int i4), .unset] [(.int i0)])) rfl (by rw [hml]; rfl) (argsL := [(.int i0)]) (rest := []) (lenOf pd_0_0 rfl) rfl (by show 2 * 0 + _ ≤ _; exact Nat.le_of_eq rfl) (hb hby at_50) (fun _ _ => ⟨rfl, e1, hcl, hsl⟩)
    dsimp only [Pt.U, Pt.locs, Pt.cells, Pt.slots] at X3 l3 y3 z3 st3 hQ3
    subst l3 y3 z3
    obtain ⟨rfl, rfl, e3⟩ := hQ3
    rw [List.append_nil] at X3
    have pre4 : ∀ target, Steps p.tables e below (T3.setTop (mkF m 58 #[.val (.int i0), .val (.int i1), .val (.int i2), .val (.int i3), .val (.int i4), .val (.int (own_f2_0 i0))] [(.int (-1 : Int32)), (.int (own_f2_0 i0))])) target → Steps p.tables e below (T0.setTop (mkF m 38 #[.val (.int i0), .val (.int i1), .val (.int i2), .val (.int i3), .val (.int i4), .unset] [])) target := by
      intro target kt
      refine pre2 target ?_
      show Steps p.tables e below (T1.setTop (mkF m 44 #[.val (.int i0), .val (.int i1), .val (.int i2), .val (.int i3), .val (.int i4), .unset] [(.int i2), (.int (own_f2_0 i4))])) _
      refine XS.icmpYes X1.here hx rfl (pc0 := 44) (pc' := 49) rfl (hb hby at_44) rfl (teq hc44).1 (by decide) (by decide) ?_
      show Steps p.tables e below (T1.setTop (mkF m 49 #[.val (.int i0), .val (.int i1), .val (.int i2), .val (.int i3), .val (.int i4), .unset] [])) _
      refine XS.iloadN X1.here hx rfl (hb hby at_49) rfl ?_
      show Steps p.tables e below (T1.setTop (mkF m 50 #[.val (.int i0), .val (.int i1), .val (.int i2), .val (.int i3), .val (.int i4), .unset] [(.int i0)])) _
      refine st3 _ ?_
      show Steps p.tables e below (T3.setTop (mkF m 53 #[.val (.int i0), .val (.int i1), .val (.int i2), .val (.int i3), .val (.int i4), .unset] [(.int (own_f2_0 i0))])) _
      refine XS.istore X3.here hx rfl (hb hby at_53) rfl (l' := #[.val (.int i0), .val (.int i1), .val (.int i2), .val (.int i3), .val (.int i4), .val (.int (own_f2_0 i0))]) rfl ?_
      show Steps p.tables e below (T3.setTop (mkF m 55 #[.val (.int i0), .val (.int i1), .val (.int i2), .val (.int i3), .val (.int i4), .val (.int (own_f2_0 i0))] [])) _
      refine XS.iload X3.here hx rfl (hb hby at_55) rfl ?_
      show Steps p.tables e below (T3.setTop (mkF m 57 #[.val (.int i0), .val (.int i1), .val (.int i2), .val (.int i3), .val (.int i4), .val (.int (own_f2_0 i0))] [(.int (own_f2_0 i0))])) _
      refine XS.iconst X3.here hx rfl (hb hby at_57) ?_
      exact kt
    by_cases hc58 : (own_f2_0 i0) = (-1 : Int32)
    · refine ⟨T3, X3, e3, fun fs hr => ?_⟩
      have hv : (own_f0_38 i0 i1 i2 i3 i4) = (1 : Int32) := by unfold own_f0_38; rw [if_pos hc44, if_pos hc58]
      rw [hv] at hr
      refine pre4 _ ?_
      show Steps p.tables e below (T3.setTop (mkF m 58 #[.val (.int i0), .val (.int i1), .val (.int i2), .val (.int i3), .val (.int i4), .val (.int (own_f2_0 i0))] [(.int (-1 : Int32)), (.int (own_f2_0 i0))])) _
      refine XS.icmpNo X3.here hx rfl (hb hby at_58) rfl (teq hc58).2 ?_
      show Steps p.tables e below (T3.setTop (mkF m 61 #[.val (.int i0), .val (.int i1), .val (.int i2), .val (.int i3), .val (.int i4), .val (.int (own_f2_0 i0))] [])) _
      refine XS.iconst X3.here hx rfl (hb hby at_61) ?_
      show Steps p.tables e below (T3.setTop (mkF m 62 #[.val (.int i0), .val (.int i1), .val (.int i2), .val (.int i3), .val (.int i4), .val (.int (own_f2_0 i0))] [(.int (1 : Int32))])) _
      exact retN X3 hx (t := .boolean) hret (by simp) (hb hby at_62) hr
    · have pre5 : ∀ target, Steps p.tables e below (T3.setTop (mkF m 65 #[.val (.int i0), .val (.int i1), .val (.int i2), .val (.int i3), .val (.int i4), .val (.int (own_f2_0 i0))] [(.int (own_f2_0 i0))])) target → Steps p.tables e below (T0.setTop (mkF m 38 #[.val (.int i0), .val (.int i1), .val (.int i2), .val (.int i3), .val (.int i4), .unset] [])) target := by
        intro target kt
        refine pre4 target ?_
        show Steps p.tables e below (T3.setTop (mkF m 58 #[.val (.int i0), .val (.int i1), .val (.int i2), .val (.int i3), .val (.int i4), .val (.int (own_f2_0 i0))] [(.int (-1 : Int32)), (.int (own_f2_0 i0))])) _
        refine XS.icmpYes X3.here hx rfl (pc0 := 58) (pc' := 63) rfl (hb hby at_58) rfl (feq hc58).2 (by decide) (by decide) ?_
        show Steps p.tables e below (T3.setTop (mkF m 63 #[.val (.int i0), .val (.int i1), .val (.int i2), .val (.int i3), .val (.int i4), .val (.int (own_f2_0 i0))] [])) _
        refine XS.iload X3.here hx rfl (hb hby at_63) rfl ?_
        exact kt
      by_cases hc65 : (own_f2_0 i0) < (0 : Int32)
      · refine ⟨T3, X3, e3, fun fs hr => ?_⟩
        have hv : (own_f0_38 i0 i1 i2 i3 i4) = (0 : Int32) := by unfold own_f0_38; rw [if_pos hc44, if_neg hc58, if_pos hc65]
        rw [hv] at hr
        refine pre5 _ ?_
        show Steps p.tables e below (T3.setTop (mkF m 65 #[.val (.int i0), .val (.int i1), .val (.int i2), .val (.int i3), .val (.int i4), .val (.int (own_f2_0 i0))] [(.int (own_f2_0 i0))])) _
        refine XS.ifYes X3.here hx rfl (pc0 := 65) (pc' := 75) rfl (hb hby at_65) rfl ((if0 _ _).trans (tlt hc65).1) (by decide) (by decide) ?_
        show Steps p.tables e below (T3.setTop (mkF m 75 #[.val (.int i0), .val (.int i1), .val (.int i2), .val (.int i3), .val (.int i4), .val (.int (own_f2_0 i0))] [])) _
        refine XS.iconst X3.here hx rfl (hb hby at_75) ?_
        show Steps p.tables e below (T3.setTop (mkF m 76 #[.val (.int i0), .val (.int i1), .val (.int i2), .val (.int i3), .val (.int i4), .val (.int (own_f2_0 i0))] [(.int (0 : Int32))])) _
        exact retN X3 hx (t := .boolean) hret (by simp) (hb hby at_76) hr
      · have pre6 : ∀ target, Steps p.tables e below (T3.setTop (mkF m 72 #[.val (.int i0), .val (.int i1), .val (.int i2), .val (.int i3), .val (.int i4), .val (.int (own_f2_0 i0))] [(.int (15 : Int32)), (.int (own_f2_0 i0))])) target → Steps p.tables e below (T0.setTop (mkF m 38 #[.val (.int i0), .val (.int i1), .val (.int i2), .val (.int i3), .val (.int i4), .unset] [])) target := by
          intro target kt
          refine pre5 target ?_
          show Steps p.tables e below (T3.setTop (mkF m 65 #[.val (.int i0), .val (.int i1), .val (.int i2), .val (.int i3), .val (.int i4), .val (.int (own_f2_0 i0))] [(.int (own_f2_0 i0))])) _
          refine XS.ifNo X3.here hx rfl (hb hby at_65) rfl ((if0 _ _).trans (flt hc65).1) ?_
          show Steps p.tables e below (T3.setTop (mkF m 68 #[.val (.int i0), .val (.int i1), .val (.int i2), .val (.int i3), .val (.int i4), .val (.int (own_f2_0 i0))] [])) _
          refine XS.iload X3.here hx rfl (hb hby at_68) rfl ?_
          show Steps p.tables e below (T3.setTop (mkF m 70 #[.val (.int i0), .val (.int i1), .val (.int i2), .val (.int i3), .val (.int i4), .val (.int (own_f2_0 i0))] [(.int (own_f2_0 i0))])) _
          refine XS.bipush X3.here hx rfl (hb hby at_70) ?_
          exact kt
        by_cases hc72 : (15 : Int32) < (own_f2_0 i0)
        · refine ⟨T3, X3, e3, fun fs hr => ?_⟩
          have hv : (own_f0_38 i0 i1 i2 i3 i4) = (0 : Int32) := by unfold own_f0_38; rw [if_pos hc44, if_neg hc58, if_neg hc65, if_pos hc72]
          rw [hv] at hr
          refine pre6 _ ?_
          show Steps p.tables e below (T3.setTop (mkF m 72 #[.val (.int i0), .val (.int i1), .val (.int i2), .val (.int i3), .val (.int i4), .val (.int (own_f2_0 i0))] [(.int (15 : Int32)), (.int (own_f2_0 i0))])) _
          refine XS.icmpNo X3.here hx rfl (hb hby at_72) rfl (tlt hc72).2.2.2 ?_
          show Steps p.tables e below (T3.setTop (mkF m 75 #[.val (.int i0), .val (.int i1), .val (.int i2), .val (.int i3), .val (.int i4), .val (.int (own_f2_0 i0))] [])) _
          refine XS.iconst X3.here hx rfl (hb hby at_75) ?_
          show Steps p.tables e below (T3.setTop (mkF m 76 #[.val (.int i0), .val (.int i1), .val (.int i2), .val (.int i3), .val (.int i4), .val (.int (own_f2_0 i0))] [(.int (0 : Int32))])) _
          exact retN X3 hx (t := .boolean) hret (by simp) (hb hby at_76) hr
        · obtain ⟨_, _, ⟨T7, L7, k7, n7⟩, -, X7, ⟨Lc7, hQ7, l7, y7, z7⟩, st7⟩ := Jvm.LawKit.callS X3 hx (y := (⟨"com/example/open_brace/openbrace/text/EscapesHexValuePinLaw", "lowerDigit", "(I)I"⟩ : MethodName)) hown (mvT hZ (hw _ (List.mem_of_getElem? (i := 0) rfl))) (mvT hZ (hw _ (List.mem_of_getElem? (i := 1) rfl))) (mvT hZ (hw _ (List.mem_of_getElem? (i := 2) rfl))) (mvT hZ (hw _ (List.mem_of_getElem? (i := 3) rfl))) (by decide) (backOf (W := 1) (rm1 l Z a0_ hw [] (own_f2_0 i0)  h0 0 (Nat.zero_le _) ) hZ (hw _ (List.mem_of_getElem? (i := 3) rfl)) (hw _ (List.mem_of_getElem? (i := 2) rfl)) (by decide) (by decide)) (g := (mkF m 80 #[.val (.int i0), .val (.int i1), .val (.int i2), .val (.int i3), .val (.int i4), .val (.int (own_f2_0 i0))] [(.int (own_f2_0 i0)), (.int i0)])) rfl (by rw [hml]; rfl) (argsL := [(.int (own_f2_0 i0))]) (rest := [(.int i0)]) (lenOf pd_0_0 rfl) rfl (by show 2 * 0 + _ ≤ _; exact Nat.le_of_eq rfl) (hb hby at_80) (fun _ _ => ⟨rfl, e3, hcl, hsl⟩)
          dsimp only [Pt.U, Pt.locs, Pt.cells, Pt.slots] at X7 l7 y7 z7 st7 hQ7
          subst l7 y7 z7
          obtain ⟨rfl, rfl, e7⟩ := hQ7
          rw [List.append_nil] at X7
          have pre8 : ∀ target, Steps p.tables e below (T7.setTop (mkF m 83 #[.val (.int i0), .val (.int i1), .val (.int i2), .val (.int i3), .val (.int i4), .val (.int (own_f2_0 i0))] [(.int (own_f1_0 (own_f2_0 i0))), (.int i0)])) target → Steps p.tables e below (T0.setTop (mkF m 38 #[.val (.int i0), .val (.int i1), .val (.int i2), .val (.int i3), .val (.int i4), .unset] [])) target := by
            intro target kt
            refine pre6 target ?_
            show Steps p.tables e below (T3.setTop (mkF m 72 #[.val (.int i0), .val (.int i1), .val (.int i2), .val (.int i3), .val (.int i4), .val (.int (own_f2_0 i0))] [(.int (15 : Int32)), (.int (own_f2_0 i0))])) _
            refine XS.icmpYes X3.here hx rfl (pc0 := 72) (pc' := 77) rfl (hb hby at_72) rfl (flt hc72).2.2.2 (by decide) (by decide) ?_
            show Steps p.tables e below (T3.setTop (mkF m 77 #[.val (.int i0), .val (.int i1), .val (.int i2), .val (.int i3), .val (.int i4), .val (.int (own_f2_0 i0))] [])) _
            refine XS.iloadN X3.here hx rfl (hb hby at_77) rfl ?_
            show Steps p.tables e below (T3.setTop (mkF m 78 #[.val (.int i0), .val (.int i1), .val (.int i2), .val (.int i3), .val (.int i4), .val (.int (own_f2_0 i0))] [(.int i0)])) _
            refine XS.iload X3.here hx rfl (hb hby at_78) rfl ?_
            show Steps p.tables e below (T3.setTop (mkF m 80 #[.val (.int i0), .val (.int i1), .val (.int i2), .val (.int i3), .val (.int i4), .val (.int (own_f2_0 i0))] [(.int (own_f2_0 i0)), (.int i0)])) _
            refine st7 _ ?_
            exact kt
          by_cases hc83 : i0 = (own_f1_0 (own_f2_0 i0))
          · refine ⟨T7, X7, e7, fun fs hr => ?_⟩
            have hv : (own_f0_38 i0 i1 i2 i3 i4) = (1 : Int32) := by unfold own_f0_38; rw [if_pos hc44, if_neg hc58, if_neg hc65, if_neg hc72, if_pos hc83]
            rw [hv] at hr
            refine pre8 _ ?_
            show Steps p.tables e below (T7.setTop (mkF m 83 #[.val (.int i0), .val (.int i1), .val (.int i2), .val (.int i3), .val (.int i4), .val (.int (own_f2_0 i0))] [(.int (own_f1_0 (own_f2_0 i0))), (.int i0)])) _
            refine XS.icmpYes X7.here hx rfl (pc0 := 83) (pc' := 95) rfl (hb hby at_83) rfl (teq hc83).1 (by decide) (by decide) ?_
            show Steps p.tables e below (T7.setTop (mkF m 95 #[.val (.int i0), .val (.int i1), .val (.int i2), .val (.int i3), .val (.int i4), .val (.int (own_f2_0 i0))] [])) _
            refine XS.iconst X7.here hx rfl (hb hby at_95) ?_
            show Steps p.tables e below (T7.setTop (mkF m 96 #[.val (.int i0), .val (.int i1), .val (.int i2), .val (.int i3), .val (.int i4), .val (.int (own_f2_0 i0))] [(.int (1 : Int32))])) _
            refine XS.goto X7.here hx rfl (pc0 := 96) (pc' := 100) rfl (hb hby at_96) (by decide) (by decide) ?_
            show Steps p.tables e below (T7.setTop (mkF m 100 #[.val (.int i0), .val (.int i1), .val (.int i2), .val (.int i3), .val (.int i4), .val (.int (own_f2_0 i0))] [(.int (1 : Int32))])) _
            exact retN X7 hx (t := .boolean) hret (by simp) (hb hby at_100) hr
          · obtain ⟨_, _, ⟨T9, L9, k9, n9⟩, -, X9, ⟨Lc9, hQ9, l9, y9, z9⟩, st9⟩ := Jvm.LawKit.callS X7 hx (y := (⟨"com/example/open_brace/openbrace/text/EscapesHexValuePinLaw", "upperDigit", "(I)I"⟩ : MethodName)) hown (mvT hZ (hw _ (List.mem_of_getElem? (i := 8) rfl))) (mvT hZ (hw _ (List.mem_of_getElem? (i := 9) rfl))) (mvT hZ (hw _ (List.mem_of_getElem? (i := 2) rfl))) (mvT hZ (hw _ (List.mem_of_getElem? (i := 10) rfl))) (by decide) (backOf (W := 1) (rm3 l Z a0_ hw [] (own_f2_0 i0)  h0 0 (Nat.zero_le _) ) hZ (hw _ (List.mem_of_getElem? (i := 10) rfl)) (hw _ (List.mem_of_getElem? (i := 2) rfl)) (by decide) (by decide)) (g := (mkF m 89 #[.val (.int i0), .val (.int i1), .val (.int i2), .val (.int i3), .val (.int i4), .val (.int (own_f2_0 i0))] [(.int (own_f2_0 i0)), (.int i0)])) rfl (by rw [hml]; rfl) (argsL := [(.int (own_f2_0 i0))]) (rest := [(.int i0)]) (lenOf pd_0_0 rfl) rfl (by show 2 * 0 + _ ≤ _; exact Nat.le_of_eq rfl) (hb hby at_89) (fun _ _ => ⟨rfl, e7, hcl, hsl⟩)
            dsimp only [Pt.U, Pt.locs, Pt.cells, Pt.slots] at X9 l9 y9 z9 st9 hQ9
            subst l9 y9 z9
            obtain ⟨rfl, rfl, e9⟩ := hQ9
            rw [List.append_nil] at X9
            have pre10 : ∀ target, Steps p.tables e below (T9.setTop (mkF m 92 #[.val (.int i0), .val (.int i1), .val (.int i2), .val (.int i3), .val (.int i4), .val (.int (own_f2_0 i0))] [(.int (own_f3_0 (own_f2_0 i0))), (.int i0)])) target → Steps p.tables e below (T0.setTop (mkF m 38 #[.val (.int i0), .val (.int i1), .val (.int i2), .val (.int i3), .val (.int i4), .unset] [])) target := by
              intro target kt
              refine pre8 target ?_
              show Steps p.tables e below (T7.setTop (mkF m 83 #[.val (.int i0), .val (.int i1), .val (.int i2), .val (.int i3), .val (.int i4), .val (.int (own_f2_0 i0))] [(.int (own_f1_0 (own_f2_0 i0))), (.int i0)])) _
              refine XS.icmpNo X7.here hx rfl (hb hby at_83) rfl (feq hc83).1 ?_
              show Steps p.tables e below (T7.setTop (mkF m 86 #[.val (.int i0), .val (.int i1), .val (.int i2), .val (.int i3), .val (.int i4), .val (.int (own_f2_0 i0))] [])) _
              refine XS.iloadN X7.here hx rfl (hb hby at_86) rfl ?_
              show Steps p.tables e below (T7.setTop (mkF m 87 #[.val (.int i0), .val (.int i1), .val (.int i2), .val (.int i3), .val (.int i4), .val (.int (own_f2_0 i0))] [(.int i0)])) _
              refine XS.iload X7.here hx rfl (hb hby at_87) rfl ?_
              show Steps p.tables e below (T7.setTop (mkF m 89 #[.val (.int i0), .val (.int i1), .val (.int i2), .val (.int i3), .val (.int i4), .val (.int (own_f2_0 i0))] [(.int (own_f2_0 i0)), (.int i0)])) _
              refine st9 _ ?_
              exact kt
            by_cases hc92 : i0 = (own_f3_0 (own_f2_0 i0))
            · refine ⟨T9, X9, e9, fun fs hr => ?_⟩
              have hv : (own_f0_38 i0 i1 i2 i3 i4) = (1 : Int32) := by unfold own_f0_38; rw [if_pos hc44, if_neg hc58, if_neg hc65, if_neg hc72, if_neg hc83, if_pos hc92]
              rw [hv] at hr
              refine pre10 _ ?_
              show Steps p.tables e below (T9.setTop (mkF m 92 #[.val (.int i0), .val (.int i1), .val (.int i2), .val (.int i3), .val (.int i4), .val (.int (own_f2_0 i0))] [(.int (own_f3_0 (own_f2_0 i0))), (.int i0)])) _
              refine XS.icmpNo X9.here hx rfl (hb hby at_92) rfl (teq hc92).2 ?_
              show Steps p.tables e below (T9.setTop (mkF m 95 #[.val (.int i0), .val (.int i1), .val (.int i2), .val (.int i3), .val (.int i4), .val (.int (own_f2_0 i0))] [])) _
              refine XS.iconst X9.here hx rfl (hb hby at_95) ?_
              show Steps p.tables e below (T9.setTop (mkF m 96 #[.val (.int i0), .val (.int i1), .val (.int i2), .val (.int i3), .val (.int i4), .val (.int (own_f2_0 i0))] [(.int (1 : Int32))])) _
              refine XS.goto X9.here hx rfl (pc0 := 96) (pc' := 100) rfl (hb hby at_96) (by decide) (by decide) ?_
              show Steps p.tables e below (T9.setTop (mkF m 100 #[.val (.int i0), .val (.int i1), .val (.int i2), .val (.int i3), .val (.int i4), .val (.int (own_f2_0 i0))] [(.int (1 : Int32))])) _
              exact retN X9 hx (t := .boolean) hret (by simp) (hb hby at_100) hr
            · refine ⟨T9, X9, e9, fun fs hr => ?_⟩
              have hv : (own_f0_38 i0 i1 i2 i3 i4) = (0 : Int32) := by unfold own_f0_38; rw [if_pos hc44, if_neg hc58, if_neg hc65, if_neg hc72, if_neg hc83, if_neg hc92]
              rw [hv] at hr
              refine pre10 _ ?_
              show Steps p.tables e below (T9.setTop (mkF m 92 #[.val (.int i0), .val (.int i1), .val (.int i2), .val (.int i3), .val (.int i4), .val (.int (own_f2_0 i0))] [(.int (own_f3_0 (own_f2_0 i0))), (.int i0)])) _
              refine XS.icmpYes X9.here hx rfl (pc0 := 92) (pc' := 99) rfl (hb hby at_92) rfl (feq hc92).2 (by decide) (by decide) ?_
              show Steps p.tables e below (T9.setTop (mkF m 99 #[.val (.int i0), .val (.int i1), .val (.int i2), .val (.int i3), .val (.int i4), .val (.int (own_f2_0 i0))] [])) _
              refine XS.iconst X9.here hx rfl (hb hby at_99) ?_
              show Steps p.tables e below (T9.setTop (mkF m 100 #[.val (.int i0), .val (.int i1), .val (.int i2), .val (.int i3), .val (.int i4), .val (.int (own_f2_0 i0))] [(.int (0 : Int32))])) _
              exact retN X9 hx (t := .boolean) hret (by simp) (hb hby at_100) hr
  · refine ⟨T1, X1, e1, fun fs hr => ?_⟩
    have hv : (own_f0_38 i0 i1 i2 i3 i4) = (0 : Int32) := by unfold own_f0_38; rw [if_neg hc44]
    rw [hv] at hr
    refine pre2 _ ?_
    show Steps p.tables e below (T1.setTop (mkF m 44 #[.val (.int i0), .val (.int i1), .val (.int i2), .val (.int i3), .val (.int i4), .unset] [(.int i2), (.int (own_f2_0 i4))])) _
    refine XS.icmpNo X1.here hx rfl (hb hby at_44) rfl (feq hc44).1 ?_
    show Steps p.tables e below (T1.setTop (mkF m 47 #[.val (.int i0), .val (.int i1), .val (.int i2), .val (.int i3), .val (.int i4), .unset] [])) _
    refine XS.iconst X1.here hx rfl (hb hby at_47) ?_
    show Steps p.tables e below (T1.setTop (mkF m 48 #[.val (.int i0), .val (.int i1), .val (.int i2), .val (.int i3), .val (.int i4), .unset] [(.int (0 : Int32))])) _
    exact retN X1 hx (t := .boolean) hret (by simp) (hb hby at_48) hr
set_option maxRecDepth 65536 in
set_option maxHeartbeats 40000000 in
theorem own_b0_18 {p : Program} {l : Launch} {e : Env} {s : State} {m : MethodId} {args : Array Value} {below : List Frame} {meth : Method} {c : Code} {Z : State} {a0_ : Array Value} (hx : p.tables.exec = Jvm.exec) (hZ : Z.Warmed39 s.vm) (hw : ∀ d ∈ tables_1, d.before a0_ Z = true) (hby : c.code = code) (hml : c.maxLocals = 6) (hown : s.vm.findClass "com/example/open_brace/openbrace/text/EscapesHexValuePinLaw" = some m.cls) (hret : meth.sig.returnType = some .boolean) {T0 : State} {locs : List Loc} {cells slots : Nat} {h0 : Heap} (i0 : Int32) (i1 : Int32) (i2 : Int32) (u0 : Int32)
    (X0 : Stand p l e room_1 s m args below meth c T0 locs cells slots) (e0 : T0.heap = h0) (hcl : cells ≤ room_1.cells) (hsl : slots ≤ room_1.slots)  :
    ∃ T', Stand p l e room_1 s m args below meth c T' locs cells slots ∧ T'.heap = h0 ∧ ∀ fs, (∀ (f : JFrame) (acts : List Action), f.method = m → f.locked = none → f.entered = [] → (doReturn e (T'.setTop f) acts (some (.int (own_f0_18 i0 i1 i2 u0)))).1 = T'.setFrames fs) → Steps p.tables e below (T0.setTop (mkF m 18 #[.val (.int i0), .val (.int i1), .val (.int i2), .unset, .unset, .unset] [(.int u0)])) (T'.setFrames fs) := by
  have pre1 : ∀ target, Steps p.tables e below (T0.setTop (mkF m 20 #[.val (.int i0), .val (.int i1), .val (.int i2), .val (.int u0), .unset, .unset] [(.int u0)])) target → Steps p.tables e below (T0.setTop (mkF m 18 #[.val (.int i0), .val (.int i1), .val (.int i2), .unset, .unset, .unset] [(.int u0)])) target := by
    intro target kt
    show Steps p.tables e below (T0.setTop (mkF m 18 #[.val (.int i0), .val (.int i1), .val (.int i2), .unset, .unset, .unset] [(.int u0)])) _
    refine XS.istoreN X0.here hx rfl (hb hby at_18) rfl (l' := #[.val (.int i0), .val (.int i1), .val (.int i2), .val (.int u0), .unset, .unset]) rfl ?_
    show Steps p.tables e below (T0.setTop (mkF m 19 #[.val (.int i0), .val (.int i1), .val (.int i2), .val (.int u0), .unset, .unset] [])) _
    refine XS.iloadN X0.here hx rfl (hb hby at_19) rfl ?_
    exact kt
  by_cases hc20 : u0 = (0 : Int32)
  · obtain ⟨_, _, ⟨T2, L2, k2, n2⟩, -, X2, ⟨Lc2, hQ2, l2, y2, z2⟩, st2⟩ := Jvm.LawKit.callS X0 hx (y := (⟨"com/example/open_brace/openbrace/text/EscapesHexValuePinLaw", "lowerDigit", "(I)I"⟩ : MethodName)) hown (mvT hZ (hw _ (List.mem_of_getElem? (i := 0) rfl))) (mvT hZ (hw _ (List.mem_of_getElem? (i := 1) rfl))) (mvT hZ (hw _ (List.mem_of_getElem? (i := 2) rfl))) (mvT hZ (hw _ (List.mem_of_getElem? (i := 3) rfl))) (by decide) (backOf (W := 0) (rm1 l Z a0_ hw [] i2  h0 0 (Nat.zero_le _) ) hZ (hw _ (List.mem_of_getElem? (i := 3) rfl)) (hw _ (List.mem_of_getElem? (i := 2) rfl)) (by decide) (by decide)) (g := (mkF m 33 #[.val (.int i0), .val (.int i1), .val (.int i2), .val (.int u0), .unset, .unset] [(.int i2)])) rfl (by rw [hml]; rfl) (argsL := [(.int i2)]) (rest := []) (lenOf pd_0_0 rfl) rfl (by show 2 * 0 + _ ≤ _; exact Nat.le_of_eq rfl) (hb hby at_33) (fun _ _ => ⟨rfl, e0, hcl, hsl⟩)
    dsimp only [Pt.U, Pt.locs, Pt.cells, Pt.slots] at X2 l2 y2 z2 st2 hQ2
    subst l2 y2 z2
    obtain ⟨rfl, rfl, e2⟩ := hQ2
    rw [List.append_nil] at X2
    have pre3 : ∀ target, Steps p.tables e below (T2.setTop (mkF m 38 #[.val (.int i0), .val (.int i1), .val (.int i2), .val (.int u0), .val (.int (own_f1_0 i2)), .unset] [])) target → Steps p.tables e below (T0.setTop (mkF m 18 #[.val (.int i0), .val (.int i1), .val (.int i2), .unset, .unset, .unset] [(.int u0)])) target := by
      intro target kt
      refine pre1 target ?_
      show Steps p.tables e below (T0.setTop (mkF m 20 #[.val (.int i0), .val (.int i1), .val (.int i2), .val (.int u0), .unset, .unset] [(.int u0)])) _
      refine XS.ifYes X0.here hx rfl (pc0 := 20) (pc' := 32) rfl (hb hby at_20) rfl ((if0 _ _).trans (teq hc20).1) (by decide) (by decide) ?_
      show Steps p.tables e below (T0.setTop (mkF m 32 #[.val (.int i0), .val (.int i1), .val (.int i2), .val (.int u0), .unset, .unset] [])) _
      refine XS.iloadN X0.here hx rfl (hb hby at_32) rfl ?_
      show Steps p.tables e below (T0.setTop (mkF m 33 #[.val (.int i0), .val (.int i1), .val (.int i2), .val (.int u0), .unset, .unset] [(.int i2)])) _
      refine st2 _ ?_
      show Steps p.tables e below (T2.setTop (mkF m 36 #[.val (.int i0), .val (.int i1), .val (.int i2), .val (.int u0), .unset, .unset] [(.int (own_f1_0 i2))])) _
      refine XS.istore X2.here hx rfl (hb hby at_36) rfl (l' := #[.val (.int i0), .val (.int i1), .val (.int i2), .val (.int u0), .val (.int (own_f1_0 i2)), .unset]) rfl ?_
      exact kt
    obtain ⟨T4, X4, e4, st4⟩ := own_b0_38 hx hZ hw hby hml hown hret i0 i1 i2 u0 (own_f1_0 i2)  X2 e2 hcl hsl  
    have hv : (own_f0_18 i0 i1 i2 u0) = (own_f0_38 i0 i1 i2 u0 (own_f1_0 i2)) := by unfold own_f0_18; rw [if_pos hc20]
    exact ⟨T4, X4, e4, fun fs hr => pre3 _ (st4 fs (by rw [hv] at hr; exact hr))⟩
  · obtain ⟨_, _, ⟨T5, L5, k5, n5⟩, -, X5, ⟨Lc5, hQ5, l5, y5, z5⟩, st5⟩ := Jvm.LawKit.callS X0 hx (y := (⟨"com/example/open_brace/openbrace/text/EscapesHexValuePinLaw", "upperDigit", "(I)I"⟩ : MethodName)) hown (mvT hZ (hw _ (List.mem_of_getElem? (i := 8) rfl))) (mvT hZ (hw _ (List.mem_of_getElem? (i := 9) rfl))) (mvT hZ (hw _ (List.mem_of_getElem? (i := 2) rfl))) (mvT hZ (hw _ (List.mem_of_getElem? (i := 10) rfl))) (by decide) (backOf (W := 0) (rm3 l Z a0_ hw [] i2  h0 0 (Nat.zero_le _) ) hZ (hw _ (List.mem_of_getElem? (i := 10) rfl)) (hw _ (List.mem_of_getElem? (i := 2) rfl)) (by decide) (by decide)) (g := (mkF m 24 #[.val (.int i0), .val (.int i1), .val (.int i2), .val (.int u0), .unset, .unset] [(.int i2)])) rfl (by rw [hml]; rfl) (argsL := [(.int i2)]) (rest := []) (lenOf pd_0_0 rfl) rfl (by show 2 * 0 + _ ≤ _; exact Nat.le_of_eq rfl) (hb hby at_24) (fun _ _ => ⟨rfl, e0, hcl, hsl⟩)
    dsimp only [Pt.U, Pt.locs, Pt.cells, Pt.slots] at X5 l5 y5 z5 st5 hQ5
    subst l5 y5 z5
    obtain ⟨rfl, rfl, e5⟩ := hQ5
    rw [List.append_nil] at X5
    have pre6 : ∀ target, Steps p.tables e below (T5.setTop (mkF m 38 #[.val (.int i0), .val (.int i1), .val (.int i2), .val (.int u0), .val (.int (own_f3_0 i2)), .unset] [])) target → Steps p.tables e below (T0.setTop (mkF m 18 #[.val (.int i0), .val (.int i1), .val (.int i2), .unset, .unset, .unset] [(.int u0)])) target := by
      intro target kt
      refine pre1 target ?_
      show Steps p.tables e below (T0.setTop (mkF m 20 #[.val (.int i0), .val (.int i1), .val (.int i2), .val (.int u0), .unset, .unset] [(.int u0)])) _
      refine XS.ifNo X0.here hx rfl (hb hby at_20) rfl ((if0 _ _).trans (feq hc20).1) ?_
      show Steps p.tables e below (T0.setTop (mkF m 23 #[.val (.int i0), .val (.int i1), .val (.int i2), .val (.int u0), .unset, .unset] [])) _
      refine XS.iloadN X0.here hx rfl (hb hby at_23) rfl ?_
      show Steps p.tables e below (T0.setTop (mkF m 24 #[.val (.int i0), .val (.int i1), .val (.int i2), .val (.int u0), .unset, .unset] [(.int i2)])) _
      refine st5 _ ?_
      show Steps p.tables e below (T5.setTop (mkF m 27 #[.val (.int i0), .val (.int i1), .val (.int i2), .val (.int u0), .unset, .unset] [(.int (own_f3_0 i2))])) _
      refine XS.istore X5.here hx rfl (hb hby at_27) rfl (l' := #[.val (.int i0), .val (.int i1), .val (.int i2), .val (.int u0), .val (.int (own_f3_0 i2)), .unset]) rfl ?_
      show Steps p.tables e below (T5.setTop (mkF m 29 #[.val (.int i0), .val (.int i1), .val (.int i2), .val (.int u0), .val (.int (own_f3_0 i2)), .unset] [])) _
      refine XS.goto X5.here hx rfl (pc0 := 29) (pc' := 38) rfl (hb hby at_29) (by decide) (by decide) ?_
      exact kt
    obtain ⟨T7, X7, e7, st7⟩ := own_b0_38 hx hZ hw hby hml hown hret i0 i1 i2 u0 (own_f3_0 i2)  X5 e5 hcl hsl  
    have hv : (own_f0_18 i0 i1 i2 u0) = (own_f0_38 i0 i1 i2 u0 (own_f3_0 i2)) := by unfold own_f0_18; rw [if_neg hc20]
    exact ⟨T7, X7, e7, fun fs hr => pre6 _ (st7 fs (by rw [hv] at hr; exact hr))⟩
set_option maxRecDepth 65536 in
set_option maxHeartbeats 40000000 in
theorem own_b0_0 {p : Program} {l : Launch} {e : Env} {s : State} {m : MethodId} {args : Array Value} {below : List Frame} {meth : Method} {c : Code} {Z : State} {a0_ : Array Value} (hx : p.tables.exec = Jvm.exec) (hZ : Z.Warmed39 s.vm) (hw : ∀ d ∈ tables_1, d.before a0_ Z = true) (hby : c.code = code) (hml : c.maxLocals = 6) (hown : s.vm.findClass "com/example/open_brace/openbrace/text/EscapesHexValuePinLaw" = some m.cls) (hret : meth.sig.returnType = some .boolean) {T0 : State} {locs : List Loc} {cells slots : Nat} {h0 : Heap} (i0 : Int32) (i1 : Int32)
    (X0 : Stand p l e room_1 s m args below meth c T0 locs cells slots) (e0 : T0.heap = h0) (hcl : cells ≤ room_1.cells) (hsl : slots ≤ room_1.slots)  :
    ∃ T', Stand p l e room_1 s m args below meth c T' locs cells slots ∧ T'.heap = h0 ∧ ∀ fs, (∀ (f : JFrame) (acts : List Action), f.method = m → f.locked = none → f.entered = [] → (doReturn e (T'.setTop f) acts (some (.int (own_f0_0 i0 i1)))).1 = T'.setFrames fs) → Steps p.tables e below (T0.setTop (mkF m 0 #[.val (.int i0), .val (.int i1), .unset, .unset, .unset, .unset] [])) (T'.setFrames fs) := by
  have pre1 : ∀ target, Steps p.tables e below (T0.setTop (mkF m 10 #[.val (.int i0), .val (.int i1), .val (.int (i1 &&& (15 : Int32))), .unset, .unset, .unset] [(.int (((i1.toUInt32 >>> ((4 : Int32) &&& 31).toUInt32).toInt32) &&& (1 : Int32)))])) target → Steps p.tables e below (T0.setTop (mkF m 0 #[.val (.int i0), .val (.int i1), .unset, .unset, .unset, .unset] [])) target := by
    intro target kt
    show Steps p.tables e below (T0.setTop (mkF m 0 #[.val (.int i0), .val (.int i1), .unset, .unset, .unset, .unset] [])) _
    refine XS.iloadN X0.here hx rfl (hb hby at_0) rfl ?_
    show Steps p.tables e below (T0.setTop (mkF m 1 #[.val (.int i0), .val (.int i1), .unset, .unset, .unset, .unset] [(.int i1)])) _
    refine XS.bipush X0.here hx rfl (hb hby at_1) ?_
    show Steps p.tables e below (T0.setTop (mkF m 3 #[.val (.int i0), .val (.int i1), .unset, .unset, .unset, .unset] [(.int (15 : Int32)), (.int i1)])) _
    refine XS.iand X0.here hx rfl (hb hby at_3) rfl ?_
    show Steps p.tables e below (T0.setTop (mkF m 4 #[.val (.int i0), .val (.int i1), .unset, .unset, .unset, .unset] [(.int (i1 &&& (15 : Int32)))])) _
    refine XS.istoreN X0.here hx rfl (hb hby at_4) rfl (l' := #[.val (.int i0), .val (.int i1), .val (.int (i1 &&& (15 : Int32))), .unset, .unset, .unset]) rfl ?_
    show Steps p.tables e below (T0.setTop (mkF m 5 #[.val (.int i0), .val (.int i1), .val (.int (i1 &&& (15 : Int32))), .unset, .unset, .unset] [])) _
    refine XS.iloadN X0.here hx rfl (hb hby at_5) rfl ?_
    show Steps p.tables e below (T0.setTop (mkF m 6 #[.val (.int i0), .val (.int i1), .val (.int (i1 &&& (15 : Int32))), .unset, .unset, .unset] [(.int i1)])) _
    refine XS.iconst X0.here hx rfl (hb hby at_6) ?_
    show Steps p.tables e below (T0.setTop (mkF m 7 #[.val (.int i0), .val (.int i1), .val (.int (i1 &&& (15 : Int32))), .unset, .unset, .unset] [(.int (4 : Int32)), (.int i1)])) _
    refine XS.iushr X0.here hx rfl (hb hby at_7) rfl ?_
    show Steps p.tables e below (T0.setTop (mkF m 8 #[.val (.int i0), .val (.int i1), .val (.int (i1 &&& (15 : Int32))), .unset, .unset, .unset] [(.int ((i1.toUInt32 >>> ((4 : Int32) &&& 31).toUInt32).toInt32))])) _
    refine XS.iconst X0.here hx rfl (hb hby at_8) ?_
    show Steps p.tables e below (T0.setTop (mkF m 9 #[.val (.int i0), .val (.int i1), .val (.int (i1 &&& (15 : Int32))), .unset, .unset, .unset] [(.int (1 : Int32)), (.int ((i1.toUInt32 >>> ((4 : Int32) &&& 31).toUInt32).toInt32))])) _
    refine XS.iand X0.here hx rfl (hb hby at_9) rfl ?_
    exact kt
  by_cases hc10 : (((i1.toUInt32 >>> ((4 : Int32) &&& 31).toUInt32).toInt32) &&& (1 : Int32)) = (0 : Int32)
  · have pre2 : ∀ target, Steps p.tables e below (T0.setTop (mkF m 18 #[.val (.int i0), .val (.int i1), .val (.int (i1 &&& (15 : Int32))), .unset, .unset, .unset] [(.int (0 : Int32))])) target → Steps p.tables e below (T0.setTop (mkF m 0 #[.val (.int i0), .val (.int i1), .unset, .unset, .unset, .unset] [])) target := by
      intro target kt
      refine pre1 target ?_
      show Steps p.tables e below (T0.setTop (mkF m 10 #[.val (.int i0), .val (.int i1), .val (.int (i1 &&& (15 : Int32))), .unset, .unset, .unset] [(.int (((i1.toUInt32 >>> ((4 : Int32) &&& 31).toUInt32).toInt32) &&& (1 : Int32)))])) _
      refine XS.ifYes X0.here hx rfl (pc0 := 10) (pc' := 17) rfl (hb hby at_10) rfl ((if0 _ _).trans (teq hc10).1) (by decide) (by decide) ?_
      show Steps p.tables e below (T0.setTop (mkF m 17 #[.val (.int i0), .val (.int i1), .val (.int (i1 &&& (15 : Int32))), .unset, .unset, .unset] [])) _
      refine XS.iconst X0.here hx rfl (hb hby at_17) ?_
      exact kt
    obtain ⟨T3, X3, e3, st3⟩ := own_b0_18 hx hZ hw hby hml hown hret i0 i1 (i1 &&& (15 : Int32)) (0 : Int32)  X0 e0 hcl hsl  
    have hv : (own_f0_0 i0 i1) = (own_f0_18 i0 i1 (i1 &&& (15 : Int32)) (0 : Int32)) := by unfold own_f0_0; rw [if_pos hc10]
    exact ⟨T3, X3, e3, fun fs hr => pre2 _ (st3 fs (by rw [hv] at hr; exact hr))⟩
  · have pre4 : ∀ target, Steps p.tables e below (T0.setTop (mkF m 18 #[.val (.int i0), .val (.int i1), .val (.int (i1 &&& (15 : Int32))), .unset, .unset, .unset] [(.int (1 : Int32))])) target → Steps p.tables e below (T0.setTop (mkF m 0 #[.val (.int i0), .val (.int i1), .unset, .unset, .unset, .unset] [])) target := by
      intro target kt
      refine pre1 target ?_
      show Steps p.tables e below (T0.setTop (mkF m 10 #[.val (.int i0), .val (.int i1), .val (.int (i1 &&& (15 : Int32))), .unset, .unset, .unset] [(.int (((i1.toUInt32 >>> ((4 : Int32) &&& 31).toUInt32).toInt32) &&& (1 : Int32)))])) _
      refine XS.ifNo X0.here hx rfl (hb hby at_10) rfl ((if0 _ _).trans (feq hc10).1) ?_
      show Steps p.tables e below (T0.setTop (mkF m 13 #[.val (.int i0), .val (.int i1), .val (.int (i1 &&& (15 : Int32))), .unset, .unset, .unset] [])) _
      refine XS.iconst X0.here hx rfl (hb hby at_13) ?_
      show Steps p.tables e below (T0.setTop (mkF m 14 #[.val (.int i0), .val (.int i1), .val (.int (i1 &&& (15 : Int32))), .unset, .unset, .unset] [(.int (1 : Int32))])) _
      refine XS.goto X0.here hx rfl (pc0 := 14) (pc' := 18) rfl (hb hby at_14) (by decide) (by decide) ?_
      exact kt
    obtain ⟨T5, X5, e5, st5⟩ := own_b0_18 hx hZ hw hby hml hown hret i0 i1 (i1 &&& (15 : Int32)) (1 : Int32)  X0 e0 hcl hsl  
    have hv : (own_f0_0 i0 i1) = (own_f0_18 i0 i1 (i1 &&& (15 : Int32)) (1 : Int32)) := by unfold own_f0_0; rw [if_neg hc10]
    exact ⟨T5, X5, e5, fun fs hr => pre4 _ (st5 fs (by rw [hv] at hr; exact hr))⟩
def Q0 (Z : State) (i0 : Int32) (i1 : Int32) (h0 : Heap) (n0 : Nat) (v : Option Value) (h : Heap) (L : List Loc) : Prop := v = some (.int (own_f0_0 i0 i1)) ∧ L = [] ∧ h = h0
set_option maxRecDepth 65536 in
set_option maxHeartbeats 40000000 in
theorem rm0 (l : Launch) (Z : State) (a0_ : Array Value) (hw : ∀ d ∈ tables_1, d.before a0_ Z = true) (ws : List Jvm.Cond) (i0 : Int32) (i1 : Int32) (h0 : Heap) (n0 : Nat) (Z0 : n0 ≤ h0.size)  :
    MetFree l x (head1 (Jvm.Cond.code x code maxLocals ret :: ws) room_1) (fun a U => a = #[(.int i0), (.int i1)] ∧ Z.Warmed39 U.vm ∧ U.heap = h0) (fun _ _ _ _ _ => True) (fun _ U o U' => ∃ v L, o = .returned v ∧ Q0 Z i0 i1 h0 n0 v U'.heap L ∧ FrameEnd U o U' L room_1.cells room_1.slots) := by
  refine MetFree.of_bodySF (plainFor_of_name pn_0) hisR ?_
  intro p e s m args below meth c s₁ Bd hml0 hP hK
  obtain ⟨rfl, hZ, hh⟩ := hP
  have hx := Bd.exec
  have hby := Bd.bytes
  have hml : c.maxLocals = 6 := hml0
  have hown : s.vm.findClass "com/example/open_brace/openbrace/text/EscapesHexValuePinLaw" = some m.cls := findClass_of_methodNamed Bd.named
  have X0 : Stand p l e room_1 s m #[(.int i0), (.int i1)] below meth c s₁ [] 0 0 := Stand.of_body Bd
  have e0 : s₁.heap = h0 := by rw [← hh, Bd.state]; rfl
  obtain ⟨T', X', e', st'⟩ := own_b0_0 hx hZ hw hby hml hown Bd.returns  i0 i1 X0 e0 (by decide) (by decide) 
  obtain ⟨fs, hr, hrun, hended, hW, hsame⟩ := X'.leave (v := some (.int (own_f0_0 i0 i1))) (fun h => by rw [Bd.returns] at h; cases h)
  refine ⟨_, _, castTop (ef_0 m i0 i1) (st' fs hr), hrun, hended, _, _, rfl, ?_, ⟨_, rfl⟩, hW, hsame.mono (by decide) (by decide)⟩
  exact ⟨rfl, rfl, e'⟩
theorem own_ofNat {x : Int32} {k : Nat} (h0 : 0 ≤ x.toInt) (h1 : x.toInt < k) (hk : k ≤ 2 ^ 31) : ∃ n : Fin k, x = Int32.ofNat n.val := by
  refine ⟨⟨x.toInt.toNat, by omega⟩, ?_⟩
  apply Int32.toInt_inj.mp
  rw [Int32.toInt_ofNat_small (by show x.toInt.toNat < 2 ^ 31; omega)]
  show x.toInt = ((x.toInt.toNat : Nat) : Int)
  omega
theorem own_lo : ∀ n : Fin 16, own_f2_0 (own_f1_0 (Int32.ofNat n.val)) = Int32.ofNat n.val := by decide +kernel
theorem own_up : ∀ n : Fin 16, own_f2_0 (own_f3_0 (Int32.ofNat n.val)) = Int32.ofNat n.val := by decide +kernel
theorem own_x : ∀ n : Fin 128, (own_f2_0 (Int32.ofNat n.val) = -1) ∨ (¬ own_f2_0 (Int32.ofNat n.val) < 0 ∧ ¬ 15 < own_f2_0 (Int32.ofNat n.val) ∧ (Int32.ofNat n.val = own_f1_0 (own_f2_0 (Int32.ofNat n.val)) ∨ Int32.ofNat n.val = own_f3_0 (own_f2_0 (Int32.ofNat n.val)))) := by decide +kernel
theorem own_far (x : Int32) (h : ¬ (0 ≤ x.toInt ∧ x.toInt < 128)) : own_f2_0 x = -1 := by
  have l48 : (48 : Int32).toInt = 48 := by decide +kernel
  have l57 : (57 : Int32).toInt = 57 := by decide +kernel
  have l65 : (65 : Int32).toInt = 65 := by decide +kernel
  have l70 : (70 : Int32).toInt = 70 := by decide +kernel
  have l97 : (97 : Int32).toInt = 97 := by decide +kernel
  have l102 : (102 : Int32).toInt = 102 := by decide +kernel
  simp only [own_f2_0, own_f2_22, own_f2_45, Int32.lt_iff_toInt_lt, l48, l57, l65, l70, l97, l102]
  repeat' split
  all_goals first | rfl | omega
theorem own_any (x : Int32) : (own_f2_0 x = -1) ∨ (¬ own_f2_0 x < 0 ∧ ¬ 15 < own_f2_0 x ∧ (x = own_f1_0 (own_f2_0 x) ∨ x = own_f3_0 (own_f2_0 x))) := by
  by_cases h : 0 ≤ x.toInt ∧ x.toInt < 128
  · obtain ⟨n, rfl⟩ := own_ofNat (k := 128) h.1 h.2 (by decide +kernel)
    exact own_x n
  · exact Or.inl (own_far x h)
theorem own_tail (i0 i1 v i3 d : Int32) (h : own_f2_0 d = v) : own_f0_38 i0 i1 v i3 d = 1 := by
  unfold own_f0_38
  rw [if_pos h]
  rcases own_any i0 with q | ⟨q1, q2, q3⟩
  · rw [if_pos q]
  · rw [if_neg q1, if_neg q2]
    rcases q3 with q3 | q3
    · rw [if_pos q3, ite_self]
    · rw [if_pos q3, ite_self, ite_self]
theorem own_law (i0 : Int32) (i1 : Int32) : own_f0_0 i0 i1 = 1 := by
  have m := c_mask i1 15 4 (by decide +kernel) (by decide +kernel)
  obtain ⟨n, hn⟩ := own_ofNat (x := i1 &&& 15) (k := 16) (by omega) (by omega) (by decide +kernel)
  have a : ∀ u, own_f0_18 i0 i1 (i1 &&& 15) u = 1 := by
    intro u
    unfold own_f0_18
    split
    · exact own_tail _ _ _ _ _ (by rw [hn]; exact own_lo n)
    · exact own_tail _ _ _ _ _ (by rw [hn]; exact own_up n)
  unfold own_f0_0
  rw [a, a, ite_self]
set_option maxRecDepth 65536 in
set_option maxHeartbeats 40000000 in
theorem comes_1 {Post : Tables → Env → Array Value → State → Outcome → State → Prop} (hpost : ∀ tb e args s v u, (limb_1_1.after args s (.returned v) u = true ∧ limb_1_2.after args s (.returned v) u = true ∧ True) → FrameEnd s (.returned v) u (Jvm.fieldLocs frame_1_writes args s ++ Jvm.arrayLocs frame_1_arrays args s ++ Jvm.staticLocs frame_1_statics s) 0 0 → Post tb e args s (.returned v) u) :
    ArmFor flags0 classFile x code maxLocals ret World_1 tables_1 room_1 Calls_1 rest_1 Pre_1 Post := by
  intro l hfl _ _ p e ha hc hk s m args below hf hA hF happ hP
  obtain ⟨hcalls, hrest, hpre⟩ := hP
  obtain ⟨-, -, -, hnamed, -, -, -, hat⟩ := (Spec.applies_iff hf).mp happ
  obtain ⟨hg, hn⟩ := and_e (Cond.before_iff.mp (show (Jvm.Cond.and given_1 narrow_1).before args s = true from hpre))
  obtain ⟨hcount, hg⟩ := and_e hg
  obtain ⟨g0, hg⟩ := and_e hg
  have g1 := hg
  obtain ⟨w0, w1, rfl⟩ : ∃ w0 w1 : Value, args = #[w0, w1] := by
    have hs : args.size = 2 := by simpa [Cond.value, given_1] using hcount
    obtain ⟨L⟩ := args
    match L, hs with
    | [w0, w1], _ => exact ⟨w0, w1, rfl⟩
  have hw := fun d (hd : d ∈ tables_1) => atoms_spec (ws := Jvm.Cond.code x code maxLocals ret :: tables_1) hat d (List.mem_cons_of_mem _ hd)
  obtain ⟨i0, ei0⟩ := is_v g0
  obtain rfl : w0 = (.int i0) := Option.some.inj ei0
  obtain ⟨i1, ei1⟩ := is_v g1
  obtain rfl : w1 = (.int i1) := Option.some.inj ei1
  obtain ⟨n, o, h1, h2, h3, _, L, rfl, ⟨rfl, rfl, N⟩, hq⟩ := rm0 l s _ hw tables_1 i0 i1 s.heap s.heap.size (Nat.le_refl _) p e ha hc hk s m _ below hf ((Spec.applies_iff_loose hf).mp happ).1 ⟨rfl, State.Warmed39.refl s, rfl⟩ trivial
  rw [own_law i0 i1] at h3 hq
  refine ⟨n, _, h1, h2, h3, hpost _ _ _ _ _ _ ⟨Cond.after_iff.mpr rfl, Cond.after_iff.mpr (eq_i res_at (Term.int_eval (1)) rfl), trivial⟩ ⟨hq.1, hq.2.1, (hq.2.2.sift fun y hy => nomatch hy).mono (by decide) (by decide)⟩⟩
theorem main_1_1 : Claimed_1_1 := comes_1 fun _ _ _ _ _ _ h hF => ⟨h.1, hF⟩
theorem main_1_2 : Claimed_1_2 := comes_1 fun _ _ _ _ _ _ h hF => ⟨h.2.1, hF⟩
end Jvm.Pilot.@@N@@
namespace Jvm.Pilot.@@N@@
open Jvm Jvm.ClassFile Sem Op Lib Jvm.Free Jvm.Stand Jvm.Pilot.@@N@@.Jvm.D
/-! MADE BY PROGRAM (witnessworld.py) out of the Statement's table words and the real class files: 9 classes; the members and pool entries that the words name. The judged class is class 1, her method 3. -/
namespace start1
open Jvm.ClassFile
def u (s : String) : CpInfo := .utf8 (stringToUtf16 s)
/-- a pool by its gaps: so many unusable entries, then the entry; so many at the end -/
def gap : Nat → List CpInfo → List CpInfo
  | 0, r => r
  | n + 1, r => .unusable :: gap n r
def poolList (es : List (Nat × CpInfo)) (last : Nat) : List CpInfo := es.foldr (fun e r => gap e.1 (e.2 :: r)) (gap last [])
def pool (es : List (Nat × CpInfo)) (last : Nat) : Array CpInfo := ⟨poolList es last⟩
def fileOf (pool : Array CpInfo) (this : Nat) (attrs : Array Attribute := #[]) (ms : Array MethodInfo := #[]) (fl : Nat := 33) (sup : Nat := 0) (ifs : Array Nat := #[]) (fds : Array FieldInfo := #[]) : ClassFile where
  minorVersion := 0
  majorVersion := 65
  constantPool := pool
  accessFlags := fl
  thisClass := this
  superClass := sup
  interfaces := ifs
  fields := fds
  methods := ms
  attributes := attrs
def plain (name : String) (sup : Option ClassId) : Class where
  name := name
  kind := .ordinary
  loader := none
  accessFlags := 33
  super := sup
  interfaces := #[]
  cf := none
  fields := #[]
  methods := #[]
  instanceTypes := #[]
  staticTypes := #[]
  resolved := #[]
  callSites := []
  init := .initialized
  statics := none
  mirror := none

def pool0 : Array CpInfo := pool [(5, u "<init>"), (0, u "()V"), (1, .class_ 10), (1, u "java/lang/Object")] 113

def k0m0 : Method := { name := "<init>", desc := "()V", sig := { parameters := [], returnType := none }, accessFlags := 1, code := none }
/-- java/lang/Object -/
def k0 : Class := { plain "java/lang/Object" none with
  accessFlags := 33
  interfaces := #[]
  cf := some (fileOf pool0 8 #[] #[{ accessFlags := 1, nameIndex := 5, descriptorIndex := 6, attributes := #[] }] 33 0 #[] #[])
  fields := #[]
  methods := #[k0m0]
  instanceTypes := #[]
  staticTypes := #[]
  resolved := Array.replicate 124 none
  statics := none }

def pool1 : Array CpInfo := pool [(2, .class_ 4), (1, u "java/lang/Object"), (0, u "<init>"), (0, u "()V"), (0, .methodref 8 9), (0, .class_ 10), (0, .nameAndType 11 12), (0, u "com/example/open_brace/openbrace/text/EscapesHexValuePinLaw"), (0, u "upperDigit"), (0, u "(I)I"), (0, .methodref 8 14), (0, .nameAndType 15 12), (0, u "lowerDigit"), (0, .methodref 17 18), (0, .class_ 19), (0, .nameAndType 20 12), (0, u "com/example/open_brace/openbrace/text/Escapes"), (0, u "hexValue"), (3, u "law"), (0, u "(II)Z")] 2

def k1m0 : Method := { name := "<init>", desc := "()V", sig := { parameters := [], returnType := none }, accessFlags := 2, code := none }
def k1c1 : Code := { maxStack := 3, maxLocals := 2, code := method_2_code, exceptionTable := #[], attributes := #[] }
def k1m1 : Method := { name := "lowerDigit", desc := "(I)I", sig := { parameters := [.int], returnType := some .int }, accessFlags := 10, code := some k1c1 }
def k1c2 : Code := { maxStack := 3, maxLocals := 2, code := method_3_code, exceptionTable := #[], attributes := #[] }
def k1m2 : Method := { name := "upperDigit", desc := "(I)I", sig := { parameters := [.int], returnType := some .int }, accessFlags := 10, code := some k1c2 }
def k1c3 : Code := { maxStack := 2, maxLocals := 6, code := code, exceptionTable := #[], attributes := #[] }
def k1m3 : Method := { name := "law", desc := "(II)Z", sig := { parameters := [.int, .int], returnType := some .boolean }, accessFlags := 9, code := some k1c3 }
/-- com/example/open_brace/openbrace/text/EscapesHexValuePinLaw -/
def k1 : Class := { plain "com/example/open_brace/openbrace/text/EscapesHexValuePinLaw" (some 0) with
  accessFlags := 49
  interfaces := #[]
  cf := some (fileOf pool1 8 #[] #[{ accessFlags := 2, nameIndex := 5, descriptorIndex := 6, attributes := #[] }, { accessFlags := 10, nameIndex := 15, descriptorIndex := 12, attributes := #[] }, { accessFlags := 10, nameIndex := 11, descriptorIndex := 12, attributes := #[] }, { accessFlags := 9, nameIndex := 24, descriptorIndex := 25, attributes := #[] }] 49 2 #[] #[])
  fields := #[]
  methods := #[k1m0, k1m1, k1m2, k1m3]
  instanceTypes := #[]
  staticTypes := #[]
  resolved := Array.replicate 28 none
  statics := none }

def pool2 : Array CpInfo := pool [(2, .class_ 4), (1, u "java/lang/Object"), (0, u "<init>"), (0, u "()V"), (6, .class_ 14), (0, u "com/example/open_brace/openbrace/text/Escapes"), (16, u "UNESCAPED"), (0, u "[I"), (3, u "(I)I"), (9, u "[B"), (2, u "I"), (8, u "ESCAPED"), (22, u "HEX_DIGITS"), (0, u "[C"), (14, u "LETTERS"), (0, u "Ljava/lang/String;"), (1, u "CHARS"), (0, u "PIECE"), (7, u "hexValue")] 5

def k2m0 : Method := { name := "<init>", desc := "()V", sig := { parameters := [], returnType := none }, accessFlags := 2, code := none }
def k2c1 : Code := { maxStack := 2, maxLocals := 2, code := prog_93_method_5_code, exceptionTable := #[], attributes := #[] }
def k2m1 : Method := { name := "hexValue", desc := "(I)I", sig := { parameters := [.int], returnType := some .int }, accessFlags := 9, code := some k2c1 }
/-- com/example/open_brace/openbrace/text/Escapes -/
def k2 : Class := { plain "com/example/open_brace/openbrace/text/Escapes" (some 0) with
  accessFlags := 33
  interfaces := #[]
  cf := some (fileOf pool2 13 #[] #[{ accessFlags := 2, nameIndex := 5, descriptorIndex := 6, attributes := #[] }, { accessFlags := 9, nameIndex := 109, descriptorIndex := 36, attributes := #[] }] 33 2 #[] #[{ accessFlags := 26, nameIndex := 97, descriptorIndex := 98, attributes := #[] }, { accessFlags := 26, nameIndex := 100, descriptorIndex := 98, attributes := #[] }, { accessFlags := 26, nameIndex := 81, descriptorIndex := 82, attributes := #[] }, { accessFlags := 26, nameIndex := 31, descriptorIndex := 32, attributes := #[] }, { accessFlags := 26, nameIndex := 58, descriptorIndex := 46, attributes := #[] }, { accessFlags := 26, nameIndex := 101, descriptorIndex := 49, attributes := #[] }])
  fields := #[{ name := "LETTERS", type := (.object "java/lang/String"), accessFlags := 26, slot := 0, constantValue := 0 }, { name := "CHARS", type := (.object "java/lang/String"), accessFlags := 26, slot := 1, constantValue := 0 }, { name := "HEX_DIGITS", type := (.array .char), accessFlags := 26, slot := 2, constantValue := 0 }, { name := "UNESCAPED", type := (.array .int), accessFlags := 26, slot := 3, constantValue := 0 }, { name := "ESCAPED", type := (.array .byte), accessFlags := 26, slot := 4, constantValue := 0 }, { name := "PIECE", type := .int, accessFlags := 26, slot := 5, constantValue := 0 }]
  methods := #[k2m0, k2m1]
  instanceTypes := #[]
  staticTypes := #[(.object "java/lang/String"), (.object "java/lang/String"), (.array .char), (.array .int), (.array .byte), .int]
  resolved := Array.replicate 115 none
  statics := none }

def pool3 : Array CpInfo := pool [(1, u "java/lang/Cloneable"), (0, .class_ 1), (0, u "java/lang/Object"), (0, .class_ 3)] 3

/-- java/lang/Cloneable -/
def k3 : Class := { plain "java/lang/Cloneable" (some 0) with
  accessFlags := 1537
  interfaces := #[]
  cf := some (fileOf pool3 2 #[] #[] 1537 4 #[] #[])
  fields := #[]
  methods := #[]
  instanceTypes := #[]
  staticTypes := #[]
  resolved := Array.replicate 8 none
  statics := none }

def pool4 : Array CpInfo := pool [(1, u "java/io/Serializable"), (0, .class_ 1), (0, u "java/lang/Object"), (0, .class_ 3)] 3

/-- java/io/Serializable -/
def k4 : Class := { plain "java/io/Serializable" (some 0) with
  accessFlags := 1537
  interfaces := #[]
  cf := some (fileOf pool4 2 #[] #[] 1537 4 #[] #[])
  fields := #[]
  methods := #[]
  instanceTypes := #[]
  staticTypes := #[]
  resolved := Array.replicate 8 none
  statics := none }

/-- the primitive byte -/
def k5 : Class := { plain "byte" none with kind := .primitive 'B', accessFlags := 0x411 }
/-- [B -/
def k6 : Class := { plain "[B" (some 0) with kind := .array 5 .byte, interfaces := #[3, 4], accessFlags := 1041 }

/-- the primitive int -/
def k7 : Class := { plain "int" none with kind := .primitive 'I', accessFlags := 0x411 }
/-- [I -/
def k8 : Class := { plain "[I" (some 0) with kind := .array 7 .int, interfaces := #[3, 4], accessFlags := 1041 }

def heap : Heap := #[]
def classes : Array Class := #[k0, k1, k2, k3, k4, k5, k6, k7, k8]
def interned : List (Array UInt16 × Addr) := []
def slotsUsed : Nat := 0
def theMethod : MethodId := ⟨1, 3⟩
def args0 : Array Value := #[.int 5, .int 6]
def aboutOver (below : List Frame) : State where
  vm := { classes := classes, interned := interned.toArray }
  heap := heap
  slotsUsed := slotsUsed
  threads := #[{ frames := .invoking theMethod args0 :: below }]
def below0 : List Frame := [.native { method := ⟨0, 0⟩, args := #[] }]
def about1 : State := aboutOver below0
def p0 : Program := .bare "" "" ""
def e0 : Env := launch0.env 0 0 0
theorem w_frames : about1.frames = Frame.invoking theMethod args0 :: below0 := rfl
set_option maxRecDepth 65536 in
theorem w_args : argsFit about1.vm theMethod args0 = true := by decide +kernel
set_option maxRecDepth 65536 in
theorem w_heap : heapFits about1 = true := by decide +kernel
set_option maxRecDepth 65536 in
theorem w_runnable : about1.curStatus? = some .runnable := by decide +kernel
set_option maxRecDepth 65536 in
theorem w_alone : about1.alone = true := by decide +kernel
set_option maxRecDepth 65536 in
theorem w_named : about1.methodNamed? x = some theMethod := by decide +kernel
set_option maxRecDepth 65536 in
theorem w_hears : about1.hears theMethod below0 = true := by decide +kernel
set_option maxRecDepth 65536 in
theorem w_ripe : about1.ripe theMethod args0 below0 = true := by decide +kernel
theorem w_running : about1.status = .running := rfl
set_option maxRecDepth 65536 in
theorem w_room : about1.hasRoom e0.platform room_1 = true :=
  launch0.hasRoom_least _ room_1 (by decide +kernel) (by decide +kernel) (by decide +kernel) (by decide +kernel) (by decide +kernel) (by decide +kernel)
theorem allAtoms_all (ts : List Jvm.Cond) (a : Array Jvm.Value) (st : Jvm.State) : (allAtoms ts).before a st = ts.all (fun c => c.before a st) := by
  induction ts with
  | nil => rfl
  | cons c t ih =>
    show (Jvm.Cond.and c (allAtoms t)).before a st = _
    rw [Jvm.Cond.before_and, ih, List.all_cons]
def words1 : List Jvm.Cond := Jvm.Cond.code x code maxLocals ret :: tables_1
/-- a 'code' word, met by the world's own term for the bytes: nothing is compared byte by byte -/
theorem code_word {y : MethodName} {bytes : ByteArray} {mx : Nat} {rt : Option FieldType} {a : Array Value} {s : State} {m : MethodId} {meth : Method} {c : Code} (h1 : s.methodNamed? y = some m) (h2 : s.vm.method? m = some meth) (h3 : meth.code = some c) (h4 : c.code = bytes)
    (h5 : (c.maxLocals == mx && c.exceptionTable.isEmpty && decide (c.maxStack ≤ mostOperands) && decide (meth.sig.returnType = rt) && !meth.locks && decide (parseMethodDescriptor y.desc = some meth.sig)) = true) : (Jvm.Cond.code y bytes mx rt).before a s = true := by
  simp only [Bool.and_eq_true, beq_iff_eq, Bool.not_eq_true', decide_eq_true_eq] at h5
  obtain ⟨⟨⟨⟨⟨g1, g2⟩, g3⟩, g4⟩, g5⟩, g6⟩ := h5
  simp [Cond.before, Cond.holds, Cond.value, h1, h2, h3, h4, g1, g2, g3, g4, g5, g6]
def isCode : Jvm.Cond → Bool
  | .code _ _ _ _ => true
  | _ => false
theorem all_split {L : List Jvm.Cond} {P : Jvm.Cond → Bool} (h1 : L.all (fun c => isCode c || P c) = true) (h2 : ∀ c ∈ L.filter isCode, P c = true) : L.all P = true := by
  refine List.all_eq_true.mpr fun c hc => ?_
  have h := List.all_eq_true.mp h1 c hc
  rcases Bool.eq_false_or_eq_true (isCode c) with hi | hi
  · exact h2 c (List.mem_filter.mpr ⟨hc, hi⟩)
  · simpa [hi] using h
set_option maxRecDepth 65536 in
theorem w_c0 : (Jvm.Cond.code x code maxLocals ret).before args0 about1 = true := code_word (m := ⟨1, 3⟩) (meth := k1m3) (c := k1c3) (by decide +kernel) rfl rfl rfl (by decide +kernel)
set_option maxRecDepth 65536 in
theorem w_c1 : (Jvm.Cond.code ({ cls := "com/example/open_brace/openbrace/text/EscapesHexValuePinLaw", name := "lowerDigit", desc := "(I)I" } : Jvm.MethodName) method_2_code (2 : Nat) (Option.some Jvm.ClassFile.FieldType.int)).before args0 about1 = true := code_word (m := ⟨1, 1⟩) (meth := k1m1) (c := k1c1) (by decide +kernel) rfl rfl rfl (by decide +kernel)
set_option maxRecDepth 65536 in
theorem w_c2 : (Jvm.Cond.code ({ cls := "com/example/open_brace/openbrace/text/Escapes", name := "hexValue", desc := "(I)I" } : Jvm.MethodName) prog_93_method_5_code (2 : Nat) (Option.some Jvm.ClassFile.FieldType.int)).before args0 about1 = true := code_word (m := ⟨2, 1⟩) (meth := k2m1) (c := k2c1) (by decide +kernel) rfl rfl rfl (by decide +kernel)
set_option maxRecDepth 65536 in
theorem w_c3 : (Jvm.Cond.code ({ cls := "com/example/open_brace/openbrace/text/EscapesHexValuePinLaw", name := "upperDigit", desc := "(I)I" } : Jvm.MethodName) method_3_code (2 : Nat) (Option.some Jvm.ClassFile.FieldType.int)).before args0 about1 = true := code_word (m := ⟨1, 2⟩) (meth := k1m2) (c := k1c2) (by decide +kernel) rfl rfl rfl (by decide +kernel)
def codes1 : List Jvm.Cond := [Jvm.Cond.code x code maxLocals ret, Jvm.Cond.code ({ cls := "com/example/open_brace/openbrace/text/EscapesHexValuePinLaw", name := "lowerDigit", desc := "(I)I" } : Jvm.MethodName) method_2_code (2 : Nat) (Option.some Jvm.ClassFile.FieldType.int), Jvm.Cond.code ({ cls := "com/example/open_brace/openbrace/text/Escapes", name := "hexValue", desc := "(I)I" } : Jvm.MethodName) prog_93_method_5_code (2 : Nat) (Option.some Jvm.ClassFile.FieldType.int), Jvm.Cond.code ({ cls := "com/example/open_brace/openbrace/text/EscapesHexValuePinLaw", name := "upperDigit", desc := "(I)I" } : Jvm.MethodName) method_3_code (2 : Nat) (Option.some Jvm.ClassFile.FieldType.int)]
set_option maxRecDepth 65536 in
theorem codes_eq : words1.filter isCode = codes1 := rfl
theorem w_codes : ∀ c ∈ words1.filter isCode, c.before args0 about1 = true := by
  rw [codes_eq]
  intro c hc
  simp only [codes1, List.mem_cons, List.not_mem_nil, or_false] at hc
  rcases hc with rfl | rfl | rfl | rfl
  · exact w_c0
  · exact w_c1
  · exact w_c2
  · exact w_c3
set_option maxRecDepth 65536 in
theorem w_t1 : words1.all (fun c => isCode c || c.before args0 about1) = true := by decide +kernel
theorem w_tables : (allAtoms (Jvm.Cond.code x code maxLocals ret :: tables_1)).before args0 about1 = true := by
  rw [allAtoms_all]
  show words1.all (fun c => c.before args0 about1) = true
  refine all_split ?_ w_codes
  rw [w_t1]
set_option maxRecDepth 65536 in
theorem w_case : (Jvm.Cond.and given_1 narrow_1).before args0 about1 = true := by decide +kernel
theorem w_applies : (headSpec (Jvm.Cond.code x code maxLocals ret :: tables_1) room_1).applies x e0.platform about1 = true :=
  (Spec.applies_iff w_frames).mpr ⟨w_running, w_runnable, w_alone, w_named, w_hears, w_ripe, w_room, w_tables⟩
theorem atStart : AtStart classFile x code maxLocals ret World_1 tables_1 room_1 Calls_1 rest_1 Pre_1 launch0 p0 e0 about1 theMethod args0 below0 :=
  ⟨lists_1, trivial, launch0.admits_env _ _ _, launch0.least_env, fairChoices_fair.cas, fairChoices_fair.clock, w_frames, w_args, w_heap, w_applies, trivial, trivial, w_case⟩
end start1
theorem witness_1 : WitnessClaimed_1 := ⟨start1.p0, start1.e0, start1.about1, start1.theMethod, start1.args0, start1.below0, start1.atStart⟩
end Jvm.Pilot.@@N@@
