import JvmDerived
import JvmDerived.Pilot.@@N@@Statement
import JvmDerived.Pilot.@@N@@Code
set_option linter.unusedVariables false
set_option linter.unusedSimpArgs false
namespace Jvm.RoadKit
open Sem ClassFile Op Lib Jvm.Stand Jvm.Free Jvm.LawKit
section New
variable {p : Program} {l : Launch} {e : Env} {R : Room} {s : State} {m : MethodId} {args : Array Value} {below : List Frame} {meth : Method} {c : Code} {T : State} {locs : List Loc} {cells slots : Nat}
theorem retI (X : Stand p l e R s m args below meth c T locs cells slots) (hx : p.tables.exec = Jvm.exec) {pc : Nat} {Ls : Array Slot} {z : Int32} {rest : List Value} (hret : meth.sig.returnType = some .int) (hd : decode c.code pc = .ok (.ireturn, 1)) {fs : List Frame}
    (hl : ∀ (f : JFrame) (acts : List Action), f.method = m → f.locked = none → f.entered = [] → (doReturn e (T.setTop f) acts (some (.int z))).1 = T.setFrames fs) : Steps p.tables e below (T.setTop (mkF m pc Ls (.int z :: rest))) (T.setFrames fs) := by
  have hm' : T.vm.method? m = some meth := X.method'
  have hn : narrow .int (.int z) = .int z := rfl
  show Steps p.tables e below (T.setTop { method := m, pc := pc, locals := Ls, stack := _ :: rest, locked := none }) _
  jvm_step X.here [X.here.top, hx, hd, hm', hret, hn]
  first | (intro acts; rw [hl _ acts rfl rfl rfl]) | rw [hl _ _ rfl rfl rfl]
  exact Steps.refl _
end New
end Jvm.RoadKit
namespace Jvm.Pilot.@@N@@
open Jvm Jvm.ClassFile Sem Op Lib Jvm.Free Jvm.Stand Jvm.LawKit Jvm.RoadKit Bundle Jvm.Pilot.@@N@@.Jvm.D
theorem d2_0 : decode prog_12_method_2_code 0 = .ok (.iload_n 0, 1) := by decide +kernel
theorem d2_1 : decode prog_12_method_2_code 1 = .ok (.bipush 48, 2) := by decide +kernel
theorem d2_3 : decode prog_12_method_2_code 3 = .ok (.if_icmp .lt 13, 3) := by decide +kernel
theorem d2_6 : decode prog_12_method_2_code 6 = .ok (.iload_n 0, 1) := by decide +kernel
theorem d2_7 : decode prog_12_method_2_code 7 = .ok (.bipush 57, 2) := by decide +kernel
theorem d2_9 : decode prog_12_method_2_code 9 = .ok (.if_icmp .gt 7, 3) := by decide +kernel
theorem d2_12 : decode prog_12_method_2_code 12 = .ok (.iconst 1, 1) := by decide +kernel
theorem d2_13 : decode prog_12_method_2_code 13 = .ok (.goto 4, 3) := by decide +kernel
theorem d2_16 : decode prog_12_method_2_code 16 = .ok (.iconst 0, 1) := by decide +kernel
theorem d2_17 : decode prog_12_method_2_code 17 = .ok (.ireturn, 1) := by decide +kernel
theorem pn_2 : plainName "com/example/ack_on_arrival/ackonarrival/server/Grammar" = true := by first | (simp [plainName, overriddenIn]; done) | decide +kernel
theorem ef_2 (m : MethodId) (i0 : Int32) : entryFrame m #[(.int i0)] 1 = mkF m 0 #[.val (.int i0)] [] := by first | (simp [entryFrame, mkF, argsToLocals, Value.category]; done) | rfl
def own_f2_0 (i0 : Int32) : Int32 :=
  (if i0 < (48 : Int32) then (0 : Int32) else (if (57 : Int32) < i0 then (0 : Int32) else (1 : Int32)))
set_option maxRecDepth 65536 in
set_option maxHeartbeats 40000000 in
theorem own_b2_0 {p : Program} {l : Launch} {e : Env} {s : State} {m : MethodId} {args : Array Value} {below : List Frame} {meth : Method} {c : Code} {Z : State} {a0_ : Array Value} (hx : p.tables.exec = Jvm.exec) (hZ : Z.Warmed39 s.vm) (hw : ∀ d ∈ tables_1, d.before a0_ Z = true) (hby : c.code = prog_12_method_2_code) (hml : c.maxLocals = 1) (hown : s.vm.findClass "com/example/ack_on_arrival/ackonarrival/server/Grammar" = some m.cls) (hret : meth.sig.returnType = some .boolean) {T0 : State} {locs : List Loc} {cells slots : Nat} {h0 : Heap} (i0 : Int32)
    (X0 : Stand p l e ({ frames := 0, cells := 0, slots := 0, locals := 0 } : Room) s m args below meth c T0 locs cells slots) (e0 : T0.heap = h0) (hcl : cells ≤ ({ frames := 0, cells := 0, slots := 0, locals := 0 } : Room).cells) (hsl : slots ≤ ({ frames := 0, cells := 0, slots := 0, locals := 0 } : Room).slots)  :
    ∃ T', Stand p l e ({ frames := 0, cells := 0, slots := 0, locals := 0 } : Room) s m args below meth c T' locs cells slots ∧ T'.heap = h0 ∧ ∀ fs, (∀ (f : JFrame) (acts : List Action), f.method = m → f.locked = none → f.entered = [] → (doReturn e (T'.setTop f) acts (some (.int (own_f2_0 i0)))).1 = T'.setFrames fs) → Steps p.tables e below (T0.setTop (mkF m 0 #[.val (.int i0)] [])) (T'.setFrames fs) := by
  have pre1 : ∀ target, Steps p.tables e below (T0.setTop (mkF m 3 #[.val (.int i0)] [(.int (48 : Int32)), (.int i0)])) target → Steps p.tables e below (T0.setTop (mkF m 0 #[.val (.int i0)] [])) target := by
    intro target kt
    show Steps p.tables e below (T0.setTop (mkF m 0 #[.val (.int i0)] [])) _
    refine XS.iloadN X0.here hx rfl (hb hby d2_0) rfl ?_
    show Steps p.tables e below (T0.setTop (mkF m 1 #[.val (.int i0)] [(.int i0)])) _
    refine XS.bipush X0.here hx rfl (hb hby d2_1) ?_
    exact kt
  by_cases hc3 : i0 < (48 : Int32)
  · refine ⟨T0, X0, e0, fun fs hr => ?_⟩
    have hv : (own_f2_0 i0) = (0 : Int32) := by unfold own_f2_0; rw [if_pos hc3]
    rw [hv] at hr
    refine pre1 _ ?_
    show Steps p.tables e below (T0.setTop (mkF m 3 #[.val (.int i0)] [(.int (48 : Int32)), (.int i0)])) _
    refine XS.icmpYes X0.here hx rfl (pc0 := 3) (pc' := 16) rfl (hb hby d2_3) rfl (tlt hc3).1 (by decide) (by decide) ?_
    show Steps p.tables e below (T0.setTop (mkF m 16 #[.val (.int i0)] [])) _
    refine XS.iconst X0.here hx rfl (hb hby d2_16) ?_
    show Steps p.tables e below (T0.setTop (mkF m 17 #[.val (.int i0)] [(.int (0 : Int32))])) _
    exact retN X0 hx (t := .boolean) hret (by simp) (hb hby d2_17) hr
  · have pre2 : ∀ target, Steps p.tables e below (T0.setTop (mkF m 9 #[.val (.int i0)] [(.int (57 : Int32)), (.int i0)])) target → Steps p.tables e below (T0.setTop (mkF m 0 #[.val (.int i0)] [])) target := by
      intro target kt
      refine pre1 target ?_
      show Steps p.tables e below (T0.setTop (mkF m 3 #[.val (.int i0)] [(.int (48 : Int32)), (.int i0)])) _
      refine XS.icmpNo X0.here hx rfl (hb hby d2_3) rfl (flt hc3).1 ?_
      show Steps p.tables e below (T0.setTop (mkF m 6 #[.val (.int i0)] [])) _
      refine XS.iloadN X0.here hx rfl (hb hby d2_6) rfl ?_
      show Steps p.tables e below (T0.setTop (mkF m 7 #[.val (.int i0)] [(.int i0)])) _
      refine XS.bipush X0.here hx rfl (hb hby d2_7) ?_
      exact kt
    by_cases hc9 : (57 : Int32) < i0
    · refine ⟨T0, X0, e0, fun fs hr => ?_⟩
      have hv : (own_f2_0 i0) = (0 : Int32) := by unfold own_f2_0; rw [if_neg hc3, if_pos hc9]
      rw [hv] at hr
      refine pre2 _ ?_
      show Steps p.tables e below (T0.setTop (mkF m 9 #[.val (.int i0)] [(.int (57 : Int32)), (.int i0)])) _
      refine XS.icmpYes X0.here hx rfl (pc0 := 9) (pc' := 16) rfl (hb hby d2_9) rfl (tlt hc9).2.2.1 (by decide) (by decide) ?_
      show Steps p.tables e below (T0.setTop (mkF m 16 #[.val (.int i0)] [])) _
      refine XS.iconst X0.here hx rfl (hb hby d2_16) ?_
      show Steps p.tables e below (T0.setTop (mkF m 17 #[.val (.int i0)] [(.int (0 : Int32))])) _
      exact retN X0 hx (t := .boolean) hret (by simp) (hb hby d2_17) hr
    · refine ⟨T0, X0, e0, fun fs hr => ?_⟩
      have hv : (own_f2_0 i0) = (1 : Int32) := by unfold own_f2_0; rw [if_neg hc3, if_neg hc9]
      rw [hv] at hr
      refine pre2 _ ?_
      show Steps p.tables e below (T0.setTop (mkF m 9 #[.val (.int i0)] [(.int (57 : Int32)), (.int i0)])) _
      refine XS.icmpNo X0.here hx rfl (hb hby d2_9) rfl (flt hc9).2.2.1 ?_
      show Steps p.tables e below (T0.setTop (mkF m 12 #[.val (.int i0)] [])) _
      refine XS.iconst X0.here hx rfl (hb hby d2_12) ?_
      show Steps p.tables e below (T0.setTop (mkF m 13 #[.val (.int i0)] [(.int (1 : Int32))])) _
      refine XS.goto X0.here hx rfl (pc0 := 13) (pc' := 17) rfl (hb hby d2_13) (by decide) (by decide) ?_
      show Steps p.tables e below (T0.setTop (mkF m 17 #[.val (.int i0)] [(.int (1 : Int32))])) _
      exact retN X0 hx (t := .boolean) hret (by simp) (hb hby d2_17) hr
def Q2 (Z : State) (i0 : Int32) (h0 : Heap) (n0 : Nat) (v : Option Value) (h : Heap) (L : List Loc) : Prop := v = some (.int (own_f2_0 i0)) ∧ L = [] ∧ h = h0
set_option maxRecDepth 65536 in
set_option maxHeartbeats 40000000 in
theorem rm2 (l : Launch) (Z : State) (a0_ : Array Value) (hw : ∀ d ∈ tables_1, d.before a0_ Z = true) (ws : List Jvm.Cond) (i0 : Int32) (h0 : Heap) (n0 : Nat) (Z0 : n0 ≤ h0.size)  :
    MetFree l (⟨"com/example/ack_on_arrival/ackonarrival/server/Grammar", "isDigit", "(I)Z"⟩ : MethodName) (head1 (Jvm.Cond.code (⟨"com/example/ack_on_arrival/ackonarrival/server/Grammar", "isDigit", "(I)Z"⟩ : MethodName) prog_12_method_2_code 1 (some .boolean) :: ws) ({ frames := 0, cells := 0, slots := 0, locals := 0 } : Room)) (fun a U => a = #[(.int i0)] ∧ Z.Warmed39 U.vm ∧ U.heap = h0) (fun _ _ _ _ _ => True) (fun _ U o U' => ∃ v L, o = .returned v ∧ Q2 Z i0 h0 n0 v U'.heap L ∧ FrameEnd U o U' L ({ frames := 0, cells := 0, slots := 0, locals := 0 } : Room).cells ({ frames := 0, cells := 0, slots := 0, locals := 0 } : Room).slots) := by
  refine MetFree.of_bodySF (plainFor_of_name pn_2) hisR ?_
  intro p e s m args below meth c s₁ Bd hml0 hP hK
  obtain ⟨rfl, hZ, hh⟩ := hP
  have hx := Bd.exec
  have hby := Bd.bytes
  have hml : c.maxLocals = 1 := hml0
  have hown : s.vm.findClass "com/example/ack_on_arrival/ackonarrival/server/Grammar" = some m.cls := findClass_of_methodNamed Bd.named
  have X0 : Stand p l e ({ frames := 0, cells := 0, slots := 0, locals := 0 } : Room) s m #[(.int i0)] below meth c s₁ [] 0 0 := Stand.of_body Bd
  have e0 : s₁.heap = h0 := by rw [← hh, Bd.state]; rfl
  obtain ⟨T', X', e', st'⟩ := own_b2_0 hx hZ hw hby hml hown Bd.returns  i0 X0 e0 (by decide) (by decide) 
  obtain ⟨fs, hr, hrun, hended, hW, hsame⟩ := X'.leave (v := some (.int (own_f2_0 i0))) (fun h => by rw [Bd.returns] at h; cases h)
  refine ⟨_, _, castTop (ef_2 m i0) (st' fs hr), hrun, hended, _, _, rfl, ?_, ⟨_, rfl⟩, hW, hsame.mono (by decide) (by decide)⟩
  exact ⟨rfl, rfl, e'⟩
theorem d1_0 : decode prog_12_method_3_code 0 = .ok (.iload_n 0, 1) := by decide +kernel
theorem d1_1 : decode prog_12_method_3_code 1 = .ok (.invokestatic 7, 3) := by decide +kernel
theorem d1_4 : decode prog_12_method_3_code 4 = .ok (.ifCond .ne 27, 3) := by decide +kernel
theorem d1_7 : decode prog_12_method_3_code 7 = .ok (.iload_n 0, 1) := by decide +kernel
theorem d1_8 : decode prog_12_method_3_code 8 = .ok (.bipush 65, 2) := by decide +kernel
theorem d1_10 : decode prog_12_method_3_code 10 = .ok (.if_icmp .lt 9, 3) := by decide +kernel
theorem d1_13 : decode prog_12_method_3_code 13 = .ok (.iload_n 0, 1) := by decide +kernel
theorem d1_14 : decode prog_12_method_3_code 14 = .ok (.bipush 70, 2) := by decide +kernel
theorem d1_16 : decode prog_12_method_3_code 16 = .ok (.if_icmp .le 15, 3) := by decide +kernel
theorem d1_19 : decode prog_12_method_3_code 19 = .ok (.iload_n 0, 1) := by decide +kernel
theorem d1_20 : decode prog_12_method_3_code 20 = .ok (.bipush 97, 2) := by decide +kernel
theorem d1_22 : decode prog_12_method_3_code 22 = .ok (.if_icmp .lt 13, 3) := by decide +kernel
theorem d1_25 : decode prog_12_method_3_code 25 = .ok (.iload_n 0, 1) := by decide +kernel
theorem d1_26 : decode prog_12_method_3_code 26 = .ok (.bipush 102, 2) := by decide +kernel
theorem d1_28 : decode prog_12_method_3_code 28 = .ok (.if_icmp .gt 7, 3) := by decide +kernel
theorem d1_31 : decode prog_12_method_3_code 31 = .ok (.iconst 1, 1) := by decide +kernel
theorem d1_32 : decode prog_12_method_3_code 32 = .ok (.goto 4, 3) := by decide +kernel
theorem d1_35 : decode prog_12_method_3_code 35 = .ok (.iconst 0, 1) := by decide +kernel
theorem d1_36 : decode prog_12_method_3_code 36 = .ok (.ireturn, 1) := by decide +kernel
theorem pn_1 : plainName "com/example/ack_on_arrival/ackonarrival/server/Grammar" = true := by first | (simp [plainName, overriddenIn]; done) | decide +kernel
theorem pd_1_0 : parseMethodDescriptor "(I)Z" = some ⟨[.int], some .boolean⟩ := by decide +kernel
theorem ef_1 (m : MethodId) (i0 : Int32) : entryFrame m #[(.int i0)] 1 = mkF m 0 #[.val (.int i0)] [] := by first | (simp [entryFrame, mkF, argsToLocals, Value.category]; done) | rfl
def own_f1_19 (i0 : Int32) : Int32 :=
  (if i0 < (97 : Int32) then (0 : Int32) else (if (102 : Int32) < i0 then (0 : Int32) else (1 : Int32)))
def own_f1_0 (i0 : Int32) : Int32 :=
  (if (own_f2_0 i0) = (0 : Int32) then (if i0 < (65 : Int32) then (own_f1_19 i0) else (if (70 : Int32) < i0 then (own_f1_19 i0) else (1 : Int32))) else (1 : Int32))
set_option maxRecDepth 65536 in
set_option maxHeartbeats 40000000 in
theorem own_b1_19 {p : Program} {l : Launch} {e : Env} {s : State} {m : MethodId} {args : Array Value} {below : List Frame} {meth : Method} {c : Code} {Z : State} {a0_ : Array Value} (hx : p.tables.exec = Jvm.exec) (hZ : Z.Warmed39 s.vm) (hw : ∀ d ∈ tables_1, d.before a0_ Z = true) (hby : c.code = prog_12_method_3_code) (hml : c.maxLocals = 1) (hown : s.vm.findClass "com/example/ack_on_arrival/ackonarrival/server/Grammar" = some m.cls) (hret : meth.sig.returnType = some .boolean) {T0 : State} {locs : List Loc} {cells slots : Nat} {h0 : Heap} (i0 : Int32)
    (X0 : Stand p l e ({ frames := 1, cells := 0, slots := 0, locals := 12 } : Room) s m args below meth c T0 locs cells slots) (e0 : T0.heap = h0) (hcl : cells ≤ ({ frames := 1, cells := 0, slots := 0, locals := 12 } : Room).cells) (hsl : slots ≤ ({ frames := 1, cells := 0, slots := 0, locals := 12 } : Room).slots)  :
    ∃ T', Stand p l e ({ frames := 1, cells := 0, slots := 0, locals := 12 } : Room) s m args below meth c T' locs cells slots ∧ T'.heap = h0 ∧ ∀ fs, (∀ (f : JFrame) (acts : List Action), f.method = m → f.locked = none → f.entered = [] → (doReturn e (T'.setTop f) acts (some (.int (own_f1_19 i0)))).1 = T'.setFrames fs) → Steps p.tables e below (T0.setTop (mkF m 19 #[.val (.int i0)] [])) (T'.setFrames fs) := by
  have pre1 : ∀ target, Steps p.tables e below (T0.setTop (mkF m 22 #[.val (.int i0)] [(.int (97 : Int32)), (.int i0)])) target → Steps p.tables e below (T0.setTop (mkF m 19 #[.val (.int i0)] [])) target := by
    intro target kt
    show Steps p.tables e below (T0.setTop (mkF m 19 #[.val (.int i0)] [])) _
    refine XS.iloadN X0.here hx rfl (hb hby d1_19) rfl ?_
    show Steps p.tables e below (T0.setTop (mkF m 20 #[.val (.int i0)] [(.int i0)])) _
    refine XS.bipush X0.here hx rfl (hb hby d1_20) ?_
    exact kt
  by_cases hc22 : i0 < (97 : Int32)
  · refine ⟨T0, X0, e0, fun fs hr => ?_⟩
    have hv : (own_f1_19 i0) = (0 : Int32) := by unfold own_f1_19; rw [if_pos hc22]
    rw [hv] at hr
    refine pre1 _ ?_
    show Steps p.tables e below (T0.setTop (mkF m 22 #[.val (.int i0)] [(.int (97 : Int32)), (.int i0)])) _
    refine XS.icmpYes X0.here hx rfl (pc0 := 22) (pc' := 35) rfl (hb hby d1_22) rfl (tlt hc22).1 (by decide) (by decide) ?_
    show Steps p.tables e below (T0.setTop (mkF m 35 #[.val (.int i0)] [])) _
    refine XS.iconst X0.here hx rfl (hb hby d1_35) ?_
    show Steps p.tables e below (T0.setTop (mkF m 36 #[.val (.int i0)] [(.int (0 : Int32))])) _
    exact retN X0 hx (t := .boolean) hret (by simp) (hb hby d1_36) hr
  · have pre2 : ∀ target, Steps p.tables e below (T0.setTop (mkF m 28 #[.val (.int i0)] [(.int (102 : Int32)), (.int i0)])) target → Steps p.tables e below (T0.setTop (mkF m 19 #[.val (.int i0)] [])) target := by
      intro target kt
      refine pre1 target ?_
      show Steps p.tables e below (T0.setTop (mkF m 22 #[.val (.int i0)] [(.int (97 : Int32)), (.int i0)])) _
      refine XS.icmpNo X0.here hx rfl (hb hby d1_22) rfl (flt hc22).1 ?_
      show Steps p.tables e below (T0.setTop (mkF m 25 #[.val (.int i0)] [])) _
      refine XS.iloadN X0.here hx rfl (hb hby d1_25) rfl ?_
      show Steps p.tables e below (T0.setTop (mkF m 26 #[.val (.int i0)] [(.int i0)])) _
      refine XS.bipush X0.here hx rfl (hb hby d1_26) ?_
      exact kt
    by_cases hc28 : (102 : Int32) < i0
    · refine ⟨T0, X0, e0, fun fs hr => ?_⟩
      have hv : (own_f1_19 i0) = (0 : Int32) := by unfold own_f1_19; rw [if_neg hc22, if_pos hc28]
      rw [hv] at hr
      refine pre2 _ ?_
      show Steps p.tables e below (T0.setTop (mkF m 28 #[.val (.int i0)] [(.int (102 : Int32)), (.int i0)])) _
      refine XS.icmpYes X0.here hx rfl (pc0 := 28) (pc' := 35) rfl (hb hby d1_28) rfl (tlt hc28).2.2.1 (by decide) (by decide) ?_
      show Steps p.tables e below (T0.setTop (mkF m 35 #[.val (.int i0)] [])) _
      refine XS.iconst X0.here hx rfl (hb hby d1_35) ?_
      show Steps p.tables e below (T0.setTop (mkF m 36 #[.val (.int i0)] [(.int (0 : Int32))])) _
      exact retN X0 hx (t := .boolean) hret (by simp) (hb hby d1_36) hr
    · refine ⟨T0, X0, e0, fun fs hr => ?_⟩
      have hv : (own_f1_19 i0) = (1 : Int32) := by unfold own_f1_19; rw [if_neg hc22, if_neg hc28]
      rw [hv] at hr
      refine pre2 _ ?_
      show Steps p.tables e below (T0.setTop (mkF m 28 #[.val (.int i0)] [(.int (102 : Int32)), (.int i0)])) _
      refine XS.icmpNo X0.here hx rfl (hb hby d1_28) rfl (flt hc28).2.2.1 ?_
      show Steps p.tables e below (T0.setTop (mkF m 31 #[.val (.int i0)] [])) _
      refine XS.iconst X0.here hx rfl (hb hby d1_31) ?_
      show Steps p.tables e below (T0.setTop (mkF m 32 #[.val (.int i0)] [(.int (1 : Int32))])) _
      refine XS.goto X0.here hx rfl (pc0 := 32) (pc' := 36) rfl (hb hby d1_32) (by decide) (by decide) ?_
      show Steps p.tables e below (T0.setTop (mkF m 36 #[.val (.int i0)] [(.int (1 : Int32))])) _
      exact retN X0 hx (t := .boolean) hret (by simp) (hb hby d1_36) hr
set_option maxRecDepth 65536 in
set_option maxHeartbeats 40000000 in
theorem own_b1_0 {p : Program} {l : Launch} {e : Env} {s : State} {m : MethodId} {args : Array Value} {below : List Frame} {meth : Method} {c : Code} {Z : State} {a0_ : Array Value} (hx : p.tables.exec = Jvm.exec) (hZ : Z.Warmed39 s.vm) (hw : ∀ d ∈ tables_1, d.before a0_ Z = true) (hby : c.code = prog_12_method_3_code) (hml : c.maxLocals = 1) (hown : s.vm.findClass "com/example/ack_on_arrival/ackonarrival/server/Grammar" = some m.cls) (hret : meth.sig.returnType = some .boolean) {T0 : State} {locs : List Loc} {cells slots : Nat} {h0 : Heap} (i0 : Int32)
    (X0 : Stand p l e ({ frames := 1, cells := 0, slots := 0, locals := 12 } : Room) s m args below meth c T0 locs cells slots) (e0 : T0.heap = h0) (hcl : cells ≤ ({ frames := 1, cells := 0, slots := 0, locals := 12 } : Room).cells) (hsl : slots ≤ ({ frames := 1, cells := 0, slots := 0, locals := 12 } : Room).slots)  :
    ∃ T', Stand p l e ({ frames := 1, cells := 0, slots := 0, locals := 12 } : Room) s m args below meth c T' locs cells slots ∧ T'.heap = h0 ∧ ∀ fs, (∀ (f : JFrame) (acts : List Action), f.method = m → f.locked = none → f.entered = [] → (doReturn e (T'.setTop f) acts (some (.int (own_f1_0 i0)))).1 = T'.setFrames fs) → Steps p.tables e below (T0.setTop (mkF m 0 #[.val (.int i0)] [])) (T'.setFrames fs) := by
  obtain ⟨_, _, ⟨T1, L1, k1, n1⟩, -, X1, ⟨Lc1, hQ1, l1, y1, z1⟩, st1⟩ := Jvm.LawKit.callS X0 hx (y := (⟨"com/example/ack_on_arrival/ackonarrival/server/Grammar", "isDigit", "(I)Z"⟩ : MethodName)) hown (mvT hZ (hw _ (List.mem_of_getElem? (i := 4) rfl))) (mvT hZ (hw _ (List.mem_of_getElem? (i := 5) rfl))) (mvT hZ (hw _ (List.mem_of_getElem? (i := 2) rfl))) (mvT hZ (hw _ (List.mem_of_getElem? (i := 6) rfl))) (by decide) (backOf (W := 0) (rm2 l Z a0_ hw [] i0  h0 0 (Nat.zero_le _) ) hZ (hw _ (List.mem_of_getElem? (i := 6) rfl)) (hw _ (List.mem_of_getElem? (i := 2) rfl)) (by decide) (by decide)) (g := (mkF m 1 #[.val (.int i0)] [(.int i0)])) rfl (by rw [hml]; rfl) (argsL := [(.int i0)]) (rest := []) (lenOf pd_1_0 rfl) rfl (by show 2 * 0 + _ ≤ _; exact Nat.le_of_eq rfl) (hb hby d1_1) (fun _ _ => ⟨rfl, e0, hcl, hsl⟩)
  dsimp only [Pt.U, Pt.locs, Pt.cells, Pt.slots] at X1 l1 y1 z1 st1 hQ1
  subst l1 y1 z1
  obtain ⟨rfl, rfl, e1⟩ := hQ1
  rw [List.append_nil] at X1
  have pre2 : ∀ target, Steps p.tables e below (T1.setTop (mkF m 4 #[.val (.int i0)] [(.int (own_f2_0 i0))])) target → Steps p.tables e below (T0.setTop (mkF m 0 #[.val (.int i0)] [])) target := by
    intro target kt
    show Steps p.tables e below (T0.setTop (mkF m 0 #[.val (.int i0)] [])) _
    refine XS.iloadN X0.here hx rfl (hb hby d1_0) rfl ?_
    show Steps p.tables e below (T0.setTop (mkF m 1 #[.val (.int i0)] [(.int i0)])) _
    refine st1 _ ?_
    exact kt
  by_cases hc4 : (own_f2_0 i0) = (0 : Int32)
  · have pre3 : ∀ target, Steps p.tables e below (T1.setTop (mkF m 10 #[.val (.int i0)] [(.int (65 : Int32)), (.int i0)])) target → Steps p.tables e below (T0.setTop (mkF m 0 #[.val (.int i0)] [])) target := by
      intro target kt
      refine pre2 target ?_
      show Steps p.tables e below (T1.setTop (mkF m 4 #[.val (.int i0)] [(.int (own_f2_0 i0))])) _
      refine XS.ifNo X1.here hx rfl (hb hby d1_4) rfl ((if0 _ _).trans (teq hc4).2) ?_
      show Steps p.tables e below (T1.setTop (mkF m 7 #[.val (.int i0)] [])) _
      refine XS.iloadN X1.here hx rfl (hb hby d1_7) rfl ?_
      show Steps p.tables e below (T1.setTop (mkF m 8 #[.val (.int i0)] [(.int i0)])) _
      refine XS.bipush X1.here hx rfl (hb hby d1_8) ?_
      exact kt
    by_cases hc10 : i0 < (65 : Int32)
    · have pre4 : ∀ target, Steps p.tables e below (T1.setTop (mkF m 19 #[.val (.int i0)] [])) target → Steps p.tables e below (T0.setTop (mkF m 0 #[.val (.int i0)] [])) target := by
        intro target kt
        refine pre3 target ?_
        show Steps p.tables e below (T1.setTop (mkF m 10 #[.val (.int i0)] [(.int (65 : Int32)), (.int i0)])) _
        refine XS.icmpYes X1.here hx rfl (pc0 := 10) (pc' := 19) rfl (hb hby d1_10) rfl (tlt hc10).1 (by decide) (by decide) ?_
        exact kt
      obtain ⟨T5, X5, e5, st5⟩ := own_b1_19 hx hZ hw hby hml hown hret i0  X1 e1 hcl hsl  
      have hv : (own_f1_0 i0) = (own_f1_19 i0) := by unfold own_f1_0; rw [if_pos hc4, if_pos hc10]
      exact ⟨T5, X5, e5, fun fs hr => pre4 _ (st5 fs (by rw [hv] at hr; exact hr))⟩
    · have pre6 : ∀ target, Steps p.tables e below (T1.setTop (mkF m 16 #[.val (.int i0)] [(.int (70 : Int32)), (.int i0)])) target → Steps p.tables e below (T0.setTop (mkF m 0 #[.val (.int i0)] [])) target := by
        intro target kt
        refine pre3 target ?_
        show Steps p.tables e below (T1.setTop (mkF m 10 #[.val (.int i0)] [(.int (65 : Int32)), (.int i0)])) _
        refine XS.icmpNo X1.here hx rfl (hb hby d1_10) rfl (flt hc10).1 ?_
        show Steps p.tables e below (T1.setTop (mkF m 13 #[.val (.int i0)] [])) _
        refine XS.iloadN X1.here hx rfl (hb hby d1_13) rfl ?_
        show Steps p.tables e below (T1.setTop (mkF m 14 #[.val (.int i0)] [(.int i0)])) _
        refine XS.bipush X1.here hx rfl (hb hby d1_14) ?_
        exact kt
      by_cases hc16 : (70 : Int32) < i0
      · have pre7 : ∀ target, Steps p.tables e below (T1.setTop (mkF m 19 #[.val (.int i0)] [])) target → Steps p.tables e below (T0.setTop (mkF m 0 #[.val (.int i0)] [])) target := by
          intro target kt
          refine pre6 target ?_
          show Steps p.tables e below (T1.setTop (mkF m 16 #[.val (.int i0)] [(.int (70 : Int32)), (.int i0)])) _
          refine XS.icmpNo X1.here hx rfl (hb hby d1_16) rfl (tlt hc16).2.2.2 ?_
          exact kt
        obtain ⟨T8, X8, e8, st8⟩ := own_b1_19 hx hZ hw hby hml hown hret i0  X1 e1 hcl hsl  
        have hv : (own_f1_0 i0) = (own_f1_19 i0) := by unfold own_f1_0; rw [if_pos hc4, if_neg hc10, if_pos hc16]
        exact ⟨T8, X8, e8, fun fs hr => pre7 _ (st8 fs (by rw [hv] at hr; exact hr))⟩
      · refine ⟨T1, X1, e1, fun fs hr => ?_⟩
        have hv : (own_f1_0 i0) = (1 : Int32) := by unfold own_f1_0; rw [if_pos hc4, if_neg hc10, if_neg hc16]
        rw [hv] at hr
        refine pre6 _ ?_
        show Steps p.tables e below (T1.setTop (mkF m 16 #[.val (.int i0)] [(.int (70 : Int32)), (.int i0)])) _
        refine XS.icmpYes X1.here hx rfl (pc0 := 16) (pc' := 31) rfl (hb hby d1_16) rfl (flt hc16).2.2.2 (by decide) (by decide) ?_
        show Steps p.tables e below (T1.setTop (mkF m 31 #[.val (.int i0)] [])) _
        refine XS.iconst X1.here hx rfl (hb hby d1_31) ?_
        show Steps p.tables e below (T1.setTop (mkF m 32 #[.val (.int i0)] [(.int (1 : Int32))])) _
        refine XS.goto X1.here hx rfl (pc0 := 32) (pc' := 36) rfl (hb hby d1_32) (by decide) (by decide) ?_
        show Steps p.tables e below (T1.setTop (mkF m 36 #[.val (.int i0)] [(.int (1 : Int32))])) _
        exact retN X1 hx (t := .boolean) hret (by simp) (hb hby d1_36) hr
  · refine ⟨T1, X1, e1, fun fs hr => ?_⟩
    have hv : (own_f1_0 i0) = (1 : Int32) := by unfold own_f1_0; rw [if_neg hc4]
    rw [hv] at hr
    refine pre2 _ ?_
    show Steps p.tables e below (T1.setTop (mkF m 4 #[.val (.int i0)] [(.int (own_f2_0 i0))])) _
    refine XS.ifYes X1.here hx rfl (pc0 := 4) (pc' := 31) rfl (hb hby d1_4) rfl ((if0 _ _).trans (feq hc4).2) (by decide) (by decide) ?_
    show Steps p.tables e below (T1.setTop (mkF m 31 #[.val (.int i0)] [])) _
    refine XS.iconst X1.here hx rfl (hb hby d1_31) ?_
    show Steps p.tables e below (T1.setTop (mkF m 32 #[.val (.int i0)] [(.int (1 : Int32))])) _
    refine XS.goto X1.here hx rfl (pc0 := 32) (pc' := 36) rfl (hb hby d1_32) (by decide) (by decide) ?_
    show Steps p.tables e below (T1.setTop (mkF m 36 #[.val (.int i0)] [(.int (1 : Int32))])) _
    exact retN X1 hx (t := .boolean) hret (by simp) (hb hby d1_36) hr
def Q1 (Z : State) (i0 : Int32) (h0 : Heap) (n0 : Nat) (v : Option Value) (h : Heap) (L : List Loc) : Prop := v = some (.int (own_f1_0 i0)) ∧ L = [] ∧ h = h0
set_option maxRecDepth 65536 in
set_option maxHeartbeats 40000000 in
theorem rm1 (l : Launch) (Z : State) (a0_ : Array Value) (hw : ∀ d ∈ tables_1, d.before a0_ Z = true) (ws : List Jvm.Cond) (i0 : Int32) (h0 : Heap) (n0 : Nat) (Z0 : n0 ≤ h0.size)  :
    MetFree l (⟨"com/example/ack_on_arrival/ackonarrival/server/Grammar", "isHexDigit", "(I)Z"⟩ : MethodName) (head1 (Jvm.Cond.code (⟨"com/example/ack_on_arrival/ackonarrival/server/Grammar", "isHexDigit", "(I)Z"⟩ : MethodName) prog_12_method_3_code 1 (some .boolean) :: ws) ({ frames := 1, cells := 0, slots := 0, locals := 12 } : Room)) (fun a U => a = #[(.int i0)] ∧ Z.Warmed39 U.vm ∧ U.heap = h0) (fun _ _ _ _ _ => True) (fun _ U o U' => ∃ v L, o = .returned v ∧ Q1 Z i0 h0 n0 v U'.heap L ∧ FrameEnd U o U' L ({ frames := 1, cells := 0, slots := 0, locals := 12 } : Room).cells ({ frames := 1, cells := 0, slots := 0, locals := 12 } : Room).slots) := by
  refine MetFree.of_bodySF (plainFor_of_name pn_1) hisR ?_
  intro p e s m args below meth c s₁ Bd hml0 hP hK
  obtain ⟨rfl, hZ, hh⟩ := hP
  have hx := Bd.exec
  have hby := Bd.bytes
  have hml : c.maxLocals = 1 := hml0
  have hown : s.vm.findClass "com/example/ack_on_arrival/ackonarrival/server/Grammar" = some m.cls := findClass_of_methodNamed Bd.named
  have X0 : Stand p l e ({ frames := 1, cells := 0, slots := 0, locals := 12 } : Room) s m #[(.int i0)] below meth c s₁ [] 0 0 := Stand.of_body Bd
  have e0 : s₁.heap = h0 := by rw [← hh, Bd.state]; rfl
  obtain ⟨T', X', e', st'⟩ := own_b1_0 hx hZ hw hby hml hown Bd.returns  i0 X0 e0 (by decide) (by decide) 
  obtain ⟨fs, hr, hrun, hended, hW, hsame⟩ := X'.leave (v := some (.int (own_f1_0 i0))) (fun h => by rw [Bd.returns] at h; cases h)
  refine ⟨_, _, castTop (ef_1 m i0) (st' fs hr), hrun, hended, _, _, rfl, ?_, ⟨_, rfl⟩, hW, hsame.mono (by decide) (by decide)⟩
  exact ⟨rfl, rfl, e'⟩
theorem d3_0 : decode method_2_code 0 = .ok (.iload_n 0, 1) := by decide +kernel
theorem d3_1 : decode method_2_code 1 = .ok (.ifCond .lt 27, 3) := by decide +kernel
theorem d3_4 : decode method_2_code 4 = .ok (.iload_n 0, 1) := by decide +kernel
theorem d3_5 : decode method_2_code 5 = .ok (.bipush 64, 2) := by decide +kernel
theorem d3_7 : decode method_2_code 7 = .ok (.if_icmp .ge 21, 3) := by decide +kernel
theorem d3_10 : decode method_2_code 10 = .ok (.ldc2_w 9, 3) := by decide +kernel
theorem d3_13 : decode method_2_code 13 = .ok (.iload_n 0, 1) := by decide +kernel
theorem d3_14 : decode method_2_code 14 = .ok (.lushr, 1) := by decide +kernel
theorem d3_15 : decode method_2_code 15 = .ok (.lconst 1, 1) := by decide +kernel
theorem d3_16 : decode method_2_code 16 = .ok (.land, 1) := by decide +kernel
theorem d3_17 : decode method_2_code 17 = .ok (.lconst 0, 1) := by decide +kernel
theorem d3_18 : decode method_2_code 18 = .ok (.lcmp, 1) := by decide +kernel
theorem d3_19 : decode method_2_code 19 = .ok (.ifCond .eq 7, 3) := by decide +kernel
theorem d3_22 : decode method_2_code 22 = .ok (.iconst 1, 1) := by decide +kernel
theorem d3_23 : decode method_2_code 23 = .ok (.goto 4, 3) := by decide +kernel
theorem d3_26 : decode method_2_code 26 = .ok (.iconst 0, 1) := by decide +kernel
theorem d3_27 : decode method_2_code 27 = .ok (.ireturn, 1) := by decide +kernel
theorem d3_28 : decode method_2_code 28 = .ok (.iload_n 0, 1) := by decide +kernel
theorem d3_29 : decode method_2_code 29 = .ok (.bipush 64, 2) := by decide +kernel
theorem d3_31 : decode method_2_code 31 = .ok (.if_icmp .lt 31, 3) := by decide +kernel
theorem d3_34 : decode method_2_code 34 = .ok (.iload_n 0, 1) := by decide +kernel
theorem d3_35 : decode method_2_code 35 = .ok (.sipush 128, 3) := by decide +kernel
theorem d3_38 : decode method_2_code 38 = .ok (.if_icmp .ge 24, 3) := by decide +kernel
theorem d3_41 : decode method_2_code 41 = .ok (.ldc2_w 11, 3) := by decide +kernel
theorem d3_44 : decode method_2_code 44 = .ok (.iload_n 0, 1) := by decide +kernel
theorem d3_45 : decode method_2_code 45 = .ok (.bipush 64, 2) := by decide +kernel
theorem d3_47 : decode method_2_code 47 = .ok (.isub, 1) := by decide +kernel
theorem d3_48 : decode method_2_code 48 = .ok (.lushr, 1) := by decide +kernel
theorem d3_49 : decode method_2_code 49 = .ok (.lconst 1, 1) := by decide +kernel
theorem d3_50 : decode method_2_code 50 = .ok (.land, 1) := by decide +kernel
theorem d3_51 : decode method_2_code 51 = .ok (.lconst 0, 1) := by decide +kernel
theorem d3_52 : decode method_2_code 52 = .ok (.lcmp, 1) := by decide +kernel
theorem d3_53 : decode method_2_code 53 = .ok (.ifCond .eq 7, 3) := by decide +kernel
theorem d3_56 : decode method_2_code 56 = .ok (.iconst 1, 1) := by decide +kernel
theorem d3_57 : decode method_2_code 57 = .ok (.goto 4, 3) := by decide +kernel
theorem d3_60 : decode method_2_code 60 = .ok (.iconst 0, 1) := by decide +kernel
theorem d3_61 : decode method_2_code 61 = .ok (.ireturn, 1) := by decide +kernel
theorem d3_62 : decode method_2_code 62 = .ok (.iconst 0, 1) := by decide +kernel
theorem d3_63 : decode method_2_code 63 = .ok (.ireturn, 1) := by decide +kernel
theorem pn_3 : plainName "com/example/ack_on_arrival/ackonarrival/server/GrammarIsHexDigitPinLaw" = true := by first | (simp [plainName, overriddenIn]; done) | decide +kernel
theorem ef_3 (m : MethodId) (i0 : Int32) : entryFrame m #[(.int i0)] 1 = mkF m 0 #[.val (.int i0)] [] := by first | (simp [entryFrame, mkF, argsToLocals, Value.category]; done) | rfl
def own_f3_28 (i0 : Int32) : Int32 :=
  (if i0 < (64 : Int32) then (0 : Int32) else (if i0 < (128 : Int32) then (if ((((541165879422 : Int64).toUInt64 >>> ((i0 - (64 : Int32)) &&& 0x3f).toInt64.toUInt64).toInt64) &&& (1 : Int64)) = (0 : Int64) then (0 : Int32) else (1 : Int32)) else (0 : Int32)))
def own_f3_0 (i0 : Int32) : Int32 :=
  (if i0 < (0 : Int32) then (own_f3_28 i0) else (if i0 < (64 : Int32) then (if ((((287948901175001088 : Int64).toUInt64 >>> (i0 &&& 0x3f).toInt64.toUInt64).toInt64) &&& (1 : Int64)) = (0 : Int64) then (0 : Int32) else (1 : Int32)) else (own_f3_28 i0)))
set_option maxRecDepth 65536 in
set_option maxHeartbeats 40000000 in
theorem own_b3_28 {p : Program} {l : Launch} {e : Env} {s : State} {m : MethodId} {args : Array Value} {below : List Frame} {meth : Method} {c : Code} {Z : State} {a0_ : Array Value} (hx : p.tables.exec = Jvm.exec) (hZ : Z.Warmed39 s.vm) (hw : ∀ d ∈ tables_1, d.before a0_ Z = true) (hby : c.code = method_2_code) (hml : c.maxLocals = 1) (hown : s.vm.findClass "com/example/ack_on_arrival/ackonarrival/server/GrammarIsHexDigitPinLaw" = some m.cls) (hret : meth.sig.returnType = some .boolean) {T0 : State} {locs : List Loc} {cells slots : Nat} {h0 : Heap} (i0 : Int32)
    (X0 : Stand p l e ({ frames := 0, cells := 0, slots := 0, locals := 0 } : Room) s m args below meth c T0 locs cells slots) (e0 : T0.heap = h0) (hcl : cells ≤ ({ frames := 0, cells := 0, slots := 0, locals := 0 } : Room).cells) (hsl : slots ≤ ({ frames := 0, cells := 0, slots := 0, locals := 0 } : Room).slots)  :
    ∃ T', Stand p l e ({ frames := 0, cells := 0, slots := 0, locals := 0 } : Room) s m args below meth c T' locs cells slots ∧ T'.heap = h0 ∧ ∀ fs, (∀ (f : JFrame) (acts : List Action), f.method = m → f.locked = none → f.entered = [] → (doReturn e (T'.setTop f) acts (some (.int (own_f3_28 i0)))).1 = T'.setFrames fs) → Steps p.tables e below (T0.setTop (mkF m 28 #[.val (.int i0)] [])) (T'.setFrames fs) := by
  have pre1 : ∀ target, Steps p.tables e below (T0.setTop (mkF m 31 #[.val (.int i0)] [(.int (64 : Int32)), (.int i0)])) target → Steps p.tables e below (T0.setTop (mkF m 28 #[.val (.int i0)] [])) target := by
    intro target kt
    show Steps p.tables e below (T0.setTop (mkF m 28 #[.val (.int i0)] [])) _
    refine XS.iloadN X0.here hx rfl (hb hby d3_28) rfl ?_
    show Steps p.tables e below (T0.setTop (mkF m 29 #[.val (.int i0)] [(.int i0)])) _
    refine XS.bipush X0.here hx rfl (hb hby d3_29) ?_
    exact kt
  by_cases hc31 : i0 < (64 : Int32)
  · refine ⟨T0, X0, e0, fun fs hr => ?_⟩
    have hv : (own_f3_28 i0) = (0 : Int32) := by unfold own_f3_28; rw [if_pos hc31]
    rw [hv] at hr
    refine pre1 _ ?_
    show Steps p.tables e below (T0.setTop (mkF m 31 #[.val (.int i0)] [(.int (64 : Int32)), (.int i0)])) _
    refine XS.icmpYes X0.here hx rfl (pc0 := 31) (pc' := 62) rfl (hb hby d3_31) rfl (tlt hc31).1 (by decide) (by decide) ?_
    show Steps p.tables e below (T0.setTop (mkF m 62 #[.val (.int i0)] [])) _
    refine XS.iconst X0.here hx rfl (hb hby d3_62) ?_
    show Steps p.tables e below (T0.setTop (mkF m 63 #[.val (.int i0)] [(.int (0 : Int32))])) _
    exact retN X0 hx (t := .boolean) hret (by simp) (hb hby d3_63) hr
  · have pre2 : ∀ target, Steps p.tables e below (T0.setTop (mkF m 38 #[.val (.int i0)] [(.int (128 : Int32)), (.int i0)])) target → Steps p.tables e below (T0.setTop (mkF m 28 #[.val (.int i0)] [])) target := by
      intro target kt
      refine pre1 target ?_
      show Steps p.tables e below (T0.setTop (mkF m 31 #[.val (.int i0)] [(.int (64 : Int32)), (.int i0)])) _
      refine XS.icmpNo X0.here hx rfl (hb hby d3_31) rfl (flt hc31).1 ?_
      show Steps p.tables e below (T0.setTop (mkF m 34 #[.val (.int i0)] [])) _
      refine XS.iloadN X0.here hx rfl (hb hby d3_34) rfl ?_
      show Steps p.tables e below (T0.setTop (mkF m 35 #[.val (.int i0)] [(.int i0)])) _
      refine XS.sipush X0.here hx rfl (hb hby d3_35) ?_
      exact kt
    by_cases hc38 : i0 < (128 : Int32)
    · have pre3 : ∀ target, Steps p.tables e below (T0.setTop (mkF m 53 #[.val (.int i0)] [(.int (lcmpW ((((541165879422 : Int64).toUInt64 >>> ((i0 - (64 : Int32)) &&& 0x3f).toInt64.toUInt64).toInt64) &&& (1 : Int64)) (0 : Int64)))])) target → Steps p.tables e below (T0.setTop (mkF m 28 #[.val (.int i0)] [])) target := by
        intro target kt
        refine pre2 target ?_
        show Steps p.tables e below (T0.setTop (mkF m 38 #[.val (.int i0)] [(.int (128 : Int32)), (.int i0)])) _
        refine XS.icmpNo X0.here hx rfl (hb hby d3_38) rfl (tlt hc38).2.1 ?_
        show Steps p.tables e below (T0.setTop (mkF m 41 #[.val (.int i0)] [])) _
        refine X0.ldc2Long hx hown (mvT hZ (hw _ (List.mem_of_getElem? (i := 12) rfl))) (g := (mkF m 41 #[.val (.int i0)] [])) rfl (hb hby d3_41) _ ?_
        show Steps p.tables e below (T0.setTop (mkF m 44 #[.val (.int i0)] [(.long (541165879422 : Int64))])) _
        refine XS.iloadN X0.here hx rfl (hb hby d3_44) rfl ?_
        show Steps p.tables e below (T0.setTop (mkF m 45 #[.val (.int i0)] [(.int i0), (.long (541165879422 : Int64))])) _
        refine XS.bipush X0.here hx rfl (hb hby d3_45) ?_
        show Steps p.tables e below (T0.setTop (mkF m 47 #[.val (.int i0)] [(.int (64 : Int32)), (.int i0), (.long (541165879422 : Int64))])) _
        refine XS.isub X0.here hx rfl (hb hby d3_47) rfl ?_
        show Steps p.tables e below (T0.setTop (mkF m 48 #[.val (.int i0)] [(.int (i0 - (64 : Int32))), (.long (541165879422 : Int64))])) _
        refine XS.lushr X0.here hx rfl (hb hby d3_48) rfl ?_
        show Steps p.tables e below (T0.setTop (mkF m 49 #[.val (.int i0)] [(.long (((541165879422 : Int64).toUInt64 >>> ((i0 - (64 : Int32)) &&& 0x3f).toInt64.toUInt64).toInt64))])) _
        refine XS.lconst X0.here hx rfl (hb hby d3_49) ?_
        show Steps p.tables e below (T0.setTop (mkF m 50 #[.val (.int i0)] [(.long (1 : Int64)), (.long (((541165879422 : Int64).toUInt64 >>> ((i0 - (64 : Int32)) &&& 0x3f).toInt64.toUInt64).toInt64))])) _
        refine XS.land X0.here hx rfl (hb hby d3_50) rfl ?_
        show Steps p.tables e below (T0.setTop (mkF m 51 #[.val (.int i0)] [(.long ((((541165879422 : Int64).toUInt64 >>> ((i0 - (64 : Int32)) &&& 0x3f).toInt64.toUInt64).toInt64) &&& (1 : Int64)))])) _
        refine XS.lconst X0.here hx rfl (hb hby d3_51) ?_
        show Steps p.tables e below (T0.setTop (mkF m 52 #[.val (.int i0)] [(.long (0 : Int64)), (.long ((((541165879422 : Int64).toUInt64 >>> ((i0 - (64 : Int32)) &&& 0x3f).toInt64.toUInt64).toInt64) &&& (1 : Int64)))])) _
        refine XS.lcmp X0.here hx rfl (hb hby d3_52) rfl ?_
        exact kt
      by_cases hc53 : ((((541165879422 : Int64).toUInt64 >>> ((i0 - (64 : Int32)) &&& 0x3f).toInt64.toUInt64).toInt64) &&& (1 : Int64)) = (0 : Int64)
      · refine ⟨T0, X0, e0, fun fs hr => ?_⟩
        have hv : (own_f3_28 i0) = (0 : Int32) := by unfold own_f3_28; rw [if_neg hc31, if_pos hc38, if_pos hc53]
        rw [hv] at hr
        refine pre3 _ ?_
        show Steps p.tables e below (T0.setTop (mkF m 53 #[.val (.int i0)] [(.int (lcmpW ((((541165879422 : Int64).toUInt64 >>> ((i0 - (64 : Int32)) &&& 0x3f).toInt64.toUInt64).toInt64) &&& (1 : Int64)) (0 : Int64)))])) _
        refine XS.ifYes X0.here hx rfl (pc0 := 53) (pc' := 60) rfl (hb hby d3_53) rfl ((if0 _ _).trans (teq ((lw_eq _ _).mpr hc53)).1) (by decide) (by decide) ?_
        show Steps p.tables e below (T0.setTop (mkF m 60 #[.val (.int i0)] [])) _
        refine XS.iconst X0.here hx rfl (hb hby d3_60) ?_
        show Steps p.tables e below (T0.setTop (mkF m 61 #[.val (.int i0)] [(.int (0 : Int32))])) _
        exact retN X0 hx (t := .boolean) hret (by simp) (hb hby d3_61) hr
      · refine ⟨T0, X0, e0, fun fs hr => ?_⟩
        have hv : (own_f3_28 i0) = (1 : Int32) := by unfold own_f3_28; rw [if_neg hc31, if_pos hc38, if_neg hc53]
        rw [hv] at hr
        refine pre3 _ ?_
        show Steps p.tables e below (T0.setTop (mkF m 53 #[.val (.int i0)] [(.int (lcmpW ((((541165879422 : Int64).toUInt64 >>> ((i0 - (64 : Int32)) &&& 0x3f).toInt64.toUInt64).toInt64) &&& (1 : Int64)) (0 : Int64)))])) _
        refine XS.ifNo X0.here hx rfl (hb hby d3_53) rfl ((if0 _ _).trans (feq (mt (lw_eq _ _).mp hc53)).1) ?_
        show Steps p.tables e below (T0.setTop (mkF m 56 #[.val (.int i0)] [])) _
        refine XS.iconst X0.here hx rfl (hb hby d3_56) ?_
        show Steps p.tables e below (T0.setTop (mkF m 57 #[.val (.int i0)] [(.int (1 : Int32))])) _
        refine XS.goto X0.here hx rfl (pc0 := 57) (pc' := 61) rfl (hb hby d3_57) (by decide) (by decide) ?_
        show Steps p.tables e below (T0.setTop (mkF m 61 #[.val (.int i0)] [(.int (1 : Int32))])) _
        exact retN X0 hx (t := .boolean) hret (by simp) (hb hby d3_61) hr
    · refine ⟨T0, X0, e0, fun fs hr => ?_⟩
      have hv : (own_f3_28 i0) = (0 : Int32) := by unfold own_f3_28; rw [if_neg hc31, if_neg hc38]
      rw [hv] at hr
      refine pre2 _ ?_
      show Steps p.tables e below (T0.setTop (mkF m 38 #[.val (.int i0)] [(.int (128 : Int32)), (.int i0)])) _
      refine XS.icmpYes X0.here hx rfl (pc0 := 38) (pc' := 62) rfl (hb hby d3_38) rfl (flt hc38).2.1 (by decide) (by decide) ?_
      show Steps p.tables e below (T0.setTop (mkF m 62 #[.val (.int i0)] [])) _
      refine XS.iconst X0.here hx rfl (hb hby d3_62) ?_
      show Steps p.tables e below (T0.setTop (mkF m 63 #[.val (.int i0)] [(.int (0 : Int32))])) _
      exact retN X0 hx (t := .boolean) hret (by simp) (hb hby d3_63) hr
set_option maxRecDepth 65536 in
set_option maxHeartbeats 40000000 in
theorem own_b3_0 {p : Program} {l : Launch} {e : Env} {s : State} {m : MethodId} {args : Array Value} {below : List Frame} {meth : Method} {c : Code} {Z : State} {a0_ : Array Value} (hx : p.tables.exec = Jvm.exec) (hZ : Z.Warmed39 s.vm) (hw : ∀ d ∈ tables_1, d.before a0_ Z = true) (hby : c.code = method_2_code) (hml : c.maxLocals = 1) (hown : s.vm.findClass "com/example/ack_on_arrival/ackonarrival/server/GrammarIsHexDigitPinLaw" = some m.cls) (hret : meth.sig.returnType = some .boolean) {T0 : State} {locs : List Loc} {cells slots : Nat} {h0 : Heap} (i0 : Int32)
    (X0 : Stand p l e ({ frames := 0, cells := 0, slots := 0, locals := 0 } : Room) s m args below meth c T0 locs cells slots) (e0 : T0.heap = h0) (hcl : cells ≤ ({ frames := 0, cells := 0, slots := 0, locals := 0 } : Room).cells) (hsl : slots ≤ ({ frames := 0, cells := 0, slots := 0, locals := 0 } : Room).slots)  :
    ∃ T', Stand p l e ({ frames := 0, cells := 0, slots := 0, locals := 0 } : Room) s m args below meth c T' locs cells slots ∧ T'.heap = h0 ∧ ∀ fs, (∀ (f : JFrame) (acts : List Action), f.method = m → f.locked = none → f.entered = [] → (doReturn e (T'.setTop f) acts (some (.int (own_f3_0 i0)))).1 = T'.setFrames fs) → Steps p.tables e below (T0.setTop (mkF m 0 #[.val (.int i0)] [])) (T'.setFrames fs) := by
  have pre1 : ∀ target, Steps p.tables e below (T0.setTop (mkF m 1 #[.val (.int i0)] [(.int i0)])) target → Steps p.tables e below (T0.setTop (mkF m 0 #[.val (.int i0)] [])) target := by
    intro target kt
    show Steps p.tables e below (T0.setTop (mkF m 0 #[.val (.int i0)] [])) _
    refine XS.iloadN X0.here hx rfl (hb hby d3_0) rfl ?_
    exact kt
  by_cases hc1 : i0 < (0 : Int32)
  · have pre2 : ∀ target, Steps p.tables e below (T0.setTop (mkF m 28 #[.val (.int i0)] [])) target → Steps p.tables e below (T0.setTop (mkF m 0 #[.val (.int i0)] [])) target := by
      intro target kt
      refine pre1 target ?_
      show Steps p.tables e below (T0.setTop (mkF m 1 #[.val (.int i0)] [(.int i0)])) _
      refine XS.ifYes X0.here hx rfl (pc0 := 1) (pc' := 28) rfl (hb hby d3_1) rfl ((if0 _ _).trans (tlt hc1).1) (by decide) (by decide) ?_
      exact kt
    obtain ⟨T3, X3, e3, st3⟩ := own_b3_28 hx hZ hw hby hml hown hret i0  X0 e0 hcl hsl  
    have hv : (own_f3_0 i0) = (own_f3_28 i0) := by unfold own_f3_0; rw [if_pos hc1]
    exact ⟨T3, X3, e3, fun fs hr => pre2 _ (st3 fs (by rw [hv] at hr; exact hr))⟩
  · have pre4 : ∀ target, Steps p.tables e below (T0.setTop (mkF m 7 #[.val (.int i0)] [(.int (64 : Int32)), (.int i0)])) target → Steps p.tables e below (T0.setTop (mkF m 0 #[.val (.int i0)] [])) target := by
      intro target kt
      refine pre1 target ?_
      show Steps p.tables e below (T0.setTop (mkF m 1 #[.val (.int i0)] [(.int i0)])) _
      refine XS.ifNo X0.here hx rfl (hb hby d3_1) rfl ((if0 _ _).trans (flt hc1).1) ?_
      show Steps p.tables e below (T0.setTop (mkF m 4 #[.val (.int i0)] [])) _
      refine XS.iloadN X0.here hx rfl (hb hby d3_4) rfl ?_
      show Steps p.tables e below (T0.setTop (mkF m 5 #[.val (.int i0)] [(.int i0)])) _
      refine XS.bipush X0.here hx rfl (hb hby d3_5) ?_
      exact kt
    by_cases hc7 : i0 < (64 : Int32)
    · have pre5 : ∀ target, Steps p.tables e below (T0.setTop (mkF m 19 #[.val (.int i0)] [(.int (lcmpW ((((287948901175001088 : Int64).toUInt64 >>> (i0 &&& 0x3f).toInt64.toUInt64).toInt64) &&& (1 : Int64)) (0 : Int64)))])) target → Steps p.tables e below (T0.setTop (mkF m 0 #[.val (.int i0)] [])) target := by
        intro target kt
        refine pre4 target ?_
        show Steps p.tables e below (T0.setTop (mkF m 7 #[.val (.int i0)] [(.int (64 : Int32)), (.int i0)])) _
        refine XS.icmpNo X0.here hx rfl (hb hby d3_7) rfl (tlt hc7).2.1 ?_
        show Steps p.tables e below (T0.setTop (mkF m 10 #[.val (.int i0)] [])) _
        refine X0.ldc2Long hx hown (mvT hZ (hw _ (List.mem_of_getElem? (i := 11) rfl))) (g := (mkF m 10 #[.val (.int i0)] [])) rfl (hb hby d3_10) _ ?_
        show Steps p.tables e below (T0.setTop (mkF m 13 #[.val (.int i0)] [(.long (287948901175001088 : Int64))])) _
        refine XS.iloadN X0.here hx rfl (hb hby d3_13) rfl ?_
        show Steps p.tables e below (T0.setTop (mkF m 14 #[.val (.int i0)] [(.int i0), (.long (287948901175001088 : Int64))])) _
        refine XS.lushr X0.here hx rfl (hb hby d3_14) rfl ?_
        show Steps p.tables e below (T0.setTop (mkF m 15 #[.val (.int i0)] [(.long (((287948901175001088 : Int64).toUInt64 >>> (i0 &&& 0x3f).toInt64.toUInt64).toInt64))])) _
        refine XS.lconst X0.here hx rfl (hb hby d3_15) ?_
        show Steps p.tables e below (T0.setTop (mkF m 16 #[.val (.int i0)] [(.long (1 : Int64)), (.long (((287948901175001088 : Int64).toUInt64 >>> (i0 &&& 0x3f).toInt64.toUInt64).toInt64))])) _
        refine XS.land X0.here hx rfl (hb hby d3_16) rfl ?_
        show Steps p.tables e below (T0.setTop (mkF m 17 #[.val (.int i0)] [(.long ((((287948901175001088 : Int64).toUInt64 >>> (i0 &&& 0x3f).toInt64.toUInt64).toInt64) &&& (1 : Int64)))])) _
        refine XS.lconst X0.here hx rfl (hb hby d3_17) ?_
        show Steps p.tables e below (T0.setTop (mkF m 18 #[.val (.int i0)] [(.long (0 : Int64)), (.long ((((287948901175001088 : Int64).toUInt64 >>> (i0 &&& 0x3f).toInt64.toUInt64).toInt64) &&& (1 : Int64)))])) _
        refine XS.lcmp X0.here hx rfl (hb hby d3_18) rfl ?_
        exact kt
      by_cases hc19 : ((((287948901175001088 : Int64).toUInt64 >>> (i0 &&& 0x3f).toInt64.toUInt64).toInt64) &&& (1 : Int64)) = (0 : Int64)
      · refine ⟨T0, X0, e0, fun fs hr => ?_⟩
        have hv : (own_f3_0 i0) = (0 : Int32) := by unfold own_f3_0; rw [if_neg hc1, if_pos hc7, if_pos hc19]
        rw [hv] at hr
        refine pre5 _ ?_
        show Steps p.tables e below (T0.setTop (mkF m 19 #[.val (.int i0)] [(.int (lcmpW ((((287948901175001088 : Int64).toUInt64 >>> (i0 &&& 0x3f).toInt64.toUInt64).toInt64) &&& (1 : Int64)) (0 : Int64)))])) _
        refine XS.ifYes X0.here hx rfl (pc0 := 19) (pc' := 26) rfl (hb hby d3_19) rfl ((if0 _ _).trans (teq ((lw_eq _ _).mpr hc19)).1) (by decide) (by decide) ?_
        show Steps p.tables e below (T0.setTop (mkF m 26 #[.val (.int i0)] [])) _
        refine XS.iconst X0.here hx rfl (hb hby d3_26) ?_
        show Steps p.tables e below (T0.setTop (mkF m 27 #[.val (.int i0)] [(.int (0 : Int32))])) _
        exact retN X0 hx (t := .boolean) hret (by simp) (hb hby d3_27) hr
      · refine ⟨T0, X0, e0, fun fs hr => ?_⟩
        have hv : (own_f3_0 i0) = (1 : Int32) := by unfold own_f3_0; rw [if_neg hc1, if_pos hc7, if_neg hc19]
        rw [hv] at hr
        refine pre5 _ ?_
        show Steps p.tables e below (T0.setTop (mkF m 19 #[.val (.int i0)] [(.int (lcmpW ((((287948901175001088 : Int64).toUInt64 >>> (i0 &&& 0x3f).toInt64.toUInt64).toInt64) &&& (1 : Int64)) (0 : Int64)))])) _
        refine XS.ifNo X0.here hx rfl (hb hby d3_19) rfl ((if0 _ _).trans (feq (mt (lw_eq _ _).mp hc19)).1) ?_
        show Steps p.tables e below (T0.setTop (mkF m 22 #[.val (.int i0)] [])) _
        refine XS.iconst X0.here hx rfl (hb hby d3_22) ?_
        show Steps p.tables e below (T0.setTop (mkF m 23 #[.val (.int i0)] [(.int (1 : Int32))])) _
        refine XS.goto X0.here hx rfl (pc0 := 23) (pc' := 27) rfl (hb hby d3_23) (by decide) (by decide) ?_
        show Steps p.tables e below (T0.setTop (mkF m 27 #[.val (.int i0)] [(.int (1 : Int32))])) _
        exact retN X0 hx (t := .boolean) hret (by simp) (hb hby d3_27) hr
    · have pre6 : ∀ target, Steps p.tables e below (T0.setTop (mkF m 28 #[.val (.int i0)] [])) target → Steps p.tables e below (T0.setTop (mkF m 0 #[.val (.int i0)] [])) target := by
        intro target kt
        refine pre4 target ?_
        show Steps p.tables e below (T0.setTop (mkF m 7 #[.val (.int i0)] [(.int (64 : Int32)), (.int i0)])) _
        refine XS.icmpYes X0.here hx rfl (pc0 := 7) (pc' := 28) rfl (hb hby d3_7) rfl (flt hc7).2.1 (by decide) (by decide) ?_
        exact kt
      obtain ⟨T7, X7, e7, st7⟩ := own_b3_28 hx hZ hw hby hml hown hret i0  X0 e0 hcl hsl  
      have hv : (own_f3_0 i0) = (own_f3_28 i0) := by unfold own_f3_0; rw [if_neg hc1, if_neg hc7]
      exact ⟨T7, X7, e7, fun fs hr => pre6 _ (st7 fs (by rw [hv] at hr; exact hr))⟩
def Q3 (Z : State) (i0 : Int32) (h0 : Heap) (n0 : Nat) (v : Option Value) (h : Heap) (L : List Loc) : Prop := v = some (.int (own_f3_0 i0)) ∧ L = [] ∧ h = h0
set_option maxRecDepth 65536 in
set_option maxHeartbeats 40000000 in
theorem rm3 (l : Launch) (Z : State) (a0_ : Array Value) (hw : ∀ d ∈ tables_1, d.before a0_ Z = true) (ws : List Jvm.Cond) (i0 : Int32) (h0 : Heap) (n0 : Nat) (Z0 : n0 ≤ h0.size)  :
    MetFree l (⟨"com/example/ack_on_arrival/ackonarrival/server/GrammarIsHexDigitPinLaw", "reference", "(I)Z"⟩ : MethodName) (head1 (Jvm.Cond.code (⟨"com/example/ack_on_arrival/ackonarrival/server/GrammarIsHexDigitPinLaw", "reference", "(I)Z"⟩ : MethodName) method_2_code 1 (some .boolean) :: ws) ({ frames := 0, cells := 0, slots := 0, locals := 0 } : Room)) (fun a U => a = #[(.int i0)] ∧ Z.Warmed39 U.vm ∧ U.heap = h0) (fun _ _ _ _ _ => True) (fun _ U o U' => ∃ v L, o = .returned v ∧ Q3 Z i0 h0 n0 v U'.heap L ∧ FrameEnd U o U' L ({ frames := 0, cells := 0, slots := 0, locals := 0 } : Room).cells ({ frames := 0, cells := 0, slots := 0, locals := 0 } : Room).slots) := by
  refine MetFree.of_bodySF (plainFor_of_name pn_3) hisR ?_
  intro p e s m args below meth c s₁ Bd hml0 hP hK
  obtain ⟨rfl, hZ, hh⟩ := hP
  have hx := Bd.exec
  have hby := Bd.bytes
  have hml : c.maxLocals = 1 := hml0
  have hown : s.vm.findClass "com/example/ack_on_arrival/ackonarrival/server/GrammarIsHexDigitPinLaw" = some m.cls := findClass_of_methodNamed Bd.named
  have X0 : Stand p l e ({ frames := 0, cells := 0, slots := 0, locals := 0 } : Room) s m #[(.int i0)] below meth c s₁ [] 0 0 := Stand.of_body Bd
  have e0 : s₁.heap = h0 := by rw [← hh, Bd.state]; rfl
  obtain ⟨T', X', e', st'⟩ := own_b3_0 hx hZ hw hby hml hown Bd.returns  i0 X0 e0 (by decide) (by decide) 
  obtain ⟨fs, hr, hrun, hended, hW, hsame⟩ := X'.leave (v := some (.int (own_f3_0 i0))) (fun h => by rw [Bd.returns] at h; cases h)
  refine ⟨_, _, castTop (ef_3 m i0) (st' fs hr), hrun, hended, _, _, rfl, ?_, ⟨_, rfl⟩, hW, hsame.mono (by decide) (by decide)⟩
  exact ⟨rfl, rfl, e'⟩
theorem pn_0 : plainName "com/example/ack_on_arrival/ackonarrival/server/GrammarIsHexDigitPinLaw" = true := by first | (simp [plainName, overriddenIn]; done) | decide +kernel
theorem pd_0_0 : parseMethodDescriptor "(I)Z" = some ⟨[.int], some .boolean⟩ := by decide +kernel
theorem ef_0 (m : MethodId) (i0 : Int32) : entryFrame m #[(.int i0)] maxLocals = mkF m 0 #[.val (.int i0)] [] := by first | (simp [entryFrame, mkF, argsToLocals, Value.category, maxLocals]; done) | rfl
def own_f0_0 (i0 : Int32) : Int32 :=
  (if (own_f1_0 i0) = (own_f3_0 i0) then (1 : Int32) else (0 : Int32))
set_option maxRecDepth 65536 in
set_option maxHeartbeats 40000000 in
theorem own_b0_0 {p : Program} {l : Launch} {e : Env} {s : State} {m : MethodId} {args : Array Value} {below : List Frame} {meth : Method} {c : Code} {Z : State} {a0_ : Array Value} (hx : p.tables.exec = Jvm.exec) (hZ : Z.Warmed39 s.vm) (hw : ∀ d ∈ tables_1, d.before a0_ Z = true) (hby : c.code = code) (hml : c.maxLocals = 1) (hown : s.vm.findClass "com/example/ack_on_arrival/ackonarrival/server/GrammarIsHexDigitPinLaw" = some m.cls) (hret : meth.sig.returnType = some .boolean) {T0 : State} {locs : List Loc} {cells slots : Nat} {h0 : Heap} (i0 : Int32)
    (X0 : Stand p l e room_1 s m args below meth c T0 locs cells slots) (e0 : T0.heap = h0) (hcl : cells ≤ room_1.cells) (hsl : slots ≤ room_1.slots)  :
    ∃ T', Stand p l e room_1 s m args below meth c T' locs cells slots ∧ T'.heap = h0 ∧ ∀ fs, (∀ (f : JFrame) (acts : List Action), f.method = m → f.locked = none → f.entered = [] → (doReturn e (T'.setTop f) acts (some (.int (own_f0_0 i0)))).1 = T'.setFrames fs) → Steps p.tables e below (T0.setTop (mkF m 0 #[.val (.int i0)] [])) (T'.setFrames fs) := by
  obtain ⟨_, _, ⟨T1, L1, k1, n1⟩, -, X1, ⟨Lc1, hQ1, l1, y1, z1⟩, st1⟩ := Jvm.LawKit.callS X0 hx (y := (⟨"com/example/ack_on_arrival/ackonarrival/server/Grammar", "isHexDigit", "(I)Z"⟩ : MethodName)) hown (mvT hZ (hw _ (List.mem_of_getElem? (i := 0) rfl))) (mvT hZ (hw _ (List.mem_of_getElem? (i := 1) rfl))) (mvT hZ (hw _ (List.mem_of_getElem? (i := 2) rfl))) (mvT hZ (hw _ (List.mem_of_getElem? (i := 3) rfl))) (by decide) (backOf (W := 0) (rm1 l Z a0_ hw [] i0  h0 0 (Nat.zero_le _) ) hZ (hw _ (List.mem_of_getElem? (i := 3) rfl)) (hw _ (List.mem_of_getElem? (i := 2) rfl)) (by decide) (by decide)) (g := (mkF m 1 #[.val (.int i0)] [(.int i0)])) rfl (by rw [hml]; rfl) (argsL := [(.int i0)]) (rest := []) (lenOf pd_0_0 rfl) rfl (by show 2 * 0 + _ ≤ _; exact Nat.le_of_eq rfl) (hb hby at_1) (fun _ _ => ⟨rfl, e0, hcl, hsl⟩)
  dsimp only [Pt.U, Pt.locs, Pt.cells, Pt.slots] at X1 l1 y1 z1 st1 hQ1
  subst l1 y1 z1
  obtain ⟨rfl, rfl, e1⟩ := hQ1
  rw [List.append_nil] at X1
  obtain ⟨_, _, ⟨T2, L2, k2, n2⟩, -, X2, ⟨Lc2, hQ2, l2, y2, z2⟩, st2⟩ := Jvm.LawKit.callS X1 hx (y := (⟨"com/example/ack_on_arrival/ackonarrival/server/GrammarIsHexDigitPinLaw", "reference", "(I)Z"⟩ : MethodName)) hown (mvT hZ (hw _ (List.mem_of_getElem? (i := 7) rfl))) (mvT hZ (hw _ (List.mem_of_getElem? (i := 8) rfl))) (mvT hZ (hw _ (List.mem_of_getElem? (i := 9) rfl))) (mvT hZ (hw _ (List.mem_of_getElem? (i := 10) rfl))) (by decide) (backOf (W := 1) (rm3 l Z a0_ hw [] i0  h0 0 (Nat.zero_le _) ) hZ (hw _ (List.mem_of_getElem? (i := 10) rfl)) (hw _ (List.mem_of_getElem? (i := 9) rfl)) (by decide) (by decide)) (g := (mkF m 5 #[.val (.int i0)] [(.int i0), (.int (own_f1_0 i0))])) rfl (by rw [hml]; rfl) (argsL := [(.int i0)]) (rest := [(.int (own_f1_0 i0))]) (lenOf pd_0_0 rfl) rfl (by show 2 * 0 + _ ≤ _; exact Nat.le_of_eq rfl) (hb hby at_5) (fun _ _ => ⟨rfl, e1, hcl, hsl⟩)
  dsimp only [Pt.U, Pt.locs, Pt.cells, Pt.slots] at X2 l2 y2 z2 st2 hQ2
  subst l2 y2 z2
  obtain ⟨rfl, rfl, e2⟩ := hQ2
  rw [List.append_nil] at X2
  have pre3 : ∀ target, Steps p.tables e below (T2.setTop (mkF m 8 #[.val (.int i0)] [(.int (own_f3_0 i0)), (.int (own_f1_0 i0))])) target → Steps p.tables e below (T0.setTop (mkF m 0 #[.val (.int i0)] [])) target := by
    intro target kt
    show Steps p.tables e below (T0.setTop (mkF m 0 #[.val (.int i0)] [])) _
    refine XS.iloadN X0.here hx rfl (hb hby at_0) rfl ?_
    show Steps p.tables e below (T0.setTop (mkF m 1 #[.val (.int i0)] [(.int i0)])) _
    refine st1 _ ?_
    show Steps p.tables e below (T1.setTop (mkF m 4 #[.val (.int i0)] [(.int (own_f1_0 i0))])) _
    refine XS.iloadN X1.here hx rfl (hb hby at_4) rfl ?_
    show Steps p.tables e below (T1.setTop (mkF m 5 #[.val (.int i0)] [(.int i0), (.int (own_f1_0 i0))])) _
    refine st2 _ ?_
    exact kt
  by_cases hc8 : (own_f1_0 i0) = (own_f3_0 i0)
  · refine ⟨T2, X2, e2, fun fs hr => ?_⟩
    have hv : (own_f0_0 i0) = (1 : Int32) := by unfold own_f0_0; rw [if_pos hc8]
    rw [hv] at hr
    refine pre3 _ ?_
    show Steps p.tables e below (T2.setTop (mkF m 8 #[.val (.int i0)] [(.int (own_f3_0 i0)), (.int (own_f1_0 i0))])) _
    refine XS.icmpNo X2.here hx rfl (hb hby at_8) rfl (teq hc8).2 ?_
    show Steps p.tables e below (T2.setTop (mkF m 11 #[.val (.int i0)] [])) _
    refine XS.iconst X2.here hx rfl (hb hby at_11) ?_
    show Steps p.tables e below (T2.setTop (mkF m 12 #[.val (.int i0)] [(.int (1 : Int32))])) _
    refine XS.goto X2.here hx rfl (pc0 := 12) (pc' := 16) rfl (hb hby at_12) (by decide) (by decide) ?_
    show Steps p.tables e below (T2.setTop (mkF m 16 #[.val (.int i0)] [(.int (1 : Int32))])) _
    exact retN X2 hx (t := .boolean) hret (by simp) (hb hby at_16) hr
  · refine ⟨T2, X2, e2, fun fs hr => ?_⟩
    have hv : (own_f0_0 i0) = (0 : Int32) := by unfold own_f0_0; rw [if_neg hc8]
    rw [hv] at hr
    refine pre3 _ ?_
    show Steps p.tables e below (T2.setTop (mkF m 8 #[.val (.int i0)] [(.int (own_f3_0 i0)), (.int (own_f1_0 i0))])) _
    refine XS.icmpYes X2.here hx rfl (pc0 := 8) (pc' := 15) rfl (hb hby at_8) rfl (feq hc8).2 (by decide) (by decide) ?_
    show Steps p.tables e below (T2.setTop (mkF m 15 #[.val (.int i0)] [])) _
    refine XS.iconst X2.here hx rfl (hb hby at_15) ?_
    show Steps p.tables e below (T2.setTop (mkF m 16 #[.val (.int i0)] [(.int (0 : Int32))])) _
    exact retN X2 hx (t := .boolean) hret (by simp) (hb hby at_16) hr
def Q0 (Z : State) (i0 : Int32) (h0 : Heap) (n0 : Nat) (v : Option Value) (h : Heap) (L : List Loc) : Prop := v = some (.int (own_f0_0 i0)) ∧ L = [] ∧ h = h0
set_option maxRecDepth 65536 in
set_option maxHeartbeats 40000000 in
theorem rm0 (l : Launch) (Z : State) (a0_ : Array Value) (hw : ∀ d ∈ tables_1, d.before a0_ Z = true) (ws : List Jvm.Cond) (i0 : Int32) (h0 : Heap) (n0 : Nat) (Z0 : n0 ≤ h0.size)  :
    MetFree l x (head1 (Jvm.Cond.code x code maxLocals ret :: ws) room_1) (fun a U => a = #[(.int i0)] ∧ Z.Warmed39 U.vm ∧ U.heap = h0) (fun _ _ _ _ _ => True) (fun _ U o U' => ∃ v L, o = .returned v ∧ Q0 Z i0 h0 n0 v U'.heap L ∧ FrameEnd U o U' L room_1.cells room_1.slots) := by
  refine MetFree.of_bodySF (plainFor_of_name pn_0) hisR ?_
  intro p e s m args below meth c s₁ Bd hml0 hP hK
  obtain ⟨rfl, hZ, hh⟩ := hP
  have hx := Bd.exec
  have hby := Bd.bytes
  have hml : c.maxLocals = 1 := hml0
  have hown : s.vm.findClass "com/example/ack_on_arrival/ackonarrival/server/GrammarIsHexDigitPinLaw" = some m.cls := findClass_of_methodNamed Bd.named
  have X0 : Stand p l e room_1 s m #[(.int i0)] below meth c s₁ [] 0 0 := Stand.of_body Bd
  have e0 : s₁.heap = h0 := by rw [← hh, Bd.state]; rfl
  obtain ⟨T', X', e', st'⟩ := own_b0_0 hx hZ hw hby hml hown Bd.returns  i0 X0 e0 (by decide) (by decide) 
  obtain ⟨fs, hr, hrun, hended, hW, hsame⟩ := X'.leave (v := some (.int (own_f0_0 i0))) (fun h => by rw [Bd.returns] at h; cases h)
  refine ⟨_, _, castTop (ef_0 m i0) (st' fs hr), hrun, hended, _, _, rfl, ?_, ⟨_, rfl⟩, hW, hsame.mono (by decide) (by decide)⟩
  exact ⟨rfl, rfl, e'⟩
theorem own_small : ∀ n : Fin 128, own_f0_0 (Int32.ofNat n.val) = 1 := by decide +kernel
theorem own_law (i0 : Int32) : own_f0_0 i0 = 1 := by
  by_cases h : 0 ≤ i0.toInt ∧ i0.toInt < 128
  · have k := own_small ⟨i0.toInt.toNat, by omega⟩
    have e : Int32.ofNat i0.toInt.toNat = i0 := by
      apply Int32.toInt_inj.mp
      rw [Int32.toInt_ofNat_small (by omega)]
      omega
    rw [e] at k
    exact k
  · have l0 : (0 : Int32).toInt = 0 := by decide
    have l48 : (48 : Int32).toInt = 48 := by decide
    have l57 : (57 : Int32).toInt = 57 := by decide
    have l64 : (64 : Int32).toInt = 64 := by decide
    have l65 : (65 : Int32).toInt = 65 := by decide
    have l70 : (70 : Int32).toInt = 70 := by decide
    have l97 : (97 : Int32).toInt = 97 := by decide
    have l102 : (102 : Int32).toInt = 102 := by decide
    have l128 : (128 : Int32).toInt = 128 := by decide
    by_cases hn : i0.toInt < 0
    · have a1 : i0 < 48 := by rw [Int32.lt_iff_toInt_lt]; omega
      have a2 : i0 < 65 := by rw [Int32.lt_iff_toInt_lt]; omega
      have a3 : i0 < 97 := by rw [Int32.lt_iff_toInt_lt]; omega
      have a4 : i0 < 0 := by rw [Int32.lt_iff_toInt_lt]; omega
      have a5 : i0 < 64 := by rw [Int32.lt_iff_toInt_lt]; omega
      simp [own_f0_0, own_f1_0, own_f2_0, own_f1_19, own_f3_0, own_f3_28, a1, a2, a3, a4, a5]
    · have a1 : ¬ i0 < 48 := by rw [Int32.lt_iff_toInt_lt]; omega
      have a2 : 57 < i0 := by rw [Int32.lt_iff_toInt_lt]; omega
      have a3 : ¬ i0 < 65 := by rw [Int32.lt_iff_toInt_lt]; omega
      have a4 : 70 < i0 := by rw [Int32.lt_iff_toInt_lt]; omega
      have a5 : ¬ i0 < 97 := by rw [Int32.lt_iff_toInt_lt]; omega
      have a6 : 102 < i0 := by rw [Int32.lt_iff_toInt_lt]; omega
      have a7 : ¬ i0 < 0 := by rw [Int32.lt_iff_toInt_lt]; omega
      have a8 : ¬ i0 < 64 := by rw [Int32.lt_iff_toInt_lt]; omega
      have a9 : ¬ i0 < 128 := by rw [Int32.lt_iff_toInt_lt]; omega
      simp only [own_f0_0, own_f1_0, own_f2_0, own_f1_19, own_f3_0, own_f3_28, if_neg a1, if_pos a2, if_neg a3, if_pos a4, if_neg a5, if_pos a6, if_neg a7, if_neg a8, if_neg a9, if_true]
set_option maxRecDepth 65536 in
set_option maxHeartbeats 40000000 in
theorem comes_1 {Post : Tables → Env → Array Value → State → Outcome → State → Prop} (hpost : ∀ tb e args s v u, (limb_1_1.after args s (.returned v) u = true ∧ limb_1_2.after args s (.returned v) u = true ∧ True) → FrameEnd s (.returned v) u (Jvm.fieldLocs frame_1_writes args s ++ Jvm.arrayLocs frame_1_arrays args s ++ Jvm.staticLocs frame_1_statics s) 0 0 → Post tb e args s (.returned v) u) :
    ArmFor flags0 classFile x code maxLocals ret World_1 tables_1 room_1 Calls_1 rest_1 Pre_1 Post := by
  intro l hfl _ _ p e ha hc hk s m args below hf hA hF happ hP
  obtain ⟨hcalls, hrest, hpre⟩ := hP
  obtain ⟨-, -, -, hnamed, -, -, -, hat⟩ := (Spec.applies_iff hf).mp happ
  obtain ⟨hg, hn⟩ := and_e (Cond.before_iff.mp (show (Jvm.Cond.and given_1 narrow_1).before args s = true from hpre))
  obtain ⟨hcount, hg⟩ := and_e hg
  have g0 := hg
  obtain ⟨w0, rfl⟩ : ∃ w0 : Value, args = #[w0] := by
    have hs : args.size = 1 := by simpa [Cond.value, given_1] using hcount
    obtain ⟨L⟩ := args
    match L, hs with
    | [w0], _ => exact ⟨w0, rfl⟩
  have hw := fun d (hd : d ∈ tables_1) => atoms_spec (ws := Jvm.Cond.code x code maxLocals ret :: tables_1) hat d (List.mem_cons_of_mem _ hd)
  obtain ⟨i0, ei0⟩ := is_v g0
  obtain rfl : w0 = (.int i0) := Option.some.inj ei0
  obtain ⟨n, o, h1, h2, h3, _, L, rfl, ⟨rfl, rfl, N⟩, hq⟩ := rm0 l s _ hw tables_1 i0 s.heap s.heap.size (Nat.le_refl _) p e ha hc hk s m _ below hf ((Spec.applies_iff_loose hf).mp happ).1 ⟨rfl, State.Warmed39.refl s, rfl⟩ trivial
  rw [own_law i0] at h3 hq
  refine ⟨n, _, h1, h2, h3, hpost _ _ _ _ _ _ ⟨Cond.after_iff.mpr rfl, Cond.after_iff.mpr (eq_i res_at (Term.int_eval (1)) rfl), trivial⟩ ⟨hq.1, hq.2.1, (hq.2.2.sift fun y hy => nomatch hy).mono (by decide) (by decide)⟩⟩
theorem main_1_1 : Claimed_1_1 := comes_1 fun _ _ _ _ _ _ h hF => ⟨h.1, hF⟩
theorem main_1_2 : Claimed_1_2 := comes_1 fun _ _ _ _ _ _ h hF => ⟨h.2.1, hF⟩
end Jvm.Pilot.@@N@@
namespace Jvm.Pilot.@@N@@
open Jvm Jvm.ClassFile Sem Op Lib Jvm.Free Jvm.Stand Jvm.Pilot.@@N@@.Jvm.D
/-! MADE BY PROGRAM (witnessworld.py) out of the Statement's table words and the real class files: 7 classes; the members and pool entries that the words name. The judged class is class 1, her method 2. -/
namespace start1
open Jvm.ClassFile
def u (s : String) : CpInfo := .utf8 (stringToUtf16 s)
/-- a pool by its gaps: so many unusable entries, then the entry; so many at the end -/
def gap : Nat → List CpInfo → List CpInfo
  | 0, r => r
  | n + 1, r => .unusable :: gap n r
def poolList (es : List (Nat × CpInfo)) (last : Nat) : List CpInfo := es.foldr (fun e r => gap e.1 (e.2 :: r)) (gap last [])
def pool (es : List (Nat × CpInfo)) (last : Nat) : Array CpInfo := ⟨poolList es last⟩
def fileOf (pool : Array CpInfo) (this : Nat) (attrs : Array Attribute := #[]) (ms : Array MethodInfo := #[]) (fl : Nat := 33) (sup : Nat := 0) (ifs : Array Nat := #[]) (fds : Array FieldInfo := #[]) : ClassFile where
  minorVersion := 0
  majorVersion := 65
  constantPool := pool
  accessFlags := fl
  thisClass := this
  superClass := sup
  interfaces := ifs
  fields := fds
  methods := ms
  attributes := attrs
def plain (name : String) (sup : Option ClassId) : Class where
  name := name
  kind := .ordinary
  loader := none
  accessFlags := 33
  super := sup
  interfaces := #[]
  cf := none
  fields := #[]
  methods := #[]
  instanceTypes := #[]
  staticTypes := #[]
  resolved := #[]
  callSites := []
  init := .initialized
  statics := none
  mirror := none

def pool0 : Array CpInfo := pool [(5, u "<init>"), (0, u "()V"), (1, .class_ 10), (1, u "java/lang/Object")] 113

def k0m0 : Method := { name := "<init>", desc := "()V", sig := { parameters := [], returnType := none }, accessFlags := 1, code := none }
/-- java/lang/Object -/
def k0 : Class := { plain "java/lang/Object" none with
  accessFlags := 33
  interfaces := #[]
  cf := some (fileOf pool0 8 #[] #[{ accessFlags := 1, nameIndex := 5, descriptorIndex := 6, attributes := #[] }] 33 0 #[] #[])
  fields := #[]
  methods := #[k0m0]
  instanceTypes := #[]
  staticTypes := #[]
  resolved := Array.replicate 124 none
  statics := none }

def pool1 : Array CpInfo := pool [(2, .class_ 4), (1, u "java/lang/Object"), (0, u "<init>"), (0, u "()V"), (0, .class_ 8), (0, u "com/example/ack_on_arrival/ackonarrival/server/GrammarIsHexDigitPinLaw"), (0, .long 287948901175001088), (1, .long 541165879422), (1, .methodref 14 15), (0, .class_ 16), (0, .nameAndType 17 18), (0, u "com/example/ack_on_arrival/ackonarrival/server/Grammar"), (0, u "isHexDigit"), (0, u "(I)Z"), (0, .methodref 7 20), (0, .nameAndType 21 18), (0, u "reference"), (0, u "LOW"), (0, u "J"), (1, u "HIGH"), (3, u "law")] 2

def k1m0 : Method := { name := "<init>", desc := "()V", sig := { parameters := [], returnType := none }, accessFlags := 2, code := none }
def k1c1 : Code := { maxStack := 4, maxLocals := 1, code := method_2_code, exceptionTable := #[], attributes := #[] }
def k1m1 : Method := { name := "reference", desc := "(I)Z", sig := { parameters := [.int], returnType := some .boolean }, accessFlags := 10, code := some k1c1 }
def k1c2 : Code := { maxStack := 2, maxLocals := 1, code := code, exceptionTable := #[], attributes := #[] }
def k1m2 : Method := { name := "law", desc := "(I)Z", sig := { parameters := [.int], returnType := some .boolean }, accessFlags := 9, code := some k1c2 }
/-- com/example/ack_on_arrival/ackonarrival/server/GrammarIsHexDigitPinLaw -/
def k1 : Class := { plain "com/example/ack_on_arrival/ackonarrival/server/GrammarIsHexDigitPinLaw" (some 0) with
  accessFlags := 49
  interfaces := #[]
  cf := some (fileOf pool1 7 #[] #[{ accessFlags := 2, nameIndex := 5, descriptorIndex := 6, attributes := #[] }, { accessFlags := 10, nameIndex := 21, descriptorIndex := 18, attributes := #[] }, { accessFlags := 9, nameIndex := 29, descriptorIndex := 18, attributes := #[] }] 49 2 #[] #[{ accessFlags := 26, nameIndex := 22, descriptorIndex := 23, attributes := #[] }, { accessFlags := 26, nameIndex := 25, descriptorIndex := 23, attributes := #[] }])
  fields := #[{ name := "LOW", type := .long, accessFlags := 26, slot := 0, constantValue := 0 }, { name := "HIGH", type := .long, accessFlags := 26, slot := 1, constantValue := 0 }]
  methods := #[k1m0, k1m1, k1m2]
  instanceTypes := #[]
  staticTypes := #[.long, .long]
  resolved := Array.replicate 32 none
  statics := none }

def pool2 : Array CpInfo := pool [(2, .class_ 4), (1, u "java/lang/Object"), (0, u "<init>"), (0, u "()V"), (0, .methodref 8 9), (0, .class_ 10), (0, .nameAndType 11 12), (0, u "com/example/ack_on_arrival/ackonarrival/server/Grammar"), (0, u "isDigit"), (0, u "(I)Z"), (17, u "PERCENT_ENCODED_LENGTH"), (0, u "I"), (10, u "isHexDigit"), (2, u "TOKEN_MARKS"), (0, u "Ljava/lang/String;"), (1, u "UNRESERVED_MARKS"), (0, u "SUB_DELIMITERS")] 10

def k2m0 : Method := { name := "<init>", desc := "()V", sig := { parameters := [], returnType := none }, accessFlags := 2, code := none }
def k2c1 : Code := { maxStack := 2, maxLocals := 1, code := prog_12_method_2_code, exceptionTable := #[], attributes := #[] }
def k2m1 : Method := { name := "isDigit", desc := "(I)Z", sig := { parameters := [.int], returnType := some .boolean }, accessFlags := 8, code := some k2c1 }
def k2c2 : Code := { maxStack := 2, maxLocals := 1, code := prog_12_method_3_code, exceptionTable := #[], attributes := #[] }
def k2m2 : Method := { name := "isHexDigit", desc := "(I)Z", sig := { parameters := [.int], returnType := some .boolean }, accessFlags := 8, code := some k2c2 }
/-- com/example/ack_on_arrival/ackonarrival/server/Grammar -/
def k2 : Class := { plain "com/example/ack_on_arrival/ackonarrival/server/Grammar" (some 0) with
  accessFlags := 32
  interfaces := #[]
  cf := some (fileOf pool2 8 #[] #[{ accessFlags := 2, nameIndex := 5, descriptorIndex := 6, attributes := #[] }, { accessFlags := 8, nameIndex := 11, descriptorIndex := 12, attributes := #[] }, { accessFlags := 8, nameIndex := 42, descriptorIndex := 12, attributes := #[] }] 32 2 #[] #[{ accessFlags := 24, nameIndex := 30, descriptorIndex := 31, attributes := #[] }, { accessFlags := 26, nameIndex := 45, descriptorIndex := 46, attributes := #[] }, { accessFlags := 26, nameIndex := 48, descriptorIndex := 46, attributes := #[] }, { accessFlags := 26, nameIndex := 49, descriptorIndex := 46, attributes := #[] }])
  fields := #[{ name := "PERCENT_ENCODED_LENGTH", type := .int, accessFlags := 24, slot := 0, constantValue := 0 }, { name := "TOKEN_MARKS", type := (.object "java/lang/String"), accessFlags := 26, slot := 1, constantValue := 0 }, { name := "UNRESERVED_MARKS", type := (.object "java/lang/String"), accessFlags := 26, slot := 2, constantValue := 0 }, { name := "SUB_DELIMITERS", type := (.object "java/lang/String"), accessFlags := 26, slot := 3, constantValue := 0 }]
  methods := #[k2m0, k2m1, k2m2]
  instanceTypes := #[]
  staticTypes := #[.int, (.object "java/lang/String"), (.object "java/lang/String"), (.object "java/lang/String")]
  resolved := Array.replicate 60 none
  statics := none }

def pool3 : Array CpInfo := pool [(1, u "java/lang/Cloneable"), (0, .class_ 1), (0, u "java/lang/Object"), (0, .class_ 3)] 3

/-- java/lang/Cloneable -/
def k3 : Class := { plain "java/lang/Cloneable" (some 0) with
  accessFlags := 1537
  interfaces := #[]
  cf := some (fileOf pool3 2 #[] #[] 1537 4 #[] #[])
  fields := #[]
  methods := #[]
  instanceTypes := #[]
  staticTypes := #[]
  resolved := Array.replicate 8 none
  statics := none }

def pool4 : Array CpInfo := pool [(1, u "java/io/Serializable"), (0, .class_ 1), (0, u "java/lang/Object"), (0, .class_ 3)] 3

/-- java/io/Serializable -/
def k4 : Class := { plain "java/io/Serializable" (some 0) with
  accessFlags := 1537
  interfaces := #[]
  cf := some (fileOf pool4 2 #[] #[] 1537 4 #[] #[])
  fields := #[]
  methods := #[]
  instanceTypes := #[]
  staticTypes := #[]
  resolved := Array.replicate 8 none
  statics := none }

/-- the primitive byte -/
def k5 : Class := { plain "byte" none with kind := .primitive 'B', accessFlags := 0x411 }
/-- [B -/
def k6 : Class := { plain "[B" (some 0) with kind := .array 5 .byte, interfaces := #[3, 4], accessFlags := 1041 }

def heap : Heap := #[]
def classes : Array Class := #[k0, k1, k2, k3, k4, k5, k6]
def interned : List (Array UInt16 × Addr) := []
def slotsUsed : Nat := 0
def theMethod : MethodId := ⟨1, 2⟩
def args0 : Array Value := #[.int 5]
def aboutOver (below : List Frame) : State where
  vm := { classes := classes, interned := interned.toArray }
  heap := heap
  slotsUsed := slotsUsed
  threads := #[{ frames := .invoking theMethod args0 :: below }]
def below0 : List Frame := [.native { method := ⟨0, 0⟩, args := #[] }]
def about1 : State := aboutOver below0
def p0 : Program := .bare "" "" ""
def e0 : Env := launch0.env 0 0 0
theorem w_frames : about1.frames = Frame.invoking theMethod args0 :: below0 := rfl
set_option maxRecDepth 65536 in
theorem w_args : argsFit about1.vm theMethod args0 = true := by decide +kernel
set_option maxRecDepth 65536 in
theorem w_heap : heapFits about1 = true := by decide +kernel
set_option maxRecDepth 65536 in
theorem w_runnable : about1.curStatus? = some .runnable := by decide +kernel
set_option maxRecDepth 65536 in
theorem w_alone : about1.alone = true := by decide +kernel
set_option maxRecDepth 65536 in
theorem w_named : about1.methodNamed? x = some theMethod := by decide +kernel
set_option maxRecDepth 65536 in
theorem w_hears : about1.hears theMethod below0 = true := by decide +kernel
set_option maxRecDepth 65536 in
theorem w_ripe : about1.ripe theMethod args0 below0 = true := by decide +kernel
theorem w_running : about1.status = .running := rfl
set_option maxRecDepth 65536 in
theorem w_room : about1.hasRoom e0.platform room_1 = true :=
  launch0.hasRoom_least _ room_1 (by decide +kernel) (by decide +kernel) (by decide +kernel) (by decide +kernel) (by decide +kernel) (by decide +kernel)
theorem allAtoms_all (ts : List Jvm.Cond) (a : Array Jvm.Value) (st : Jvm.State) : (allAtoms ts).before a st = ts.all (fun c => c.before a st) := by
  induction ts with
  | nil => rfl
  | cons c t ih =>
    show (Jvm.Cond.and c (allAtoms t)).before a st = _
    rw [Jvm.Cond.before_and, ih, List.all_cons]
def words1 : List Jvm.Cond := Jvm.Cond.code x code maxLocals ret :: tables_1
/-- a 'code' word, met by the world's own term for the bytes: nothing is compared byte by byte -/
theorem code_word {y : MethodName} {bytes : ByteArray} {mx : Nat} {rt : Option FieldType} {a : Array Value} {s : State} {m : MethodId} {meth : Method} {c : Code} (h1 : s.methodNamed? y = some m) (h2 : s.vm.method? m = some meth) (h3 : meth.code = some c) (h4 : c.code = bytes)
    (h5 : (c.maxLocals == mx && c.exceptionTable.isEmpty && decide (c.maxStack ≤ mostOperands) && decide (meth.sig.returnType = rt) && !meth.locks && decide (parseMethodDescriptor y.desc = some meth.sig)) = true) : (Jvm.Cond.code y bytes mx rt).before a s = true := by
  simp only [Bool.and_eq_true, beq_iff_eq, Bool.not_eq_true', decide_eq_true_eq] at h5
  obtain ⟨⟨⟨⟨⟨g1, g2⟩, g3⟩, g4⟩, g5⟩, g6⟩ := h5
  simp [Cond.before, Cond.holds, Cond.value, h1, h2, h3, h4, g1, g2, g3, g4, g5, g6]
def isCode : Jvm.Cond → Bool
  | .code _ _ _ _ => true
  | _ => false
theorem all_split {L : List Jvm.Cond} {P : Jvm.Cond → Bool} (h1 : L.all (fun c => isCode c || P c) = true) (h2 : ∀ c ∈ L.filter isCode, P c = true) : L.all P = true := by
  refine List.all_eq_true.mpr fun c hc => ?_
  have h := List.all_eq_true.mp h1 c hc
  rcases Bool.eq_false_or_eq_true (isCode c) with hi | hi
  · exact h2 c (List.mem_filter.mpr ⟨hc, hi⟩)
  · simpa [hi] using h
set_option maxRecDepth 65536 in
theorem w_c0 : (Jvm.Cond.code x code maxLocals ret).before args0 about1 = true := code_word (m := ⟨1, 2⟩) (meth := k1m2) (c := k1c2) (by decide +kernel) rfl rfl rfl (by decide +kernel)
set_option maxRecDepth 65536 in
theorem w_c1 : (Jvm.Cond.code ({ cls := "com/example/ack_on_arrival/ackonarrival/server/Grammar", name := "isHexDigit", desc := "(I)Z" } : Jvm.MethodName) prog_12_method_3_code (1 : Nat) (Option.some Jvm.ClassFile.FieldType.boolean)).before args0 about1 = true := code_word (m := ⟨2, 2⟩) (meth := k2m2) (c := k2c2) (by decide +kernel) rfl rfl rfl (by decide +kernel)
set_option maxRecDepth 65536 in
theorem w_c2 : (Jvm.Cond.code ({ cls := "com/example/ack_on_arrival/ackonarrival/server/Grammar", name := "isDigit", desc := "(I)Z" } : Jvm.MethodName) prog_12_method_2_code (1 : Nat) (Option.some Jvm.ClassFile.FieldType.boolean)).before args0 about1 = true := code_word (m := ⟨2, 1⟩) (meth := k2m1) (c := k2c1) (by decide +kernel) rfl rfl rfl (by decide +kernel)
set_option maxRecDepth 65536 in
theorem w_c3 : (Jvm.Cond.code ({ cls := "com/example/ack_on_arrival/ackonarrival/server/GrammarIsHexDigitPinLaw", name := "reference", desc := "(I)Z" } : Jvm.MethodName) method_2_code (1 : Nat) (Option.some Jvm.ClassFile.FieldType.boolean)).before args0 about1 = true := code_word (m := ⟨1, 1⟩) (meth := k1m1) (c := k1c1) (by decide +kernel) rfl rfl rfl (by decide +kernel)
def codes1 : List Jvm.Cond := [Jvm.Cond.code x code maxLocals ret, Jvm.Cond.code ({ cls := "com/example/ack_on_arrival/ackonarrival/server/Grammar", name := "isHexDigit", desc := "(I)Z" } : Jvm.MethodName) prog_12_method_3_code (1 : Nat) (Option.some Jvm.ClassFile.FieldType.boolean), Jvm.Cond.code ({ cls := "com/example/ack_on_arrival/ackonarrival/server/Grammar", name := "isDigit", desc := "(I)Z" } : Jvm.MethodName) prog_12_method_2_code (1 : Nat) (Option.some Jvm.ClassFile.FieldType.boolean), Jvm.Cond.code ({ cls := "com/example/ack_on_arrival/ackonarrival/server/GrammarIsHexDigitPinLaw", name := "reference", desc := "(I)Z" } : Jvm.MethodName) method_2_code (1 : Nat) (Option.some Jvm.ClassFile.FieldType.boolean)]
set_option maxRecDepth 65536 in
theorem codes_eq : words1.filter isCode = codes1 := rfl
theorem w_codes : ∀ c ∈ words1.filter isCode, c.before args0 about1 = true := by
  rw [codes_eq]
  intro c hc
  simp only [codes1, List.mem_cons, List.not_mem_nil, or_false] at hc
  rcases hc with rfl | rfl | rfl | rfl
  · exact w_c0
  · exact w_c1
  · exact w_c2
  · exact w_c3
set_option maxRecDepth 65536 in
theorem w_t1 : words1.all (fun c => isCode c || c.before args0 about1) = true := by decide +kernel
theorem w_tables : (allAtoms (Jvm.Cond.code x code maxLocals ret :: tables_1)).before args0 about1 = true := by
  rw [allAtoms_all]
  show words1.all (fun c => c.before args0 about1) = true
  refine all_split ?_ w_codes
  rw [w_t1]
set_option maxRecDepth 65536 in
theorem w_case : (Jvm.Cond.and given_1 narrow_1).before args0 about1 = true := by decide +kernel
theorem w_applies : (headSpec (Jvm.Cond.code x code maxLocals ret :: tables_1) room_1).applies x e0.platform about1 = true :=
  (Spec.applies_iff w_frames).mpr ⟨w_running, w_runnable, w_alone, w_named, w_hears, w_ripe, w_room, w_tables⟩
theorem atStart : AtStart classFile x code maxLocals ret World_1 tables_1 room_1 Calls_1 rest_1 Pre_1 launch0 p0 e0 about1 theMethod args0 below0 :=
  ⟨lists_1, trivial, launch0.admits_env _ _ _, launch0.least_env, fairChoices_fair.cas, fairChoices_fair.clock, w_frames, w_args, w_heap, w_applies, trivial, trivial, w_case⟩
end start1
theorem witness_1 : WitnessClaimed_1 := ⟨start1.p0, start1.e0, start1.about1, start1.theMethod, start1.args0, start1.below0, start1.atStart⟩
end Jvm.Pilot.@@N@@
