import JvmDerived
import JvmDerived.Pilot.@@N@@Statement
import JvmDerived.Pilot.@@N@@Code
set_option linter.unusedVariables false
set_option linter.unusedSimpArgs false
namespace Jvm.RoadKit
open Sem ClassFile Op Lib Jvm.Stand Jvm.Free Jvm.LawKit
section New
variable {p : Program} {l : Launch} {e : Env} {R : Room} {s : State} {m : MethodId} {args : Array Value} {below : List Frame} {meth : Method} {c : Code} {T : State} {locs : List Loc} {cells slots : Nat}
theorem retI (X : Stand p l e R s m args below meth c T locs cells slots) (hx : p.tables.exec = Jvm.exec) {pc : Nat} {Ls : Array Slot} {z : Int32} {rest : List Value} (hret : meth.sig.returnType = some .int) (hd : decode c.code pc = .ok (.ireturn, 1)) {fs : List Frame}
    (hl : ∀ (f : JFrame) (acts : List Action), f.method = m → f.locked = none → f.entered = [] → (doReturn e (T.setTop f) acts (some (.int z))).1 = T.setFrames fs) : Steps p.tables e below (T.setTop (mkF m pc Ls (.int z :: rest))) (T.setFrames fs) := by
  have hm' : T.vm.method? m = some meth := X.method'
  have hn : narrow .int (.int z) = .int z := rfl
  show Steps p.tables e below (T.setTop { method := m, pc := pc, locals := Ls, stack := _ :: rest, locked := none }) _
  jvm_step X.here [X.here.top, hx, hd, hm', hret, hn]
  first | (intro acts; rw [hl _ acts rfl rfl rfl]) | rw [hl _ _ rfl rfl rfl]
  exact Steps.refl _
end New
end Jvm.RoadKit
namespace Jvm.Pilot.@@N@@
open Jvm Jvm.ClassFile Sem Op Lib Jvm.Free Jvm.Stand Jvm.LawKit Jvm.RoadKit Bundle Jvm.Pilot.@@N@@.Jvm.D
theorem d1_0 : decode prog_55_method_1_code 0 = .ok (.aload_n 0, 1) := by decide +kernel
theorem d1_1 : decode prog_55_method_1_code 1 = .ok (.invokespecial 1, 3) := by decide +kernel
theorem d1_4 : decode prog_55_method_1_code 4 = .ok (.return_, 1) := by decide +kernel
theorem pn_1 : plainName "com/example/vedette/vedette/links/IntermarcAuthorityLinkRules" = true := by first | (simp [plainName, overriddenIn]; done) | decide +kernel
theorem ef_1 (m : MethodId) (a0 : Addr) : entryFrame m #[(.ref a0)] 1 = mkF m 0 #[.val (.ref a0)] [] := by first | (simp [entryFrame, mkF, argsToLocals, Value.category]; done) | rfl
set_option maxRecDepth 65536 in
set_option maxHeartbeats 40000000 in
theorem own_b1_0 {p : Program} {l : Launch} {e : Env} {s : State} {m : MethodId} {args : Array Value} {below : List Frame} {meth : Method} {c : Code} {Z : State} {a0_ : Array Value} (hx : p.tables.exec = Jvm.exec) (hZ : Z.Warmed39 s.vm) (hw : ∀ d ∈ tables_1, d.before a0_ Z = true) (hby : c.code = prog_55_method_1_code) (hml : c.maxLocals = 1) (hown : s.vm.findClass "com/example/vedette/vedette/links/IntermarcAuthorityLinkRules" = some m.cls) (hret : meth.sig.returnType = none) (hnm : meth.name = "<init>") {T0 : State} {locs : List Loc} {cells slots : Nat} {h0 : Heap} (a0 : Addr)
    (X0 : Stand p l e ({ frames := 1, cells := 0, slots := 0, locals := 12 } : Room) s m args below meth c T0 locs cells slots) (e0 : T0.heap = h0) (hcl : cells ≤ ({ frames := 1, cells := 0, slots := 0, locals := 12 } : Room).cells) (hsl : slots ≤ ({ frames := 1, cells := 0, slots := 0, locals := 12 } : Room).slots)  :
    ∃ T', Stand p l e ({ frames := 1, cells := 0, slots := 0, locals := 12 } : Room) s m args below meth c T' locs cells slots ∧ T'.heap = h0 ∧ ∀ fs, (∀ (f : JFrame) (acts : List Action), f.method = m → f.locked = none → f.entered = [] → (doReturn e (T'.setTop f) acts (none)).1 = T'.setFrames fs) → Steps p.tables e below (T0.setTop (mkF m 0 #[.val (.ref a0)] [])) (T'.setFrames fs) := by
  obtain ⟨T1, X1, e1, st1⟩ := initO X0 hx hZ hown (hw _ (List.mem_of_getElem? (i := 6) rfl)) (hw _ (List.mem_of_getElem? (i := 7) rfl)) (hw _ (List.mem_of_getElem? (i := 8) rfl)) e0 (g := (mkF m 1 #[.val (.ref a0)] [(.ref a0)])) rfl (by rw [hml]; rfl) rfl (hb hby d1_1) (by decide) (W := 0) (by show 2 * 0 + _ ≤ _; exact Nat.le_of_eq rfl) (by decide)
  refine ⟨T1, X1, e1, fun fs hr => ?_⟩
  show Steps p.tables e below (T0.setTop (mkF m 0 #[.val (.ref a0)] [])) _
  refine XS.aloadN X0.here hx rfl (hb hby d1_0) rfl rfl ?_
  show Steps p.tables e below (T0.setTop (mkF m 1 #[.val (.ref a0)] [(.ref a0)])) _
  refine st1 _ ?_
  show Steps p.tables e below (T1.setTop (mkF m 4 #[.val (.ref a0)] [])) _
  exact X1.returnOut hx hret (hb hby d1_4) hr
def Q1 (Z : State) (a0 : Addr) (h0 : Heap) (n0 : Nat) (v : Option Value) (h : Heap) (L : List Loc) : Prop := v = none ∧ L = [] ∧ h = h0
set_option maxRecDepth 65536 in
set_option maxHeartbeats 40000000 in
theorem rm1 (l : Launch) (Z : State) (a0_ : Array Value) (hw : ∀ d ∈ tables_1, d.before a0_ Z = true) (ws : List Jvm.Cond) (a0 : Addr) (h0 : Heap) (n0 : Nat) (Z0 : n0 ≤ h0.size)  :
    MetFree l (⟨"com/example/vedette/vedette/links/IntermarcAuthorityLinkRules", "<init>", "()V"⟩ : MethodName) (head1 (Jvm.Cond.code (⟨"com/example/vedette/vedette/links/IntermarcAuthorityLinkRules", "<init>", "()V"⟩ : MethodName) prog_55_method_1_code 1 none :: ws) ({ frames := 1, cells := 0, slots := 0, locals := 12 } : Room)) (fun a U => a = #[(.ref a0)] ∧ Z.Warmed39 U.vm ∧ U.heap = h0) (fun _ _ _ _ _ => True) (fun _ U o U' => ∃ v L, o = .returned v ∧ Q1 Z a0 h0 n0 v U'.heap L ∧ FrameEnd U o U' L ({ frames := 1, cells := 0, slots := 0, locals := 12 } : Room).cells ({ frames := 1, cells := 0, slots := 0, locals := 12 } : Room).slots) := by
  refine MetFree.of_bodySF (plainFor_of_name pn_1) hisR ?_
  intro p e s m args below meth c s₁ Bd hml0 hP hK
  obtain ⟨rfl, hZ, hh⟩ := hP
  have hx := Bd.exec
  have hby := Bd.bytes
  have hml : c.maxLocals = 1 := hml0
  have hown : s.vm.findClass "com/example/vedette/vedette/links/IntermarcAuthorityLinkRules" = some m.cls := findClass_of_methodNamed Bd.named
  have X0 : Stand p l e ({ frames := 1, cells := 0, slots := 0, locals := 12 } : Room) s m #[(.ref a0)] below meth c s₁ [] 0 0 := Stand.of_body Bd
  have e0 : s₁.heap = h0 := by rw [← hh, Bd.state]; rfl
  have hnm := (name_of_methodNamed Bd.named Bd.method).1
  obtain ⟨T', X', e', st'⟩ := own_b1_0 hx hZ hw hby hml hown Bd.returns hnm a0 X0 e0 (by decide) (by decide) 
  obtain ⟨fs, hr, hrun, hended, hW, hsame⟩ := X'.leave (v := none) (fun _ => rfl)
  refine ⟨_, _, castTop (ef_1 m a0) (st' fs hr), hrun, hended, _, _, rfl, ?_, ⟨_, rfl⟩, hW, hsame.mono (by decide) (by decide)⟩
  exact ⟨rfl, rfl, e'⟩
theorem d3_0 : decode prog_55_method_9_code 0 = .ok (.iload_n 1, 1) := by decide +kernel
theorem d3_1 : decode prog_55_method_9_code 1 = .ok (.bipush 115, 2) := by decide +kernel
theorem d3_3 : decode prog_55_method_9_code 3 = .ok (.if_icmp .ne 7, 3) := by decide +kernel
theorem d3_6 : decode prog_55_method_9_code 6 = .ok (.iconst 1, 1) := by decide +kernel
theorem d3_7 : decode prog_55_method_9_code 7 = .ok (.goto 4, 3) := by decide +kernel
theorem d3_10 : decode prog_55_method_9_code 10 = .ok (.iconst 0, 1) := by decide +kernel
theorem d3_11 : decode prog_55_method_9_code 11 = .ok (.ireturn, 1) := by decide +kernel
theorem pn_3 : plainName "com/example/vedette/vedette/links/IntermarcAuthorityLinkRules" = true := by first | (simp [plainName, overriddenIn]; done) | decide +kernel
theorem ef_3 (m : MethodId) (a0 : Addr) (i1 : Int32) : entryFrame m #[(.ref a0), (.int i1)] 2 = mkF m 0 #[.val (.ref a0), .val (.int i1)] [] := by first | (simp [entryFrame, mkF, argsToLocals, Value.category]; done) | rfl
def own_f3_0 (i1 : Int32) : Int32 :=
  (if i1 = (115 : Int32) then (1 : Int32) else (0 : Int32))
set_option maxRecDepth 65536 in
set_option maxHeartbeats 40000000 in
theorem own_b3_0 {p : Program} {l : Launch} {e : Env} {s : State} {m : MethodId} {args : Array Value} {below : List Frame} {meth : Method} {c : Code} {Z : State} {a0_ : Array Value} (hx : p.tables.exec = Jvm.exec) (hZ : Z.Warmed39 s.vm) (hw : ∀ d ∈ tables_1, d.before a0_ Z = true) (hby : c.code = prog_55_method_9_code) (hml : c.maxLocals = 2) (hown : s.vm.findClass "com/example/vedette/vedette/links/IntermarcAuthorityLinkRules" = some m.cls) (hret : meth.sig.returnType = some .boolean) {T0 : State} {locs : List Loc} {cells slots : Nat} {h0 : Heap} (a0 : Addr) (i1 : Int32)
    (X0 : Stand p l e ({ frames := 0, cells := 0, slots := 0, locals := 0 } : Room) s m args below meth c T0 locs cells slots) (e0 : T0.heap = h0) (hcl : cells ≤ ({ frames := 0, cells := 0, slots := 0, locals := 0 } : Room).cells) (hsl : slots ≤ ({ frames := 0, cells := 0, slots := 0, locals := 0 } : Room).slots)  :
    ∃ T', Stand p l e ({ frames := 0, cells := 0, slots := 0, locals := 0 } : Room) s m args below meth c T' locs cells slots ∧ T'.heap = h0 ∧ ∀ fs, (∀ (f : JFrame) (acts : List Action), f.method = m → f.locked = none → f.entered = [] → (doReturn e (T'.setTop f) acts (some (.int (own_f3_0 i1)))).1 = T'.setFrames fs) → Steps p.tables e below (T0.setTop (mkF m 0 #[.val (.ref a0), .val (.int i1)] [])) (T'.setFrames fs) := by
  have pre1 : ∀ target, Steps p.tables e below (T0.setTop (mkF m 3 #[.val (.ref a0), .val (.int i1)] [(.int (115 : Int32)), (.int i1)])) target → Steps p.tables e below (T0.setTop (mkF m 0 #[.val (.ref a0), .val (.int i1)] [])) target := by
    intro target kt
    show Steps p.tables e below (T0.setTop (mkF m 0 #[.val (.ref a0), .val (.int i1)] [])) _
    refine XS.iloadN X0.here hx rfl (hb hby d3_0) rfl ?_
    show Steps p.tables e below (T0.setTop (mkF m 1 #[.val (.ref a0), .val (.int i1)] [(.int i1)])) _
    refine XS.bipush X0.here hx rfl (hb hby d3_1) ?_
    exact kt
  by_cases hc3 : i1 = (115 : Int32)
  · refine ⟨T0, X0, e0, fun fs hr => ?_⟩
    have hv : (own_f3_0 i1) = (1 : Int32) := by unfold own_f3_0; rw [if_pos hc3]
    rw [hv] at hr
    refine pre1 _ ?_
    show Steps p.tables e below (T0.setTop (mkF m 3 #[.val (.ref a0), .val (.int i1)] [(.int (115 : Int32)), (.int i1)])) _
    refine XS.icmpNo X0.here hx rfl (hb hby d3_3) rfl (teq hc3).2 ?_
    show Steps p.tables e below (T0.setTop (mkF m 6 #[.val (.ref a0), .val (.int i1)] [])) _
    refine XS.iconst X0.here hx rfl (hb hby d3_6) ?_
    show Steps p.tables e below (T0.setTop (mkF m 7 #[.val (.ref a0), .val (.int i1)] [(.int (1 : Int32))])) _
    refine XS.goto X0.here hx rfl (pc0 := 7) (pc' := 11) rfl (hb hby d3_7) (by decide) (by decide) ?_
    show Steps p.tables e below (T0.setTop (mkF m 11 #[.val (.ref a0), .val (.int i1)] [(.int (1 : Int32))])) _
    exact retN X0 hx (t := .boolean) hret (by simp) (hb hby d3_11) hr
  · refine ⟨T0, X0, e0, fun fs hr => ?_⟩
    have hv : (own_f3_0 i1) = (0 : Int32) := by unfold own_f3_0; rw [if_neg hc3]
    rw [hv] at hr
    refine pre1 _ ?_
    show Steps p.tables e below (T0.setTop (mkF m 3 #[.val (.ref a0), .val (.int i1)] [(.int (115 : Int32)), (.int i1)])) _
    refine XS.icmpYes X0.here hx rfl (pc0 := 3) (pc' := 10) rfl (hb hby d3_3) rfl (feq hc3).2 (by decide) (by decide) ?_
    show Steps p.tables e below (T0.setTop (mkF m 10 #[.val (.ref a0), .val (.int i1)] [])) _
    refine XS.iconst X0.here hx rfl (hb hby d3_10) ?_
    show Steps p.tables e below (T0.setTop (mkF m 11 #[.val (.ref a0), .val (.int i1)] [(.int (0 : Int32))])) _
    exact retN X0 hx (t := .boolean) hret (by simp) (hb hby d3_11) hr
def Q3 (Z : State) (a0 : Addr) (i1 : Int32) (h0 : Heap) (n0 : Nat) (v : Option Value) (h : Heap) (L : List Loc) : Prop := v = some (.int (own_f3_0 i1)) ∧ L = [] ∧ h = h0
set_option maxRecDepth 65536 in
set_option maxHeartbeats 40000000 in
theorem rm3 (l : Launch) (Z : State) (a0_ : Array Value) (hw : ∀ d ∈ tables_1, d.before a0_ Z = true) (ws : List Jvm.Cond) (a0 : Addr) (i1 : Int32) (h0 : Heap) (n0 : Nat) (Z0 : n0 ≤ h0.size)  :
    MetFree l (⟨"com/example/vedette/vedette/links/IntermarcAuthorityLinkRules", "carriesToReciprocal", "(C)Z"⟩ : MethodName) (head1 (Jvm.Cond.code (⟨"com/example/vedette/vedette/links/IntermarcAuthorityLinkRules", "carriesToReciprocal", "(C)Z"⟩ : MethodName) prog_55_method_9_code 2 (some .boolean) :: ws) ({ frames := 0, cells := 0, slots := 0, locals := 0 } : Room)) (fun a U => a = #[(.ref a0), (.int i1)] ∧ Z.Warmed39 U.vm ∧ U.heap = h0) (fun _ _ _ _ _ => True) (fun _ U o U' => ∃ v L, o = .returned v ∧ Q3 Z a0 i1 h0 n0 v U'.heap L ∧ FrameEnd U o U' L ({ frames := 0, cells := 0, slots := 0, locals := 0 } : Room).cells ({ frames := 0, cells := 0, slots := 0, locals := 0 } : Room).slots) := by
  refine MetFree.of_bodySF (plainFor_of_name pn_3) hisR ?_
  intro p e s m args below meth c s₁ Bd hml0 hP hK
  obtain ⟨rfl, hZ, hh⟩ := hP
  have hx := Bd.exec
  have hby := Bd.bytes
  have hml : c.maxLocals = 2 := hml0
  have hown : s.vm.findClass "com/example/vedette/vedette/links/IntermarcAuthorityLinkRules" = some m.cls := findClass_of_methodNamed Bd.named
  have X0 : Stand p l e ({ frames := 0, cells := 0, slots := 0, locals := 0 } : Room) s m #[(.ref a0), (.int i1)] below meth c s₁ [] 0 0 := Stand.of_body Bd
  have e0 : s₁.heap = h0 := by rw [← hh, Bd.state]; rfl
  obtain ⟨T', X', e', st'⟩ := own_b3_0 hx hZ hw hby hml hown Bd.returns  a0 i1 X0 e0 (by decide) (by decide) 
  obtain ⟨fs, hr, hrun, hended, hW, hsame⟩ := X'.leave (v := some (.int (own_f3_0 i1))) (fun h => by rw [Bd.returns] at h; cases h)
  refine ⟨_, _, castTop (ef_3 m a0 i1) (st' fs hr), hrun, hended, _, _, rfl, ?_, ⟨_, rfl⟩, hW, hsame.mono (by decide) (by decide)⟩
  exact ⟨rfl, rfl, e'⟩
theorem d4_0 : decode prog_55_method_6_code 0 = .ok (.iload_n 1, 1) := by decide +kernel
theorem d4_1 : decode prog_55_method_6_code 1 = .ok (.bipush 114, 2) := by decide +kernel
theorem d4_3 : decode prog_55_method_6_code 3 = .ok (.if_icmp .eq 9, 3) := by decide +kernel
theorem d4_6 : decode prog_55_method_6_code 6 = .ok (.iload_n 1, 1) := by decide +kernel
theorem d4_7 : decode prog_55_method_6_code 7 = .ok (.bipush 115, 2) := by decide +kernel
theorem d4_9 : decode prog_55_method_6_code 9 = .ok (.if_icmp .ne 7, 3) := by decide +kernel
theorem d4_12 : decode prog_55_method_6_code 12 = .ok (.iconst 1, 1) := by decide +kernel
theorem d4_13 : decode prog_55_method_6_code 13 = .ok (.goto 4, 3) := by decide +kernel
theorem d4_16 : decode prog_55_method_6_code 16 = .ok (.iconst 0, 1) := by decide +kernel
theorem d4_17 : decode prog_55_method_6_code 17 = .ok (.ireturn, 1) := by decide +kernel
theorem pn_4 : plainName "com/example/vedette/vedette/links/IntermarcAuthorityLinkRules" = true := by first | (simp [plainName, overriddenIn]; done) | decide +kernel
theorem ef_4 (m : MethodId) (a0 : Addr) (i1 : Int32) : entryFrame m #[(.ref a0), (.int i1)] 2 = mkF m 0 #[.val (.ref a0), .val (.int i1)] [] := by first | (simp [entryFrame, mkF, argsToLocals, Value.category]; done) | rfl
def own_f4_0 (i1 : Int32) : Int32 :=
  (if i1 = (114 : Int32) then (1 : Int32) else (if i1 = (115 : Int32) then (1 : Int32) else (0 : Int32)))
set_option maxRecDepth 65536 in
set_option maxHeartbeats 40000000 in
theorem own_b4_0 {p : Program} {l : Launch} {e : Env} {s : State} {m : MethodId} {args : Array Value} {below : List Frame} {meth : Method} {c : Code} {Z : State} {a0_ : Array Value} (hx : p.tables.exec = Jvm.exec) (hZ : Z.Warmed39 s.vm) (hw : ∀ d ∈ tables_1, d.before a0_ Z = true) (hby : c.code = prog_55_method_6_code) (hml : c.maxLocals = 2) (hown : s.vm.findClass "com/example/vedette/vedette/links/IntermarcAuthorityLinkRules" = some m.cls) (hret : meth.sig.returnType = some .boolean) {T0 : State} {locs : List Loc} {cells slots : Nat} {h0 : Heap} (a0 : Addr) (i1 : Int32)
    (X0 : Stand p l e ({ frames := 0, cells := 0, slots := 0, locals := 0 } : Room) s m args below meth c T0 locs cells slots) (e0 : T0.heap = h0) (hcl : cells ≤ ({ frames := 0, cells := 0, slots := 0, locals := 0 } : Room).cells) (hsl : slots ≤ ({ frames := 0, cells := 0, slots := 0, locals := 0 } : Room).slots)  :
    ∃ T', Stand p l e ({ frames := 0, cells := 0, slots := 0, locals := 0 } : Room) s m args below meth c T' locs cells slots ∧ T'.heap = h0 ∧ ∀ fs, (∀ (f : JFrame) (acts : List Action), f.method = m → f.locked = none → f.entered = [] → (doReturn e (T'.setTop f) acts (some (.int (own_f4_0 i1)))).1 = T'.setFrames fs) → Steps p.tables e below (T0.setTop (mkF m 0 #[.val (.ref a0), .val (.int i1)] [])) (T'.setFrames fs) := by
  have pre1 : ∀ target, Steps p.tables e below (T0.setTop (mkF m 3 #[.val (.ref a0), .val (.int i1)] [(.int (114 : Int32)), (.int i1)])) target → Steps p.tables e below (T0.setTop (mkF m 0 #[.val (.ref a0), .val (.int i1)] [])) target := by
    intro target kt
    show Steps p.tables e below (T0.setTop (mkF m 0 #[.val (.ref a0), .val (.int i1)] [])) _
    refine XS.iloadN X0.here hx rfl (hb hby d4_0) rfl ?_
    show Steps p.tables e below (T0.setTop (mkF m 1 #[.val (.ref a0), .val (.int i1)] [(.int i1)])) _
    refine XS.bipush X0.here hx rfl (hb hby d4_1) ?_
    exact kt
  by_cases hc3 : i1 = (114 : Int32)
  · refine ⟨T0, X0, e0, fun fs hr => ?_⟩
    have hv : (own_f4_0 i1) = (1 : Int32) := by unfold own_f4_0; rw [if_pos hc3]
    rw [hv] at hr
    refine pre1 _ ?_
    show Steps p.tables e below (T0.setTop (mkF m 3 #[.val (.ref a0), .val (.int i1)] [(.int (114 : Int32)), (.int i1)])) _
    refine XS.icmpYes X0.here hx rfl (pc0 := 3) (pc' := 12) rfl (hb hby d4_3) rfl (teq hc3).1 (by decide) (by decide) ?_
    show Steps p.tables e below (T0.setTop (mkF m 12 #[.val (.ref a0), .val (.int i1)] [])) _
    refine XS.iconst X0.here hx rfl (hb hby d4_12) ?_
    show Steps p.tables e below (T0.setTop (mkF m 13 #[.val (.ref a0), .val (.int i1)] [(.int (1 : Int32))])) _
    refine XS.goto X0.here hx rfl (pc0 := 13) (pc' := 17) rfl (hb hby d4_13) (by decide) (by decide) ?_
    show Steps p.tables e below (T0.setTop (mkF m 17 #[.val (.ref a0), .val (.int i1)] [(.int (1 : Int32))])) _
    exact retN X0 hx (t := .boolean) hret (by simp) (hb hby d4_17) hr
  · have pre2 : ∀ target, Steps p.tables e below (T0.setTop (mkF m 9 #[.val (.ref a0), .val (.int i1)] [(.int (115 : Int32)), (.int i1)])) target → Steps p.tables e below (T0.setTop (mkF m 0 #[.val (.ref a0), .val (.int i1)] [])) target := by
      intro target kt
      refine pre1 target ?_
      show Steps p.tables e below (T0.setTop (mkF m 3 #[.val (.ref a0), .val (.int i1)] [(.int (114 : Int32)), (.int i1)])) _
      refine XS.icmpNo X0.here hx rfl (hb hby d4_3) rfl (feq hc3).1 ?_
      show Steps p.tables e below (T0.setTop (mkF m 6 #[.val (.ref a0), .val (.int i1)] [])) _
      refine XS.iloadN X0.here hx rfl (hb hby d4_6) rfl ?_
      show Steps p.tables e below (T0.setTop (mkF m 7 #[.val (.ref a0), .val (.int i1)] [(.int i1)])) _
      refine XS.bipush X0.here hx rfl (hb hby d4_7) ?_
      exact kt
    by_cases hc9 : i1 = (115 : Int32)
    · refine ⟨T0, X0, e0, fun fs hr => ?_⟩
      have hv : (own_f4_0 i1) = (1 : Int32) := by unfold own_f4_0; rw [if_neg hc3, if_pos hc9]
      rw [hv] at hr
      refine pre2 _ ?_
      show Steps p.tables e below (T0.setTop (mkF m 9 #[.val (.ref a0), .val (.int i1)] [(.int (115 : Int32)), (.int i1)])) _
      refine XS.icmpNo X0.here hx rfl (hb hby d4_9) rfl (teq hc9).2 ?_
      show Steps p.tables e below (T0.setTop (mkF m 12 #[.val (.ref a0), .val (.int i1)] [])) _
      refine XS.iconst X0.here hx rfl (hb hby d4_12) ?_
      show Steps p.tables e below (T0.setTop (mkF m 13 #[.val (.ref a0), .val (.int i1)] [(.int (1 : Int32))])) _
      refine XS.goto X0.here hx rfl (pc0 := 13) (pc' := 17) rfl (hb hby d4_13) (by decide) (by decide) ?_
      show Steps p.tables e below (T0.setTop (mkF m 17 #[.val (.ref a0), .val (.int i1)] [(.int (1 : Int32))])) _
      exact retN X0 hx (t := .boolean) hret (by simp) (hb hby d4_17) hr
    · refine ⟨T0, X0, e0, fun fs hr => ?_⟩
      have hv : (own_f4_0 i1) = (0 : Int32) := by unfold own_f4_0; rw [if_neg hc3, if_neg hc9]
      rw [hv] at hr
      refine pre2 _ ?_
      show Steps p.tables e below (T0.setTop (mkF m 9 #[.val (.ref a0), .val (.int i1)] [(.int (115 : Int32)), (.int i1)])) _
      refine XS.icmpYes X0.here hx rfl (pc0 := 9) (pc' := 16) rfl (hb hby d4_9) rfl (feq hc9).2 (by decide) (by decide) ?_
      show Steps p.tables e below (T0.setTop (mkF m 16 #[.val (.ref a0), .val (.int i1)] [])) _
      refine XS.iconst X0.here hx rfl (hb hby d4_16) ?_
      show Steps p.tables e below (T0.setTop (mkF m 17 #[.val (.ref a0), .val (.int i1)] [(.int (0 : Int32))])) _
      exact retN X0 hx (t := .boolean) hret (by simp) (hb hby d4_17) hr
def Q4 (Z : State) (a0 : Addr) (i1 : Int32) (h0 : Heap) (n0 : Nat) (v : Option Value) (h : Heap) (L : List Loc) : Prop := v = some (.int (own_f4_0 i1)) ∧ L = [] ∧ h = h0
set_option maxRecDepth 65536 in
set_option maxHeartbeats 40000000 in
theorem rm4 (l : Launch) (Z : State) (a0_ : Array Value) (hw : ∀ d ∈ tables_1, d.before a0_ Z = true) (ws : List Jvm.Cond) (a0 : Addr) (i1 : Int32) (h0 : Heap) (n0 : Nat) (Z0 : n0 ≤ h0.size)  :
    MetFree l (⟨"com/example/vedette/vedette/links/IntermarcAuthorityLinkRules", "keepsFromLink", "(C)Z"⟩ : MethodName) (head1 (Jvm.Cond.code (⟨"com/example/vedette/vedette/links/IntermarcAuthorityLinkRules", "keepsFromLink", "(C)Z"⟩ : MethodName) prog_55_method_6_code 2 (some .boolean) :: ws) ({ frames := 0, cells := 0, slots := 0, locals := 0 } : Room)) (fun a U => a = #[(.ref a0), (.int i1)] ∧ Z.Warmed39 U.vm ∧ U.heap = h0) (fun _ _ _ _ _ => True) (fun _ U o U' => ∃ v L, o = .returned v ∧ Q4 Z a0 i1 h0 n0 v U'.heap L ∧ FrameEnd U o U' L ({ frames := 0, cells := 0, slots := 0, locals := 0 } : Room).cells ({ frames := 0, cells := 0, slots := 0, locals := 0 } : Room).slots) := by
  refine MetFree.of_bodySF (plainFor_of_name pn_4) hisR ?_
  intro p e s m args below meth c s₁ Bd hml0 hP hK
  obtain ⟨rfl, hZ, hh⟩ := hP
  have hx := Bd.exec
  have hby := Bd.bytes
  have hml : c.maxLocals = 2 := hml0
  have hown : s.vm.findClass "com/example/vedette/vedette/links/IntermarcAuthorityLinkRules" = some m.cls := findClass_of_methodNamed Bd.named
  have X0 : Stand p l e ({ frames := 0, cells := 0, slots := 0, locals := 0 } : Room) s m #[(.ref a0), (.int i1)] below meth c s₁ [] 0 0 := Stand.of_body Bd
  have e0 : s₁.heap = h0 := by rw [← hh, Bd.state]; rfl
  obtain ⟨T', X', e', st'⟩ := own_b4_0 hx hZ hw hby hml hown Bd.returns  a0 i1 X0 e0 (by decide) (by decide) 
  obtain ⟨fs, hr, hrun, hended, hW, hsame⟩ := X'.leave (v := some (.int (own_f4_0 i1))) (fun h => by rw [Bd.returns] at h; cases h)
  refine ⟨_, _, castTop (ef_4 m a0 i1) (st' fs hr), hrun, hended, _, _, rfl, ?_, ⟨_, rfl⟩, hW, hsame.mono (by decide) (by decide)⟩
  exact ⟨rfl, rfl, e'⟩
theorem pn_0 : plainName "com/example/vedette/vedette/links/IntermarcAuthorityLinkRulesCarriesToReciprocalPinLaw" = true := by first | (simp [plainName, overriddenIn]; done) | decide +kernel
theorem pd_0_0 : parseMethodDescriptor "()V" = some ⟨[], none⟩ := by decide +kernel
theorem pd_0_1 : parseMethodDescriptor "(C)Z" = some ⟨[.char], some .boolean⟩ := by decide +kernel
theorem ef_0 (m : MethodId) (i0 : Int32) (i1 : Int32) : entryFrame m #[(.int i0), (.int i1)] maxLocals = mkF m 0 #[.val (.int i0), .val (.int i1), .unset, .unset, .unset, .unset, .unset, .unset] [] := by first | (simp [entryFrame, mkF, argsToLocals, Value.category, maxLocals]; done) | rfl
def own_f0_101 (i0 : Int32) (i1 : Int32) (i2 : Int32) (i3 : Int32) (i5 : Int32) (i6 : Int32) (u0 : Int32) : Int32 :=
  (if i5 = u0 then (if i5 = (0 : Int32) then (1 : Int32) else (if i6 = (0 : Int32) then (0 : Int32) else (1 : Int32))) else (0 : Int32))
def own_f0_65 (i0 : Int32) (i1 : Int32) (i2 : Int32) (i3 : Int32) : Int32 :=
  (if i3 = (115 : Int32) then (own_f0_101 i0 i1 i2 i3 (own_f3_0 i3) (own_f4_0 i3) (1 : Int32)) else (own_f0_101 i0 i1 i2 i3 (own_f3_0 i3) (own_f4_0 i3) (0 : Int32)))
def own_f0_0 (i0 : Int32) (i1 : Int32) : Int32 :=
  (if (i0 &&& (7 : Int32)) = (0 : Int32) then (own_f0_65 i0 i1 (i0 &&& (7 : Int32)) (115 : Int32)) else (if (i0 &&& (7 : Int32)) = (1 : Int32) then (own_f0_65 i0 i1 (i0 &&& (7 : Int32)) (114 : Int32)) else (if (i0 &&& (7 : Int32)) = (2 : Int32) then (own_f0_65 i0 i1 (i0 &&& (7 : Int32)) (83 : Int32)) else (if (i0 &&& (7 : Int32)) = (3 : Int32) then (own_f0_65 i0 i1 (i0 &&& (7 : Int32)) (116 : Int32)) else (if (i0 &&& (7 : Int32)) = (4 : Int32) then (own_f0_65 i0 i1 (i0 &&& (7 : Int32)) (51 : Int32)) else (own_f0_65 i0 i1 (i0 &&& (7 : Int32)) ((i1 &&& (65535 : Int32)).toUInt32.toUInt16.toUInt32.toInt32)))))))
set_option maxRecDepth 65536 in
set_option maxHeartbeats 40000000 in
theorem own_b0_101 {p : Program} {l : Launch} {e : Env} {s : State} {m : MethodId} {args : Array Value} {below : List Frame} {meth : Method} {c : Code} {Z : State} {a0_ : Array Value} {n0 : Nat} (hx : p.tables.exec = Jvm.exec) (hZ : Z.Warmed39 s.vm) (hw : ∀ d ∈ tables_1, d.before a0_ Z = true) (hby : c.code = code) (hml : c.maxLocals = 8) (hown : s.vm.findClass "com/example/vedette/vedette/links/IntermarcAuthorityLinkRulesCarriesToReciprocalPinLaw" = some m.cls) (hret : meth.sig.returnType = some .boolean) {T0 : State} {locs : List Loc} {h0 : Heap} (i0 : Int32) (i1 : Int32) (i2 : Int32) (i3 : Int32) (a4 : Addr) (i5 : Int32) (i6 : Int32) (u0 : Int32)
    (X0 : Stand p l e room_1 s m args below meth c T0 locs 1 0) (e0 : T0.heap = h0) (N0 : Fr n0 locs) (Z0 : n0 ≤ h0.size) (g_a4 : n0 ≤ a4) (E_a4 : Exa Z h0 a4 "com/example/vedette/vedette/links/IntermarcAuthorityLinkRules") :
    ∃ T' locs' cells' slots', Stand p l e room_1 s m args below meth c T' locs' cells' slots' ∧ Fr n0 locs' ∧ cells' ≤ room_1.cells ∧ slots' ≤ room_1.slots ∧ ∀ fs, (∀ (f : JFrame) (acts : List Action), f.method = m → f.locked = none → f.entered = [] → (doReturn e (T'.setTop f) acts (some (.int (own_f0_101 i0 i1 i2 i3 i5 i6 u0)))).1 = T'.setFrames fs) → Steps p.tables e below (T0.setTop (mkF m 101 #[.val (.int i0), .val (.int i1), .val (.int i2), .val (.int i3), .val (.ref a4), .val (.int i5), .val (.int i6), .unset] [(.int u0)])) (T'.setFrames fs) := by
  have pre1 : ∀ target, Steps p.tables e below (T0.setTop (mkF m 107 #[.val (.int i0), .val (.int i1), .val (.int i2), .val (.int i3), .val (.ref a4), .val (.int i5), .val (.int i6), .val (.int u0)] [(.int u0), (.int i5)])) target → Steps p.tables e below (T0.setTop (mkF m 101 #[.val (.int i0), .val (.int i1), .val (.int i2), .val (.int i3), .val (.ref a4), .val (.int i5), .val (.int i6), .unset] [(.int u0)])) target := by
    intro target kt
    show Steps p.tables e below (T0.setTop (mkF m 101 #[.val (.int i0), .val (.int i1), .val (.int i2), .val (.int i3), .val (.ref a4), .val (.int i5), .val (.int i6), .unset] [(.int u0)])) _
    refine XS.istore X0.here hx rfl (hb hby at_101) rfl (l' := #[.val (.int i0), .val (.int i1), .val (.int i2), .val (.int i3), .val (.ref a4), .val (.int i5), .val (.int i6), .val (.int u0)]) rfl ?_
    show Steps p.tables e below (T0.setTop (mkF m 103 #[.val (.int i0), .val (.int i1), .val (.int i2), .val (.int i3), .val (.ref a4), .val (.int i5), .val (.int i6), .val (.int u0)] [])) _
    refine XS.iload X0.here hx rfl (hb hby at_103) rfl ?_
    show Steps p.tables e below (T0.setTop (mkF m 105 #[.val (.int i0), .val (.int i1), .val (.int i2), .val (.int i3), .val (.ref a4), .val (.int i5), .val (.int i6), .val (.int u0)] [(.int i5)])) _
    refine XS.iload X0.here hx rfl (hb hby at_105) rfl ?_
    exact kt
  by_cases hc107 : i5 = u0
  · have pre2 : ∀ target, Steps p.tables e below (T0.setTop (mkF m 112 #[.val (.int i0), .val (.int i1), .val (.int i2), .val (.int i3), .val (.ref a4), .val (.int i5), .val (.int i6), .val (.int u0)] [(.int i5)])) target → Steps p.tables e below (T0.setTop (mkF m 101 #[.val (.int i0), .val (.int i1), .val (.int i2), .val (.int i3), .val (.ref a4), .val (.int i5), .val (.int i6), .unset] [(.int u0)])) target := by
      intro target kt
      refine pre1 target ?_
      show Steps p.tables e below (T0.setTop (mkF m 107 #[.val (.int i0), .val (.int i1), .val (.int i2), .val (.int i3), .val (.ref a4), .val (.int i5), .val (.int i6), .val (.int u0)] [(.int u0), (.int i5)])) _
      refine XS.icmpNo X0.here hx rfl (hb hby at_107) rfl (teq hc107).2 ?_
      show Steps p.tables e below (T0.setTop (mkF m 110 #[.val (.int i0), .val (.int i1), .val (.int i2), .val (.int i3), .val (.ref a4), .val (.int i5), .val (.int i6), .val (.int u0)] [])) _
      refine XS.iload X0.here hx rfl (hb hby at_110) rfl ?_
      exact kt
    by_cases hc112 : i5 = (0 : Int32)
    · refine ⟨T0, _, _, _, X0, N0, (by decide), (by decide), fun fs hr => ?_⟩
      have hv : (own_f0_101 i0 i1 i2 i3 i5 i6 u0) = (1 : Int32) := by unfold own_f0_101; rw [if_pos hc107, if_pos hc112]
      rw [hv] at hr
      refine pre2 _ ?_
      show Steps p.tables e below (T0.setTop (mkF m 112 #[.val (.int i0), .val (.int i1), .val (.int i2), .val (.int i3), .val (.ref a4), .val (.int i5), .val (.int i6), .val (.int u0)] [(.int i5)])) _
      refine XS.ifYes X0.here hx rfl (pc0 := 112) (pc' := 120) rfl (hb hby at_112) rfl ((if0 _ _).trans (teq hc112).1) (by decide) (by decide) ?_
      show Steps p.tables e below (T0.setTop (mkF m 120 #[.val (.int i0), .val (.int i1), .val (.int i2), .val (.int i3), .val (.ref a4), .val (.int i5), .val (.int i6), .val (.int u0)] [])) _
      refine XS.iconst X0.here hx rfl (hb hby at_120) ?_
      show Steps p.tables e below (T0.setTop (mkF m 121 #[.val (.int i0), .val (.int i1), .val (.int i2), .val (.int i3), .val (.ref a4), .val (.int i5), .val (.int i6), .val (.int u0)] [(.int (1 : Int32))])) _
      refine XS.goto X0.here hx rfl (pc0 := 121) (pc' := 125) rfl (hb hby at_121) (by decide) (by decide) ?_
      show Steps p.tables e below (T0.setTop (mkF m 125 #[.val (.int i0), .val (.int i1), .val (.int i2), .val (.int i3), .val (.ref a4), .val (.int i5), .val (.int i6), .val (.int u0)] [(.int (1 : Int32))])) _
      exact retN X0 hx (t := .boolean) hret (by simp) (hb hby at_125) hr
    · have pre3 : ∀ target, Steps p.tables e below (T0.setTop (mkF m 117 #[.val (.int i0), .val (.int i1), .val (.int i2), .val (.int i3), .val (.ref a4), .val (.int i5), .val (.int i6), .val (.int u0)] [(.int i6)])) target → Steps p.tables e below (T0.setTop (mkF m 101 #[.val (.int i0), .val (.int i1), .val (.int i2), .val (.int i3), .val (.ref a4), .val (.int i5), .val (.int i6), .unset] [(.int u0)])) target := by
        intro target kt
        refine pre2 target ?_
        show Steps p.tables e below (T0.setTop (mkF m 112 #[.val (.int i0), .val (.int i1), .val (.int i2), .val (.int i3), .val (.ref a4), .val (.int i5), .val (.int i6), .val (.int u0)] [(.int i5)])) _
        refine XS.ifNo X0.here hx rfl (hb hby at_112) rfl ((if0 _ _).trans (feq hc112).1) ?_
        show Steps p.tables e below (T0.setTop (mkF m 115 #[.val (.int i0), .val (.int i1), .val (.int i2), .val (.int i3), .val (.ref a4), .val (.int i5), .val (.int i6), .val (.int u0)] [])) _
        refine XS.iload X0.here hx rfl (hb hby at_115) rfl ?_
        exact kt
      by_cases hc117 : i6 = (0 : Int32)
      · refine ⟨T0, _, _, _, X0, N0, (by decide), (by decide), fun fs hr => ?_⟩
        have hv : (own_f0_101 i0 i1 i2 i3 i5 i6 u0) = (0 : Int32) := by unfold own_f0_101; rw [if_pos hc107, if_neg hc112, if_pos hc117]
        rw [hv] at hr
        refine pre3 _ ?_
        show Steps p.tables e below (T0.setTop (mkF m 117 #[.val (.int i0), .val (.int i1), .val (.int i2), .val (.int i3), .val (.ref a4), .val (.int i5), .val (.int i6), .val (.int u0)] [(.int i6)])) _
        refine XS.ifYes X0.here hx rfl (pc0 := 117) (pc' := 124) rfl (hb hby at_117) rfl ((if0 _ _).trans (teq hc117).1) (by decide) (by decide) ?_
        show Steps p.tables e below (T0.setTop (mkF m 124 #[.val (.int i0), .val (.int i1), .val (.int i2), .val (.int i3), .val (.ref a4), .val (.int i5), .val (.int i6), .val (.int u0)] [])) _
        refine XS.iconst X0.here hx rfl (hb hby at_124) ?_
        show Steps p.tables e below (T0.setTop (mkF m 125 #[.val (.int i0), .val (.int i1), .val (.int i2), .val (.int i3), .val (.ref a4), .val (.int i5), .val (.int i6), .val (.int u0)] [(.int (0 : Int32))])) _
        exact retN X0 hx (t := .boolean) hret (by simp) (hb hby at_125) hr
      · refine ⟨T0, _, _, _, X0, N0, (by decide), (by decide), fun fs hr => ?_⟩
        have hv : (own_f0_101 i0 i1 i2 i3 i5 i6 u0) = (1 : Int32) := by unfold own_f0_101; rw [if_pos hc107, if_neg hc112, if_neg hc117]
        rw [hv] at hr
        refine pre3 _ ?_
        show Steps p.tables e below (T0.setTop (mkF m 117 #[.val (.int i0), .val (.int i1), .val (.int i2), .val (.int i3), .val (.ref a4), .val (.int i5), .val (.int i6), .val (.int u0)] [(.int i6)])) _
        refine XS.ifNo X0.here hx rfl (hb hby at_117) rfl ((if0 _ _).trans (feq hc117).1) ?_
        show Steps p.tables e below (T0.setTop (mkF m 120 #[.val (.int i0), .val (.int i1), .val (.int i2), .val (.int i3), .val (.ref a4), .val (.int i5), .val (.int i6), .val (.int u0)] [])) _
        refine XS.iconst X0.here hx rfl (hb hby at_120) ?_
        show Steps p.tables e below (T0.setTop (mkF m 121 #[.val (.int i0), .val (.int i1), .val (.int i2), .val (.int i3), .val (.ref a4), .val (.int i5), .val (.int i6), .val (.int u0)] [(.int (1 : Int32))])) _
        refine XS.goto X0.here hx rfl (pc0 := 121) (pc' := 125) rfl (hb hby at_121) (by decide) (by decide) ?_
        show Steps p.tables e below (T0.setTop (mkF m 125 #[.val (.int i0), .val (.int i1), .val (.int i2), .val (.int i3), .val (.ref a4), .val (.int i5), .val (.int i6), .val (.int u0)] [(.int (1 : Int32))])) _
        exact retN X0 hx (t := .boolean) hret (by simp) (hb hby at_125) hr
  · refine ⟨T0, _, _, _, X0, N0, (by decide), (by decide), fun fs hr => ?_⟩
    have hv : (own_f0_101 i0 i1 i2 i3 i5 i6 u0) = (0 : Int32) := by unfold own_f0_101; rw [if_neg hc107]
    rw [hv] at hr
    refine pre1 _ ?_
    show Steps p.tables e below (T0.setTop (mkF m 107 #[.val (.int i0), .val (.int i1), .val (.int i2), .val (.int i3), .val (.ref a4), .val (.int i5), .val (.int i6), .val (.int u0)] [(.int u0), (.int i5)])) _
    refine XS.icmpYes X0.here hx rfl (pc0 := 107) (pc' := 124) rfl (hb hby at_107) rfl (feq hc107).2 (by decide) (by decide) ?_
    show Steps p.tables e below (T0.setTop (mkF m 124 #[.val (.int i0), .val (.int i1), .val (.int i2), .val (.int i3), .val (.ref a4), .val (.int i5), .val (.int i6), .val (.int u0)] [])) _
    refine XS.iconst X0.here hx rfl (hb hby at_124) ?_
    show Steps p.tables e below (T0.setTop (mkF m 125 #[.val (.int i0), .val (.int i1), .val (.int i2), .val (.int i3), .val (.ref a4), .val (.int i5), .val (.int i6), .val (.int u0)] [(.int (0 : Int32))])) _
    exact retN X0 hx (t := .boolean) hret (by simp) (hb hby at_125) hr
set_option maxRecDepth 65536 in
set_option maxHeartbeats 40000000 in
theorem own_b0_65 {p : Program} {l : Launch} {e : Env} {s : State} {m : MethodId} {args : Array Value} {below : List Frame} {meth : Method} {c : Code} {Z : State} {a0_ : Array Value} {n0 : Nat} (hx : p.tables.exec = Jvm.exec) (hZ : Z.Warmed39 s.vm) (hw : ∀ d ∈ tables_1, d.before a0_ Z = true) (hby : c.code = code) (hml : c.maxLocals = 8) (hown : s.vm.findClass "com/example/vedette/vedette/links/IntermarcAuthorityLinkRulesCarriesToReciprocalPinLaw" = some m.cls) (hret : meth.sig.returnType = some .boolean) {T0 : State} {locs : List Loc} {h0 : Heap} (i0 : Int32) (i1 : Int32) (i2 : Int32) (i3 : Int32)
    (X0 : Stand p l e room_1 s m args below meth c T0 locs 0 0) (e0 : T0.heap = h0) (N0 : Fr n0 locs) (Z0 : n0 ≤ h0.size)  :
    ∃ T' locs' cells' slots', Stand p l e room_1 s m args below meth c T' locs' cells' slots' ∧ Fr n0 locs' ∧ cells' ≤ room_1.cells ∧ slots' ≤ room_1.slots ∧ ∀ fs, (∀ (f : JFrame) (acts : List Action), f.method = m → f.locked = none → f.entered = [] → (doReturn e (T'.setTop f) acts (some (.int (own_f0_65 i0 i1 i2 i3)))).1 = T'.setFrames fs) → Steps p.tables e below (T0.setTop (mkF m 65 #[.val (.int i0), .val (.int i1), .val (.int i2), .val (.int i3), .unset, .unset, .unset, .unset] [])) (T'.setFrames fs) := by
  obtain ⟨T1, h1, X1, e1, E1, A1, D1, -, st1⟩ := newO X0 hx hZ hown (hw _ (List.mem_of_getElem? (i := 0) rfl)) (hw _ (List.mem_of_getElem? (i := 1) rfl)) (hw _ (List.mem_of_getElem? (i := 2) rfl)) e0 (g := (mkF m 65 #[.val (.int i0), .val (.int i1), .val (.int i2), .val (.int i3), .unset, .unset, .unset, .unset] [])) rfl (hb hby at_65) (by decide) (by decide)
  obtain ⟨b1, g1⟩ : ∃ z, z = h0.size := ⟨_, rfl⟩
  rw [← g1] at A1 D1 st1
  have g_b1 : n0 ≤ b1 := Nat.le_trans Z0 (Nat.le_of_eq g1.symm)
  have Z1 : n0 ≤ h1.size := Nat.le_trans Z0 E1.1
  obtain ⟨_, _, ⟨T2, L2, k2, n2⟩, -, X2, ⟨Lc2, hQ2, l2, y2, z2⟩, st2⟩ := X1.specialBack hx (y := (⟨"com/example/vedette/vedette/links/IntermarcAuthorityLinkRules", "<init>", "()V"⟩ : MethodName)) rfl hown (mvT hZ (hw _ (List.mem_of_getElem? (i := 3) rfl))) (mvT hZ (hw _ (List.mem_of_getElem? (i := 4) rfl))) (mvT hZ (hw _ (List.mem_of_getElem? (i := 5) rfl))) (by decide) (backOf (W := 1) (rm1 l Z a0_ hw [] b1  h1 n0 Z1 ) hZ (hw _ (List.mem_of_getElem? (i := 5) rfl)) (hw _ (List.mem_of_getElem? (i := 2) rfl)) (by decide) (by decide)) (g := (mkF m 69 #[.val (.int i0), .val (.int i1), .val (.int i2), .val (.int i3), .unset, .unset, .unset, .unset] [(.ref b1), (.ref b1)])) rfl (by rw [hml]; rfl) (Steps.refl _) (a := b1) (argsL := []) (rest := [(.ref b1)]) (lenOf pd_0_0 rfl) rfl (by show 2 * 0 + _ ≤ _; exact Nat.le_of_eq rfl) (hb hby at_69) (fun _ _ => ⟨rfl, e1, (by decide : 1 + 0 ≤ room_1.cells), (by decide : 0 + 0 ≤ room_1.slots)⟩)
  dsimp only [Pt.U, Pt.locs, Pt.cells, Pt.slots] at X2 l2 y2 z2 st2 hQ2
  subst l2 y2 z2
  obtain ⟨rfl, rfl, e2⟩ := hQ2
  rw [List.append_nil] at X2
  obtain ⟨cq3, kq3, q3a, q3b, q3c⟩ := isOf hZ e2 A1
  obtain ⟨_, _, ⟨T3, L3, k3, n3⟩, -, X3, ⟨Lc3, hQ3, l3, y3, z3⟩, st3⟩ := X2.virtualBack hx (y := (⟨"com/example/vedette/vedette/links/IntermarcAuthorityLinkRules", "carriesToReciprocal", "(C)Z"⟩ : MethodName)) (z := (⟨"com/example/vedette/vedette/links/IntermarcAuthorityLinkRules", "carriesToReciprocal", "(C)Z"⟩ : MethodName)) hown (mvT hZ (hw _ (List.mem_of_getElem? (i := 9) rfl))) (mvT hZ (hw _ (List.mem_of_getElem? (i := 10) rfl))) (notFace_of_selects (args := #[]) (mvT hZ (hw _ (List.mem_of_getElem? (i := 12) rfl)))) (mvT hZ (hw _ (List.mem_of_getElem? (i := 12) rfl))) (mvT hZ (hw _ (List.mem_of_getElem? (i := 11) rfl))) (by decide) (backOf (W := 0) (rm3 l Z a0_ hw [] b1 i3  h1 n0 Z1 ) hZ (hw _ (List.mem_of_getElem? (i := 13) rfl)) (hw _ (List.mem_of_getElem? (i := 2) rfl)) (by decide) (by decide)) q3a q3c (g := (mkF m 77 #[.val (.int i0), .val (.int i1), .val (.int i2), .val (.int i3), .val (.ref b1), .unset, .unset, .unset] [(.int i3), (.ref b1)])) rfl (by rw [hml]; rfl) (Steps.refl _) (argsL := [(.int i3)]) (rest := []) (lenOf pd_0_1 rfl) rfl (by show 2 * 0 + _ ≤ _; exact Nat.le_of_eq rfl) (hb hby at_77) (fun _ _ => ⟨rfl, e2, (by decide : 1 + 0 ≤ room_1.cells), (by decide : 0 + 0 ≤ room_1.slots)⟩)
  dsimp only [Pt.U, Pt.locs, Pt.cells, Pt.slots] at X3 l3 y3 z3 st3 hQ3
  subst l3 y3 z3
  obtain ⟨rfl, rfl, e3⟩ := hQ3
  rw [List.append_nil] at X3
  obtain ⟨cq4, kq4, q4a, q4b, q4c⟩ := isOf hZ e3 A1
  obtain ⟨_, _, ⟨T4, L4, k4, n4⟩, -, X4, ⟨Lc4, hQ4, l4, y4, z4⟩, st4⟩ := X3.virtualBack hx (y := (⟨"com/example/vedette/vedette/links/IntermarcAuthorityLinkRules", "keepsFromLink", "(C)Z"⟩ : MethodName)) (z := (⟨"com/example/vedette/vedette/links/IntermarcAuthorityLinkRules", "keepsFromLink", "(C)Z"⟩ : MethodName)) hown (mvT hZ (hw _ (List.mem_of_getElem? (i := 14) rfl))) (mvT hZ (hw _ (List.mem_of_getElem? (i := 15) rfl))) (notFace_of_selects (args := #[]) (mvT hZ (hw _ (List.mem_of_getElem? (i := 17) rfl)))) (mvT hZ (hw _ (List.mem_of_getElem? (i := 17) rfl))) (mvT hZ (hw _ (List.mem_of_getElem? (i := 16) rfl))) (by decide) (backOf (W := 0) (rm4 l Z a0_ hw [] b1 i3  h1 n0 Z1 ) hZ (hw _ (List.mem_of_getElem? (i := 18) rfl)) (hw _ (List.mem_of_getElem? (i := 2) rfl)) (by decide) (by decide)) q4a q4c (g := (mkF m 85 #[.val (.int i0), .val (.int i1), .val (.int i2), .val (.int i3), .val (.ref b1), .val (.int (own_f3_0 i3)), .unset, .unset] [(.int i3), (.ref b1)])) rfl (by rw [hml]; rfl) (Steps.refl _) (argsL := [(.int i3)]) (rest := []) (lenOf pd_0_1 rfl) rfl (by show 2 * 0 + _ ≤ _; exact Nat.le_of_eq rfl) (hb hby at_85) (fun _ _ => ⟨rfl, e3, (by decide : 1 + 0 ≤ room_1.cells), (by decide : 0 + 0 ≤ room_1.slots)⟩)
  dsimp only [Pt.U, Pt.locs, Pt.cells, Pt.slots] at X4 l4 y4 z4 st4 hQ4
  subst l4 y4 z4
  obtain ⟨rfl, rfl, e4⟩ := hQ4
  rw [List.append_nil] at X4
  have pre5 : ∀ target, Steps p.tables e below (T4.setTop (mkF m 93 #[.val (.int i0), .val (.int i1), .val (.int i2), .val (.int i3), .val (.ref b1), .val (.int (own_f3_0 i3)), .val (.int (own_f4_0 i3)), .unset] [(.int (115 : Int32)), (.int i3)])) target → Steps p.tables e below (T0.setTop (mkF m 65 #[.val (.int i0), .val (.int i1), .val (.int i2), .val (.int i3), .unset, .unset, .unset, .unset] [])) target := by
    intro target kt
    show Steps p.tables e below (T0.setTop (mkF m 65 #[.val (.int i0), .val (.int i1), .val (.int i2), .val (.int i3), .unset, .unset, .unset, .unset] [])) _
    refine st1 _ ?_
    show Steps p.tables e below (T1.setTop (mkF m 68 #[.val (.int i0), .val (.int i1), .val (.int i2), .val (.int i3), .unset, .unset, .unset, .unset] [(.ref b1)])) _
    refine XS.dup X1.here hx rfl (hb hby at_68) rfl rfl ?_
    show Steps p.tables e below (T1.setTop (mkF m 69 #[.val (.int i0), .val (.int i1), .val (.int i2), .val (.int i3), .unset, .unset, .unset, .unset] [(.ref b1), (.ref b1)])) _
    refine st2.trans ?_
    show Steps p.tables e below (T2.setTop (mkF m 72 #[.val (.int i0), .val (.int i1), .val (.int i2), .val (.int i3), .unset, .unset, .unset, .unset] [(.ref b1)])) _
    refine XS.astore X2.here hx rfl (hb hby at_72) rfl rfl (l' := #[.val (.int i0), .val (.int i1), .val (.int i2), .val (.int i3), .val (.ref b1), .unset, .unset, .unset]) rfl ?_
    show Steps p.tables e below (T2.setTop (mkF m 74 #[.val (.int i0), .val (.int i1), .val (.int i2), .val (.int i3), .val (.ref b1), .unset, .unset, .unset] [])) _
    refine XS.aload X2.here hx rfl (hb hby at_74) rfl rfl ?_
    show Steps p.tables e below (T2.setTop (mkF m 76 #[.val (.int i0), .val (.int i1), .val (.int i2), .val (.int i3), .val (.ref b1), .unset, .unset, .unset] [(.ref b1)])) _
    refine XS.iloadN X2.here hx rfl (hb hby at_76) rfl ?_
    show Steps p.tables e below (T2.setTop (mkF m 77 #[.val (.int i0), .val (.int i1), .val (.int i2), .val (.int i3), .val (.ref b1), .unset, .unset, .unset] [(.int i3), (.ref b1)])) _
    refine st3.trans ?_
    show Steps p.tables e below (T3.setTop (mkF m 80 #[.val (.int i0), .val (.int i1), .val (.int i2), .val (.int i3), .val (.ref b1), .unset, .unset, .unset] [(.int (own_f3_0 i3))])) _
    refine XS.istore X3.here hx rfl (hb hby at_80) rfl (l' := #[.val (.int i0), .val (.int i1), .val (.int i2), .val (.int i3), .val (.ref b1), .val (.int (own_f3_0 i3)), .unset, .unset]) rfl ?_
    show Steps p.tables e below (T3.setTop (mkF m 82 #[.val (.int i0), .val (.int i1), .val (.int i2), .val (.int i3), .val (.ref b1), .val (.int (own_f3_0 i3)), .unset, .unset] [])) _
    refine XS.aload X3.here hx rfl (hb hby at_82) rfl rfl ?_
    show Steps p.tables e below (T3.setTop (mkF m 84 #[.val (.int i0), .val (.int i1), .val (.int i2), .val (.int i3), .val (.ref b1), .val (.int (own_f3_0 i3)), .unset, .unset] [(.ref b1)])) _
    refine XS.iloadN X3.here hx rfl (hb hby at_84) rfl ?_
    show Steps p.tables e below (T3.setTop (mkF m 85 #[.val (.int i0), .val (.int i1), .val (.int i2), .val (.int i3), .val (.ref b1), .val (.int (own_f3_0 i3)), .unset, .unset] [(.int i3), (.ref b1)])) _
    refine st4.trans ?_
    show Steps p.tables e below (T4.setTop (mkF m 88 #[.val (.int i0), .val (.int i1), .val (.int i2), .val (.int i3), .val (.ref b1), .val (.int (own_f3_0 i3)), .unset, .unset] [(.int (own_f4_0 i3))])) _
    refine XS.istore X4.here hx rfl (hb hby at_88) rfl (l' := #[.val (.int i0), .val (.int i1), .val (.int i2), .val (.int i3), .val (.ref b1), .val (.int (own_f3_0 i3)), .val (.int (own_f4_0 i3)), .unset]) rfl ?_
    show Steps p.tables e below (T4.setTop (mkF m 90 #[.val (.int i0), .val (.int i1), .val (.int i2), .val (.int i3), .val (.ref b1), .val (.int (own_f3_0 i3)), .val (.int (own_f4_0 i3)), .unset] [])) _
    refine XS.iloadN X4.here hx rfl (hb hby at_90) rfl ?_
    show Steps p.tables e below (T4.setTop (mkF m 91 #[.val (.int i0), .val (.int i1), .val (.int i2), .val (.int i3), .val (.ref b1), .val (.int (own_f3_0 i3)), .val (.int (own_f4_0 i3)), .unset] [(.int i3)])) _
    refine XS.bipush X4.here hx rfl (hb hby at_91) ?_
    exact kt
  by_cases hc93 : i3 = (115 : Int32)
  · have pre6 : ∀ target, Steps p.tables e below (T4.setTop (mkF m 101 #[.val (.int i0), .val (.int i1), .val (.int i2), .val (.int i3), .val (.ref b1), .val (.int (own_f3_0 i3)), .val (.int (own_f4_0 i3)), .unset] [(.int (1 : Int32))])) target → Steps p.tables e below (T0.setTop (mkF m 65 #[.val (.int i0), .val (.int i1), .val (.int i2), .val (.int i3), .unset, .unset, .unset, .unset] [])) target := by
      intro target kt
      refine pre5 target ?_
      show Steps p.tables e below (T4.setTop (mkF m 93 #[.val (.int i0), .val (.int i1), .val (.int i2), .val (.int i3), .val (.ref b1), .val (.int (own_f3_0 i3)), .val (.int (own_f4_0 i3)), .unset] [(.int (115 : Int32)), (.int i3)])) _
      refine XS.icmpNo X4.here hx rfl (hb hby at_93) rfl (teq hc93).2 ?_
      show Steps p.tables e below (T4.setTop (mkF m 96 #[.val (.int i0), .val (.int i1), .val (.int i2), .val (.int i3), .val (.ref b1), .val (.int (own_f3_0 i3)), .val (.int (own_f4_0 i3)), .unset] [])) _
      refine XS.iconst X4.here hx rfl (hb hby at_96) ?_
      show Steps p.tables e below (T4.setTop (mkF m 97 #[.val (.int i0), .val (.int i1), .val (.int i2), .val (.int i3), .val (.ref b1), .val (.int (own_f3_0 i3)), .val (.int (own_f4_0 i3)), .unset] [(.int (1 : Int32))])) _
      refine XS.goto X4.here hx rfl (pc0 := 97) (pc' := 101) rfl (hb hby at_97) (by decide) (by decide) ?_
      exact kt
    obtain ⟨T7, L7, k7, n7, X7, N7, hk7', hn7, st7⟩ := own_b0_101 hx hZ hw hby hml hown hret i0 i1 i2 i3 b1 (own_f3_0 i3) (own_f4_0 i3) (1 : Int32)  X4 e4 N0 Z1 g_b1 A1 
    have hv : (own_f0_65 i0 i1 i2 i3) = (own_f0_101 i0 i1 i2 i3 (own_f3_0 i3) (own_f4_0 i3) (1 : Int32)) := by unfold own_f0_65; rw [if_pos hc93]
    exact ⟨T7, L7, k7, n7, X7, N7, hk7', hn7, fun fs hr => pre6 _ (st7 fs (by rw [hv] at hr; exact hr))⟩
  · have pre8 : ∀ target, Steps p.tables e below (T4.setTop (mkF m 101 #[.val (.int i0), .val (.int i1), .val (.int i2), .val (.int i3), .val (.ref b1), .val (.int (own_f3_0 i3)), .val (.int (own_f4_0 i3)), .unset] [(.int (0 : Int32))])) target → Steps p.tables e below (T0.setTop (mkF m 65 #[.val (.int i0), .val (.int i1), .val (.int i2), .val (.int i3), .unset, .unset, .unset, .unset] [])) target := by
      intro target kt
      refine pre5 target ?_
      show Steps p.tables e below (T4.setTop (mkF m 93 #[.val (.int i0), .val (.int i1), .val (.int i2), .val (.int i3), .val (.ref b1), .val (.int (own_f3_0 i3)), .val (.int (own_f4_0 i3)), .unset] [(.int (115 : Int32)), (.int i3)])) _
      refine XS.icmpYes X4.here hx rfl (pc0 := 93) (pc' := 100) rfl (hb hby at_93) rfl (feq hc93).2 (by decide) (by decide) ?_
      show Steps p.tables e below (T4.setTop (mkF m 100 #[.val (.int i0), .val (.int i1), .val (.int i2), .val (.int i3), .val (.ref b1), .val (.int (own_f3_0 i3)), .val (.int (own_f4_0 i3)), .unset] [])) _
      refine XS.iconst X4.here hx rfl (hb hby at_100) ?_
      exact kt
    obtain ⟨T9, L9, k9, n9, X9, N9, hk9', hn9, st9⟩ := own_b0_101 hx hZ hw hby hml hown hret i0 i1 i2 i3 b1 (own_f3_0 i3) (own_f4_0 i3) (0 : Int32)  X4 e4 N0 Z1 g_b1 A1 
    have hv : (own_f0_65 i0 i1 i2 i3) = (own_f0_101 i0 i1 i2 i3 (own_f3_0 i3) (own_f4_0 i3) (0 : Int32)) := by unfold own_f0_65; rw [if_neg hc93]
    exact ⟨T9, L9, k9, n9, X9, N9, hk9', hn9, fun fs hr => pre8 _ (st9 fs (by rw [hv] at hr; exact hr))⟩
set_option maxRecDepth 65536 in
set_option maxHeartbeats 40000000 in
theorem own_b0_0 {p : Program} {l : Launch} {e : Env} {s : State} {m : MethodId} {args : Array Value} {below : List Frame} {meth : Method} {c : Code} {Z : State} {a0_ : Array Value} {n0 : Nat} (hx : p.tables.exec = Jvm.exec) (hZ : Z.Warmed39 s.vm) (hw : ∀ d ∈ tables_1, d.before a0_ Z = true) (hby : c.code = code) (hml : c.maxLocals = 8) (hown : s.vm.findClass "com/example/vedette/vedette/links/IntermarcAuthorityLinkRulesCarriesToReciprocalPinLaw" = some m.cls) (hret : meth.sig.returnType = some .boolean) {T0 : State} {locs : List Loc} {h0 : Heap} (i0 : Int32) (i1 : Int32)
    (X0 : Stand p l e room_1 s m args below meth c T0 locs 0 0) (e0 : T0.heap = h0) (N0 : Fr n0 locs) (Z0 : n0 ≤ h0.size)  :
    ∃ T' locs' cells' slots', Stand p l e room_1 s m args below meth c T' locs' cells' slots' ∧ Fr n0 locs' ∧ cells' ≤ room_1.cells ∧ slots' ≤ room_1.slots ∧ ∀ fs, (∀ (f : JFrame) (acts : List Action), f.method = m → f.locked = none → f.entered = [] → (doReturn e (T'.setTop f) acts (some (.int (own_f0_0 i0 i1)))).1 = T'.setFrames fs) → Steps p.tables e below (T0.setTop (mkF m 0 #[.val (.int i0), .val (.int i1), .unset, .unset, .unset, .unset, .unset, .unset] [])) (T'.setFrames fs) := by
  have pre1 : ∀ target, Steps p.tables e below (T0.setTop (mkF m 6 #[.val (.int i0), .val (.int i1), .val (.int (i0 &&& (7 : Int32))), .unset, .unset, .unset, .unset, .unset] [(.int (i0 &&& (7 : Int32)))])) target → Steps p.tables e below (T0.setTop (mkF m 0 #[.val (.int i0), .val (.int i1), .unset, .unset, .unset, .unset, .unset, .unset] [])) target := by
    intro target kt
    show Steps p.tables e below (T0.setTop (mkF m 0 #[.val (.int i0), .val (.int i1), .unset, .unset, .unset, .unset, .unset, .unset] [])) _
    refine XS.iloadN X0.here hx rfl (hb hby at_0) rfl ?_
    show Steps p.tables e below (T0.setTop (mkF m 1 #[.val (.int i0), .val (.int i1), .unset, .unset, .unset, .unset, .unset, .unset] [(.int i0)])) _
    refine XS.bipush X0.here hx rfl (hb hby at_1) ?_
    show Steps p.tables e below (T0.setTop (mkF m 3 #[.val (.int i0), .val (.int i1), .unset, .unset, .unset, .unset, .unset, .unset] [(.int (7 : Int32)), (.int i0)])) _
    refine XS.iand X0.here hx rfl (hb hby at_3) rfl ?_
    show Steps p.tables e below (T0.setTop (mkF m 4 #[.val (.int i0), .val (.int i1), .unset, .unset, .unset, .unset, .unset, .unset] [(.int (i0 &&& (7 : Int32)))])) _
    refine XS.istoreN X0.here hx rfl (hb hby at_4) rfl (l' := #[.val (.int i0), .val (.int i1), .val (.int (i0 &&& (7 : Int32))), .unset, .unset, .unset, .unset, .unset]) rfl ?_
    show Steps p.tables e below (T0.setTop (mkF m 5 #[.val (.int i0), .val (.int i1), .val (.int (i0 &&& (7 : Int32))), .unset, .unset, .unset, .unset, .unset] [])) _
    refine XS.iloadN X0.here hx rfl (hb hby at_5) rfl ?_
    exact kt
  by_cases hc6 : (i0 &&& (7 : Int32)) = (0 : Int32)
  · have pre2 : ∀ target, Steps p.tables e below (T0.setTop (mkF m 65 #[.val (.int i0), .val (.int i1), .val (.int (i0 &&& (7 : Int32))), .val (.int (115 : Int32)), .unset, .unset, .unset, .unset] [])) target → Steps p.tables e below (T0.setTop (mkF m 0 #[.val (.int i0), .val (.int i1), .unset, .unset, .unset, .unset, .unset, .unset] [])) target := by
      intro target kt
      refine pre1 target ?_
      show Steps p.tables e below (T0.setTop (mkF m 6 #[.val (.int i0), .val (.int i1), .val (.int (i0 &&& (7 : Int32))), .unset, .unset, .unset, .unset, .unset] [(.int (i0 &&& (7 : Int32)))])) _
      refine XS.ifNo X0.here hx rfl (hb hby at_6) rfl ((if0 _ _).trans (teq hc6).2) ?_
      show Steps p.tables e below (T0.setTop (mkF m 9 #[.val (.int i0), .val (.int i1), .val (.int (i0 &&& (7 : Int32))), .unset, .unset, .unset, .unset, .unset] [])) _
      refine XS.bipush X0.here hx rfl (hb hby at_9) ?_
      show Steps p.tables e below (T0.setTop (mkF m 11 #[.val (.int i0), .val (.int i1), .val (.int (i0 &&& (7 : Int32))), .unset, .unset, .unset, .unset, .unset] [(.int (115 : Int32))])) _
      refine XS.istoreN X0.here hx rfl (hb hby at_11) rfl (l' := #[.val (.int i0), .val (.int i1), .val (.int (i0 &&& (7 : Int32))), .val (.int (115 : Int32)), .unset, .unset, .unset, .unset]) rfl ?_
      show Steps p.tables e below (T0.setTop (mkF m 12 #[.val (.int i0), .val (.int i1), .val (.int (i0 &&& (7 : Int32))), .val (.int (115 : Int32)), .unset, .unset, .unset, .unset] [])) _
      refine XS.goto X0.here hx rfl (pc0 := 12) (pc' := 65) rfl (hb hby at_12) (by decide) (by decide) ?_
      exact kt
    obtain ⟨T3, L3, k3, n3, X3, N3, hk3', hn3, st3⟩ := own_b0_65 hx hZ hw hby hml hown hret i0 i1 (i0 &&& (7 : Int32)) (115 : Int32)  X0 e0 N0 Z0  
    have hv : (own_f0_0 i0 i1) = (own_f0_65 i0 i1 (i0 &&& (7 : Int32)) (115 : Int32)) := by unfold own_f0_0; rw [if_pos hc6]
    exact ⟨T3, L3, k3, n3, X3, N3, hk3', hn3, fun fs hr => pre2 _ (st3 fs (by rw [hv] at hr; exact hr))⟩
  · have pre4 : ∀ target, Steps p.tables e below (T0.setTop (mkF m 17 #[.val (.int i0), .val (.int i1), .val (.int (i0 &&& (7 : Int32))), .unset, .unset, .unset, .unset, .unset] [(.int (1 : Int32)), (.int (i0 &&& (7 : Int32)))])) target → Steps p.tables e below (T0.setTop (mkF m 0 #[.val (.int i0), .val (.int i1), .unset, .unset, .unset, .unset, .unset, .unset] [])) target := by
      intro target kt
      refine pre1 target ?_
      show Steps p.tables e below (T0.setTop (mkF m 6 #[.val (.int i0), .val (.int i1), .val (.int (i0 &&& (7 : Int32))), .unset, .unset, .unset, .unset, .unset] [(.int (i0 &&& (7 : Int32)))])) _
      refine XS.ifYes X0.here hx rfl (pc0 := 6) (pc' := 15) rfl (hb hby at_6) rfl ((if0 _ _).trans (feq hc6).2) (by decide) (by decide) ?_
      show Steps p.tables e below (T0.setTop (mkF m 15 #[.val (.int i0), .val (.int i1), .val (.int (i0 &&& (7 : Int32))), .unset, .unset, .unset, .unset, .unset] [])) _
      refine XS.iloadN X0.here hx rfl (hb hby at_15) rfl ?_
      show Steps p.tables e below (T0.setTop (mkF m 16 #[.val (.int i0), .val (.int i1), .val (.int (i0 &&& (7 : Int32))), .unset, .unset, .unset, .unset, .unset] [(.int (i0 &&& (7 : Int32)))])) _
      refine XS.iconst X0.here hx rfl (hb hby at_16) ?_
      exact kt
    by_cases hc17 : (i0 &&& (7 : Int32)) = (1 : Int32)
    · have pre5 : ∀ target, Steps p.tables e below (T0.setTop (mkF m 65 #[.val (.int i0), .val (.int i1), .val (.int (i0 &&& (7 : Int32))), .val (.int (114 : Int32)), .unset, .unset, .unset, .unset] [])) target → Steps p.tables e below (T0.setTop (mkF m 0 #[.val (.int i0), .val (.int i1), .unset, .unset, .unset, .unset, .unset, .unset] [])) target := by
        intro target kt
        refine pre4 target ?_
        show Steps p.tables e below (T0.setTop (mkF m 17 #[.val (.int i0), .val (.int i1), .val (.int (i0 &&& (7 : Int32))), .unset, .unset, .unset, .unset, .unset] [(.int (1 : Int32)), (.int (i0 &&& (7 : Int32)))])) _
        refine XS.icmpNo X0.here hx rfl (hb hby at_17) rfl (teq hc17).2 ?_
        show Steps p.tables e below (T0.setTop (mkF m 20 #[.val (.int i0), .val (.int i1), .val (.int (i0 &&& (7 : Int32))), .unset, .unset, .unset, .unset, .unset] [])) _
        refine XS.bipush X0.here hx rfl (hb hby at_20) ?_
        show Steps p.tables e below (T0.setTop (mkF m 22 #[.val (.int i0), .val (.int i1), .val (.int (i0 &&& (7 : Int32))), .unset, .unset, .unset, .unset, .unset] [(.int (114 : Int32))])) _
        refine XS.istoreN X0.here hx rfl (hb hby at_22) rfl (l' := #[.val (.int i0), .val (.int i1), .val (.int (i0 &&& (7 : Int32))), .val (.int (114 : Int32)), .unset, .unset, .unset, .unset]) rfl ?_
        show Steps p.tables e below (T0.setTop (mkF m 23 #[.val (.int i0), .val (.int i1), .val (.int (i0 &&& (7 : Int32))), .val (.int (114 : Int32)), .unset, .unset, .unset, .unset] [])) _
        refine XS.goto X0.here hx rfl (pc0 := 23) (pc' := 65) rfl (hb hby at_23) (by decide) (by decide) ?_
        exact kt
      obtain ⟨T6, L6, k6, n6, X6, N6, hk6', hn6, st6⟩ := own_b0_65 hx hZ hw hby hml hown hret i0 i1 (i0 &&& (7 : Int32)) (114 : Int32)  X0 e0 N0 Z0  
      have hv : (own_f0_0 i0 i1) = (own_f0_65 i0 i1 (i0 &&& (7 : Int32)) (114 : Int32)) := by unfold own_f0_0; rw [if_neg hc6, if_pos hc17]
      exact ⟨T6, L6, k6, n6, X6, N6, hk6', hn6, fun fs hr => pre5 _ (st6 fs (by rw [hv] at hr; exact hr))⟩
    · have pre7 : ∀ target, Steps p.tables e below (T0.setTop (mkF m 28 #[.val (.int i0), .val (.int i1), .val (.int (i0 &&& (7 : Int32))), .unset, .unset, .unset, .unset, .unset] [(.int (2 : Int32)), (.int (i0 &&& (7 : Int32)))])) target → Steps p.tables e below (T0.setTop (mkF m 0 #[.val (.int i0), .val (.int i1), .unset, .unset, .unset, .unset, .unset, .unset] [])) target := by
        intro target kt
        refine pre4 target ?_
        show Steps p.tables e below (T0.setTop (mkF m 17 #[.val (.int i0), .val (.int i1), .val (.int (i0 &&& (7 : Int32))), .unset, .unset, .unset, .unset, .unset] [(.int (1 : Int32)), (.int (i0 &&& (7 : Int32)))])) _
        refine XS.icmpYes X0.here hx rfl (pc0 := 17) (pc' := 26) rfl (hb hby at_17) rfl (feq hc17).2 (by decide) (by decide) ?_
        show Steps p.tables e below (T0.setTop (mkF m 26 #[.val (.int i0), .val (.int i1), .val (.int (i0 &&& (7 : Int32))), .unset, .unset, .unset, .unset, .unset] [])) _
        refine XS.iloadN X0.here hx rfl (hb hby at_26) rfl ?_
        show Steps p.tables e below (T0.setTop (mkF m 27 #[.val (.int i0), .val (.int i1), .val (.int (i0 &&& (7 : Int32))), .unset, .unset, .unset, .unset, .unset] [(.int (i0 &&& (7 : Int32)))])) _
        refine XS.iconst X0.here hx rfl (hb hby at_27) ?_
        exact kt
      by_cases hc28 : (i0 &&& (7 : Int32)) = (2 : Int32)
      · have pre8 : ∀ target, Steps p.tables e below (T0.setTop (mkF m 65 #[.val (.int i0), .val (.int i1), .val (.int (i0 &&& (7 : Int32))), .val (.int (83 : Int32)), .unset, .unset, .unset, .unset] [])) target → Steps p.tables e below (T0.setTop (mkF m 0 #[.val (.int i0), .val (.int i1), .unset, .unset, .unset, .unset, .unset, .unset] [])) target := by
          intro target kt
          refine pre7 target ?_
          show Steps p.tables e below (T0.setTop (mkF m 28 #[.val (.int i0), .val (.int i1), .val (.int (i0 &&& (7 : Int32))), .unset, .unset, .unset, .unset, .unset] [(.int (2 : Int32)), (.int (i0 &&& (7 : Int32)))])) _
          refine XS.icmpNo X0.here hx rfl (hb hby at_28) rfl (teq hc28).2 ?_
          show Steps p.tables e below (T0.setTop (mkF m 31 #[.val (.int i0), .val (.int i1), .val (.int (i0 &&& (7 : Int32))), .unset, .unset, .unset, .unset, .unset] [])) _
          refine XS.bipush X0.here hx rfl (hb hby at_31) ?_
          show Steps p.tables e below (T0.setTop (mkF m 33 #[.val (.int i0), .val (.int i1), .val (.int (i0 &&& (7 : Int32))), .unset, .unset, .unset, .unset, .unset] [(.int (83 : Int32))])) _
          refine XS.istoreN X0.here hx rfl (hb hby at_33) rfl (l' := #[.val (.int i0), .val (.int i1), .val (.int (i0 &&& (7 : Int32))), .val (.int (83 : Int32)), .unset, .unset, .unset, .unset]) rfl ?_
          show Steps p.tables e below (T0.setTop (mkF m 34 #[.val (.int i0), .val (.int i1), .val (.int (i0 &&& (7 : Int32))), .val (.int (83 : Int32)), .unset, .unset, .unset, .unset] [])) _
          refine XS.goto X0.here hx rfl (pc0 := 34) (pc' := 65) rfl (hb hby at_34) (by decide) (by decide) ?_
          exact kt
        obtain ⟨T9, L9, k9, n9, X9, N9, hk9', hn9, st9⟩ := own_b0_65 hx hZ hw hby hml hown hret i0 i1 (i0 &&& (7 : Int32)) (83 : Int32)  X0 e0 N0 Z0  
        have hv : (own_f0_0 i0 i1) = (own_f0_65 i0 i1 (i0 &&& (7 : Int32)) (83 : Int32)) := by unfold own_f0_0; rw [if_neg hc6, if_neg hc17, if_pos hc28]
        exact ⟨T9, L9, k9, n9, X9, N9, hk9', hn9, fun fs hr => pre8 _ (st9 fs (by rw [hv] at hr; exact hr))⟩
      · have pre10 : ∀ target, Steps p.tables e below (T0.setTop (mkF m 39 #[.val (.int i0), .val (.int i1), .val (.int (i0 &&& (7 : Int32))), .unset, .unset, .unset, .unset, .unset] [(.int (3 : Int32)), (.int (i0 &&& (7 : Int32)))])) target → Steps p.tables e below (T0.setTop (mkF m 0 #[.val (.int i0), .val (.int i1), .unset, .unset, .unset, .unset, .unset, .unset] [])) target := by
          intro target kt
          refine pre7 target ?_
          show Steps p.tables e below (T0.setTop (mkF m 28 #[.val (.int i0), .val (.int i1), .val (.int (i0 &&& (7 : Int32))), .unset, .unset, .unset, .unset, .unset] [(.int (2 : Int32)), (.int (i0 &&& (7 : Int32)))])) _
          refine XS.icmpYes X0.here hx rfl (pc0 := 28) (pc' := 37) rfl (hb hby at_28) rfl (feq hc28).2 (by decide) (by decide) ?_
          show Steps p.tables e below (T0.setTop (mkF m 37 #[.val (.int i0), .val (.int i1), .val (.int (i0 &&& (7 : Int32))), .unset, .unset, .unset, .unset, .unset] [])) _
          refine XS.iloadN X0.here hx rfl (hb hby at_37) rfl ?_
          show Steps p.tables e below (T0.setTop (mkF m 38 #[.val (.int i0), .val (.int i1), .val (.int (i0 &&& (7 : Int32))), .unset, .unset, .unset, .unset, .unset] [(.int (i0 &&& (7 : Int32)))])) _
          refine XS.iconst X0.here hx rfl (hb hby at_38) ?_
          exact kt
        by_cases hc39 : (i0 &&& (7 : Int32)) = (3 : Int32)
        · have pre11 : ∀ target, Steps p.tables e below (T0.setTop (mkF m 65 #[.val (.int i0), .val (.int i1), .val (.int (i0 &&& (7 : Int32))), .val (.int (116 : Int32)), .unset, .unset, .unset, .unset] [])) target → Steps p.tables e below (T0.setTop (mkF m 0 #[.val (.int i0), .val (.int i1), .unset, .unset, .unset, .unset, .unset, .unset] [])) target := by
            intro target kt
            refine pre10 target ?_
            show Steps p.tables e below (T0.setTop (mkF m 39 #[.val (.int i0), .val (.int i1), .val (.int (i0 &&& (7 : Int32))), .unset, .unset, .unset, .unset, .unset] [(.int (3 : Int32)), (.int (i0 &&& (7 : Int32)))])) _
            refine XS.icmpNo X0.here hx rfl (hb hby at_39) rfl (teq hc39).2 ?_
            show Steps p.tables e below (T0.setTop (mkF m 42 #[.val (.int i0), .val (.int i1), .val (.int (i0 &&& (7 : Int32))), .unset, .unset, .unset, .unset, .unset] [])) _
            refine XS.bipush X0.here hx rfl (hb hby at_42) ?_
            show Steps p.tables e below (T0.setTop (mkF m 44 #[.val (.int i0), .val (.int i1), .val (.int (i0 &&& (7 : Int32))), .unset, .unset, .unset, .unset, .unset] [(.int (116 : Int32))])) _
            refine XS.istoreN X0.here hx rfl (hb hby at_44) rfl (l' := #[.val (.int i0), .val (.int i1), .val (.int (i0 &&& (7 : Int32))), .val (.int (116 : Int32)), .unset, .unset, .unset, .unset]) rfl ?_
            show Steps p.tables e below (T0.setTop (mkF m 45 #[.val (.int i0), .val (.int i1), .val (.int (i0 &&& (7 : Int32))), .val (.int (116 : Int32)), .unset, .unset, .unset, .unset] [])) _
            refine XS.goto X0.here hx rfl (pc0 := 45) (pc' := 65) rfl (hb hby at_45) (by decide) (by decide) ?_
            exact kt
          obtain ⟨T12, L12, k12, n12, X12, N12, hk12', hn12, st12⟩ := own_b0_65 hx hZ hw hby hml hown hret i0 i1 (i0 &&& (7 : Int32)) (116 : Int32)  X0 e0 N0 Z0  
          have hv : (own_f0_0 i0 i1) = (own_f0_65 i0 i1 (i0 &&& (7 : Int32)) (116 : Int32)) := by unfold own_f0_0; rw [if_neg hc6, if_neg hc17, if_neg hc28, if_pos hc39]
          exact ⟨T12, L12, k12, n12, X12, N12, hk12', hn12, fun fs hr => pre11 _ (st12 fs (by rw [hv] at hr; exact hr))⟩
        · have pre13 : ∀ target, Steps p.tables e below (T0.setTop (mkF m 50 #[.val (.int i0), .val (.int i1), .val (.int (i0 &&& (7 : Int32))), .unset, .unset, .unset, .unset, .unset] [(.int (4 : Int32)), (.int (i0 &&& (7 : Int32)))])) target → Steps p.tables e below (T0.setTop (mkF m 0 #[.val (.int i0), .val (.int i1), .unset, .unset, .unset, .unset, .unset, .unset] [])) target := by
            intro target kt
            refine pre10 target ?_
            show Steps p.tables e below (T0.setTop (mkF m 39 #[.val (.int i0), .val (.int i1), .val (.int (i0 &&& (7 : Int32))), .unset, .unset, .unset, .unset, .unset] [(.int (3 : Int32)), (.int (i0 &&& (7 : Int32)))])) _
            refine XS.icmpYes X0.here hx rfl (pc0 := 39) (pc' := 48) rfl (hb hby at_39) rfl (feq hc39).2 (by decide) (by decide) ?_
            show Steps p.tables e below (T0.setTop (mkF m 48 #[.val (.int i0), .val (.int i1), .val (.int (i0 &&& (7 : Int32))), .unset, .unset, .unset, .unset, .unset] [])) _
            refine XS.iloadN X0.here hx rfl (hb hby at_48) rfl ?_
            show Steps p.tables e below (T0.setTop (mkF m 49 #[.val (.int i0), .val (.int i1), .val (.int (i0 &&& (7 : Int32))), .unset, .unset, .unset, .unset, .unset] [(.int (i0 &&& (7 : Int32)))])) _
            refine XS.iconst X0.here hx rfl (hb hby at_49) ?_
            exact kt
          by_cases hc50 : (i0 &&& (7 : Int32)) = (4 : Int32)
          · have pre14 : ∀ target, Steps p.tables e below (T0.setTop (mkF m 65 #[.val (.int i0), .val (.int i1), .val (.int (i0 &&& (7 : Int32))), .val (.int (51 : Int32)), .unset, .unset, .unset, .unset] [])) target → Steps p.tables e below (T0.setTop (mkF m 0 #[.val (.int i0), .val (.int i1), .unset, .unset, .unset, .unset, .unset, .unset] [])) target := by
              intro target kt
              refine pre13 target ?_
              show Steps p.tables e below (T0.setTop (mkF m 50 #[.val (.int i0), .val (.int i1), .val (.int (i0 &&& (7 : Int32))), .unset, .unset, .unset, .unset, .unset] [(.int (4 : Int32)), (.int (i0 &&& (7 : Int32)))])) _
              refine XS.icmpNo X0.here hx rfl (hb hby at_50) rfl (teq hc50).2 ?_
              show Steps p.tables e below (T0.setTop (mkF m 53 #[.val (.int i0), .val (.int i1), .val (.int (i0 &&& (7 : Int32))), .unset, .unset, .unset, .unset, .unset] [])) _
              refine XS.bipush X0.here hx rfl (hb hby at_53) ?_
              show Steps p.tables e below (T0.setTop (mkF m 55 #[.val (.int i0), .val (.int i1), .val (.int (i0 &&& (7 : Int32))), .unset, .unset, .unset, .unset, .unset] [(.int (51 : Int32))])) _
              refine XS.istoreN X0.here hx rfl (hb hby at_55) rfl (l' := #[.val (.int i0), .val (.int i1), .val (.int (i0 &&& (7 : Int32))), .val (.int (51 : Int32)), .unset, .unset, .unset, .unset]) rfl ?_
              show Steps p.tables e below (T0.setTop (mkF m 56 #[.val (.int i0), .val (.int i1), .val (.int (i0 &&& (7 : Int32))), .val (.int (51 : Int32)), .unset, .unset, .unset, .unset] [])) _
              refine XS.goto X0.here hx rfl (pc0 := 56) (pc' := 65) rfl (hb hby at_56) (by decide) (by decide) ?_
              exact kt
            obtain ⟨T15, L15, k15, n15, X15, N15, hk15', hn15, st15⟩ := own_b0_65 hx hZ hw hby hml hown hret i0 i1 (i0 &&& (7 : Int32)) (51 : Int32)  X0 e0 N0 Z0  
            have hv : (own_f0_0 i0 i1) = (own_f0_65 i0 i1 (i0 &&& (7 : Int32)) (51 : Int32)) := by unfold own_f0_0; rw [if_neg hc6, if_neg hc17, if_neg hc28, if_neg hc39, if_pos hc50]
            exact ⟨T15, L15, k15, n15, X15, N15, hk15', hn15, fun fs hr => pre14 _ (st15 fs (by rw [hv] at hr; exact hr))⟩
          · have pre16 : ∀ target, Steps p.tables e below (T0.setTop (mkF m 65 #[.val (.int i0), .val (.int i1), .val (.int (i0 &&& (7 : Int32))), .val (.int ((i1 &&& (65535 : Int32)).toUInt32.toUInt16.toUInt32.toInt32)), .unset, .unset, .unset, .unset] [])) target → Steps p.tables e below (T0.setTop (mkF m 0 #[.val (.int i0), .val (.int i1), .unset, .unset, .unset, .unset, .unset, .unset] [])) target := by
              intro target kt
              refine pre13 target ?_
              show Steps p.tables e below (T0.setTop (mkF m 50 #[.val (.int i0), .val (.int i1), .val (.int (i0 &&& (7 : Int32))), .unset, .unset, .unset, .unset, .unset] [(.int (4 : Int32)), (.int (i0 &&& (7 : Int32)))])) _
              refine XS.icmpYes X0.here hx rfl (pc0 := 50) (pc' := 59) rfl (hb hby at_50) rfl (feq hc50).2 (by decide) (by decide) ?_
              show Steps p.tables e below (T0.setTop (mkF m 59 #[.val (.int i0), .val (.int i1), .val (.int (i0 &&& (7 : Int32))), .unset, .unset, .unset, .unset, .unset] [])) _
              refine XS.iloadN X0.here hx rfl (hb hby at_59) rfl ?_
              show Steps p.tables e below (T0.setTop (mkF m 60 #[.val (.int i0), .val (.int i1), .val (.int (i0 &&& (7 : Int32))), .unset, .unset, .unset, .unset, .unset] [(.int i1)])) _
              refine X0.ldcInt hx hown (mvT hZ (hw _ (List.mem_of_getElem? (i := 19) rfl))) (g := (mkF m 60 #[.val (.int i0), .val (.int i1), .val (.int (i0 &&& (7 : Int32))), .unset, .unset, .unset, .unset, .unset] [(.int i1)])) rfl (hb hby at_60) _ ?_
              show Steps p.tables e below (T0.setTop (mkF m 62 #[.val (.int i0), .val (.int i1), .val (.int (i0 &&& (7 : Int32))), .unset, .unset, .unset, .unset, .unset] [(.int (65535 : Int32)), (.int i1)])) _
              refine XS.iand X0.here hx rfl (hb hby at_62) rfl ?_
              show Steps p.tables e below (T0.setTop (mkF m 63 #[.val (.int i0), .val (.int i1), .val (.int (i0 &&& (7 : Int32))), .unset, .unset, .unset, .unset, .unset] [(.int (i1 &&& (65535 : Int32)))])) _
              refine XS.i2c X0.here hx rfl (hb hby at_63) rfl ?_
              show Steps p.tables e below (T0.setTop (mkF m 64 #[.val (.int i0), .val (.int i1), .val (.int (i0 &&& (7 : Int32))), .unset, .unset, .unset, .unset, .unset] [(.int ((i1 &&& (65535 : Int32)).toUInt32.toUInt16.toUInt32.toInt32))])) _
              refine XS.istoreN X0.here hx rfl (hb hby at_64) rfl (l' := #[.val (.int i0), .val (.int i1), .val (.int (i0 &&& (7 : Int32))), .val (.int ((i1 &&& (65535 : Int32)).toUInt32.toUInt16.toUInt32.toInt32)), .unset, .unset, .unset, .unset]) rfl ?_
              exact kt
            obtain ⟨T17, L17, k17, n17, X17, N17, hk17', hn17, st17⟩ := own_b0_65 hx hZ hw hby hml hown hret i0 i1 (i0 &&& (7 : Int32)) ((i1 &&& (65535 : Int32)).toUInt32.toUInt16.toUInt32.toInt32)  X0 e0 N0 Z0  
            have hv : (own_f0_0 i0 i1) = (own_f0_65 i0 i1 (i0 &&& (7 : Int32)) ((i1 &&& (65535 : Int32)).toUInt32.toUInt16.toUInt32.toInt32)) := by unfold own_f0_0; rw [if_neg hc6, if_neg hc17, if_neg hc28, if_neg hc39, if_neg hc50]
            exact ⟨T17, L17, k17, n17, X17, N17, hk17', hn17, fun fs hr => pre16 _ (st17 fs (by rw [hv] at hr; exact hr))⟩
def Q0 (Z : State) (i0 : Int32) (i1 : Int32) (h0 : Heap) (n0 : Nat) (v : Option Value) (h : Heap) (L : List Loc) : Prop := v = some (.int (own_f0_0 i0 i1)) ∧ Fr n0 L
set_option maxRecDepth 65536 in
set_option maxHeartbeats 40000000 in
theorem rm0 (l : Launch) (Z : State) (a0_ : Array Value) (hw : ∀ d ∈ tables_1, d.before a0_ Z = true) (ws : List Jvm.Cond) (i0 : Int32) (i1 : Int32) (h0 : Heap) (n0 : Nat) (Z0 : n0 ≤ h0.size)  :
    MetFree l x (head1 (Jvm.Cond.code x code maxLocals ret :: ws) room_1) (fun a U => a = #[(.int i0), (.int i1)] ∧ Z.Warmed39 U.vm ∧ U.heap = h0) (fun _ _ _ _ _ => True) (fun _ U o U' => ∃ v L, o = .returned v ∧ Q0 Z i0 i1 h0 n0 v U'.heap L ∧ FrameEnd U o U' L room_1.cells room_1.slots) := by
  refine MetFree.of_bodySF (plainFor_of_name pn_0) hisR ?_
  intro p e s m args below meth c s₁ Bd hml0 hP hK
  obtain ⟨rfl, hZ, hh⟩ := hP
  have hx := Bd.exec
  have hby := Bd.bytes
  have hml : c.maxLocals = 8 := hml0
  have hown : s.vm.findClass "com/example/vedette/vedette/links/IntermarcAuthorityLinkRulesCarriesToReciprocalPinLaw" = some m.cls := findClass_of_methodNamed Bd.named
  have X0 : Stand p l e room_1 s m #[(.int i0), (.int i1)] below meth c s₁ [] 0 0 := Stand.of_body Bd
  have e0 : s₁.heap = h0 := by rw [← hh, Bd.state]; rfl
  obtain ⟨T', L', k', n', X', N', hk', hn', st'⟩ := own_b0_0 hx hZ hw hby hml hown Bd.returns  i0 i1 X0 e0 (Fr.nil n0) Z0 
  obtain ⟨fs, hr, hrun, hended, hW, hsame⟩ := X'.leave (v := some (.int (own_f0_0 i0 i1))) (fun h => by rw [Bd.returns] at h; cases h)
  refine ⟨_, _, castTop (ef_0 m i0 i1) (st' fs hr), hrun, hended, _, _, rfl, ?_, ⟨_, rfl⟩, hW, hsame.mono hk' hn'⟩
  exact ⟨rfl, N'⟩
theorem own_core (i0 i1 i2 c : Int32) : own_f0_65 i0 i1 i2 c = 1 := by
  by_cases h1 : c = 115
  · subst h1; simp [own_f0_65, own_f0_101, own_f3_0, own_f4_0]
  simp [own_f0_65, own_f0_101, own_f3_0, own_f4_0, h1]
theorem own_law (i0 : Int32) (i1 : Int32) : own_f0_0 i0 i1 = 1 := by
  simp only [own_f0_0, own_core, ite_self]
set_option maxRecDepth 65536 in
set_option maxHeartbeats 40000000 in
theorem comes_1 {Post : Tables → Env → Array Value → State → Outcome → State → Prop} (hpost : ∀ tb e args s v u, (limb_1_1.after args s (.returned v) u = true ∧ limb_1_2.after args s (.returned v) u = true ∧ True) → FrameEnd s (.returned v) u (Jvm.fieldLocs frame_1_writes args s ++ Jvm.arrayLocs frame_1_arrays args s ++ Jvm.staticLocs frame_1_statics s) 16 64 → Post tb e args s (.returned v) u) :
    ArmFor flags0 classFile x code maxLocals ret World_1 tables_1 room_1 Calls_1 rest_1 Pre_1 Post := by
  intro l hfl _ _ p e ha hc hk s m args below hf hA hF happ hP
  obtain ⟨hcalls, hrest, hpre⟩ := hP
  obtain ⟨-, -, -, hnamed, -, -, -, hat⟩ := (Spec.applies_iff hf).mp happ
  obtain ⟨hg, hn⟩ := and_e (Cond.before_iff.mp (show (Jvm.Cond.and given_1 narrow_1).before args s = true from hpre))
  obtain ⟨hcount, hg⟩ := and_e hg
  obtain ⟨g0, hg⟩ := and_e hg
  have g1 := hg
  obtain ⟨w0, w1, rfl⟩ : ∃ w0 w1 : Value, args = #[w0, w1] := by
    have hs : args.size = 2 := by simpa [Cond.value, given_1] using hcount
    obtain ⟨L⟩ := args
    match L, hs with
    | [w0, w1], _ => exact ⟨w0, w1, rfl⟩
  have hw := fun d (hd : d ∈ tables_1) => atoms_spec (ws := Jvm.Cond.code x code maxLocals ret :: tables_1) hat d (List.mem_cons_of_mem _ hd)
  obtain ⟨i0, ei0⟩ := is_v g0
  obtain rfl : w0 = (.int i0) := Option.some.inj ei0
  obtain ⟨i1, ei1⟩ := is_v g1
  obtain rfl : w1 = (.int i1) := Option.some.inj ei1
  obtain ⟨n, o, h1, h2, h3, _, L, rfl, ⟨rfl, N⟩, hq⟩ := rm0 l s _ hw tables_1 i0 i1 s.heap s.heap.size (Nat.le_refl _) p e ha hc hk s m _ below hf ((Spec.applies_iff_loose hf).mp happ).1 ⟨rfl, State.Warmed39.refl s, rfl⟩ trivial
  rw [own_law i0 i1] at h3 hq
  refine ⟨n, _, h1, h2, h3, hpost _ _ _ _ _ _ ⟨Cond.after_iff.mpr rfl, Cond.after_iff.mpr (eq_i res_at (Term.int_eval (1)) rfl), trivial⟩ ⟨hq.1, hq.2.1, (hq.2.2.sift fun y hy => Or.inr (N y hy)).mono (by decide) (by decide)⟩⟩
theorem main_1_1 : Claimed_1_1 := comes_1 fun _ _ _ _ _ _ h hF => ⟨h.1, hF⟩
theorem main_1_2 : Claimed_1_2 := comes_1 fun _ _ _ _ _ _ h hF => ⟨h.2.1, hF⟩
end Jvm.Pilot.@@N@@
namespace Jvm.Pilot.@@N@@
open Jvm Jvm.ClassFile Sem Op Lib Jvm.Free Jvm.Stand Jvm.Pilot.@@N@@.Jvm.D
/-! MADE BY PROGRAM (witnessworld.py) out of the Statement's table words and the real class files: 11 classes; the members and pool entries that the words name. The judged class is class 1, her method 1. -/
namespace start1
open Jvm.ClassFile
def u (s : String) : CpInfo := .utf8 (stringToUtf16 s)
/-- a pool by its gaps: so many unusable entries, then the entry; so many at the end -/
def gap : Nat → List CpInfo → List CpInfo
  | 0, r => r
  | n + 1, r => .unusable :: gap n r
def poolList (es : List (Nat × CpInfo)) (last : Nat) : List CpInfo := es.foldr (fun e r => gap e.1 (e.2 :: r)) (gap last [])
def pool (es : List (Nat × CpInfo)) (last : Nat) : Array CpInfo := ⟨poolList es last⟩
def fileOf (pool : Array CpInfo) (this : Nat) (attrs : Array Attribute := #[]) (ms : Array MethodInfo := #[]) (fl : Nat := 33) (sup : Nat := 0) (ifs : Array Nat := #[]) (fds : Array FieldInfo := #[]) : ClassFile where
  minorVersion := 0
  majorVersion := 65
  constantPool := pool
  accessFlags := fl
  thisClass := this
  superClass := sup
  interfaces := ifs
  fields := fds
  methods := ms
  attributes := attrs
def plain (name : String) (sup : Option ClassId) : Class where
  name := name
  kind := .ordinary
  loader := none
  accessFlags := 33
  super := sup
  interfaces := #[]
  cf := none
  fields := #[]
  methods := #[]
  instanceTypes := #[]
  staticTypes := #[]
  resolved := #[]
  callSites := []
  init := .initialized
  statics := none
  mirror := none

def pool0 : Array CpInfo := pool [(5, u "<init>"), (0, u "()V"), (1, .class_ 10), (1, u "java/lang/Object")] 113

def k0c0 : Code := { maxStack := 0, maxLocals := 1, code := object_method_1_code, exceptionTable := #[], attributes := #[] }
def k0m0 : Method := { name := "<init>", desc := "()V", sig := { parameters := [], returnType := none }, accessFlags := 1, code := some k0c0 }
/-- java/lang/Object -/
def k0 : Class := { plain "java/lang/Object" none with
  accessFlags := 33
  interfaces := #[]
  cf := some (fileOf pool0 8 #[] #[{ accessFlags := 1, nameIndex := 5, descriptorIndex := 6, attributes := #[] }] 33 0 #[] #[])
  fields := #[]
  methods := #[k0m0]
  instanceTypes := #[]
  staticTypes := #[]
  resolved := Array.replicate 124 none
  statics := none }

def pool1 : Array CpInfo := pool [(2, .class_ 4), (0, .nameAndType 5 6), (0, u "java/lang/Object"), (0, u "<init>"), (0, u "()V"), (0, .integer 65535), (0, .class_ 9), (0, u "com/example/vedette/vedette/links/IntermarcAuthorityLinkRules"), (0, .methodref 8 3), (0, .methodref 8 12), (0, .nameAndType 13 14), (0, u "carriesToReciprocal"), (0, u "(C)Z"), (0, .methodref 8 16), (0, .nameAndType 17 14), (0, u "keepsFromLink"), (0, .class_ 19), (0, u "com/example/vedette/vedette/links/IntermarcAuthorityLinkRulesCarriesToReciprocalPinLaw"), (2, u "law"), (0, u "(II)Z")] 3

def k1m0 : Method := { name := "<init>", desc := "()V", sig := { parameters := [], returnType := none }, accessFlags := 1, code := none }
def k1c1 : Code := { maxStack := 2, maxLocals := 8, code := code, exceptionTable := #[], attributes := #[] }
def k1m1 : Method := { name := "law", desc := "(II)Z", sig := { parameters := [.int, .int], returnType := some .boolean }, accessFlags := 9, code := some k1c1 }
/-- com/example/vedette/vedette/links/IntermarcAuthorityLinkRulesCarriesToReciprocalPinLaw -/
def k1 : Class := { plain "com/example/vedette/vedette/links/IntermarcAuthorityLinkRulesCarriesToReciprocalPinLaw" (some 0) with
  accessFlags := 49
  interfaces := #[]
  cf := some (fileOf pool1 18 #[] #[{ accessFlags := 1, nameIndex := 5, descriptorIndex := 6, attributes := #[] }, { accessFlags := 9, nameIndex := 22, descriptorIndex := 23, attributes := #[] }] 49 2 #[] #[])
  fields := #[]
  methods := #[k1m0, k1m1]
  instanceTypes := #[]
  staticTypes := #[]
  resolved := Array.replicate 27 none
  statics := none }

def pool2 : Array CpInfo := pool [(4, .class_ 6), (1, u "com/example/vedette/vedette/links/LinkRules"), (12, .class_ 20), (0, u "java/lang/Object"), (0, u "LINK_CODE"), (0, u "C")] 27

/-- com/example/vedette/vedette/links/LinkRules -/
def k2 : Class := { plain "com/example/vedette/vedette/links/LinkRules" (some 0) with
  accessFlags := 1537
  interfaces := #[]
  cf := some (fileOf pool2 4 #[] #[] 1537 19 #[] #[{ accessFlags := 25, nameIndex := 21, descriptorIndex := 22, attributes := #[] }])
  fields := #[{ name := "LINK_CODE", type := .char, accessFlags := 25, slot := 0, constantValue := 0 }]
  methods := #[]
  instanceTypes := #[]
  staticTypes := #[.char]
  resolved := Array.replicate 50 none
  statics := none }

def pool3 : Array CpInfo := pool [(1, .class_ 2), (0, u "com/example/vedette/vedette/links/ReciprocalLinkRules"), (0, .class_ 4), (0, u "java/lang/Object"), (0, .class_ 6), (0, u "com/example/vedette/vedette/links/LinkRules")] 6

/-- com/example/vedette/vedette/links/ReciprocalLinkRules -/
def k3 : Class := { plain "com/example/vedette/vedette/links/ReciprocalLinkRules" (some 0) with
  accessFlags := 1537
  interfaces := #[2]
  cf := some (fileOf pool3 1 #[] #[] 1537 3 #[5] #[])
  fields := #[]
  methods := #[]
  instanceTypes := #[]
  staticTypes := #[]
  resolved := Array.replicate 13 none
  statics := none }

def pool4 : Array CpInfo := pool [(1, .methodref 2 3), (0, .class_ 4), (0, .nameAndType 5 6), (0, u "java/lang/Object"), (0, u "<init>"), (0, u "()V"), (0, .class_ 8), (0, u "com/example/vedette/vedette/links/IntermarcAuthorityLinkRules"), (40, u "RELATIONS"), (0, u "Ljava/util/Map;"), (22, .class_ 74), (0, u "com/example/vedette/vedette/links/ReciprocalLinkRules"), (0, u "LINK_TAG"), (0, u "Ljava/lang/String;"), (1, u "RECIPROCAL_TAG"), (0, u "HEADING_TAG_START"), (0, u "C"), (1, u "NATURAL_PERSON"), (1, u "CORPORATE_BODY"), (1, u "FORMULA"), (1, u "PERIOD"), (14, u "keepsFromLink"), (0, u "(C)Z"), (3, u "carriesToReciprocal")] 22

def k4c0 : Code := { maxStack := 1, maxLocals := 1, code := prog_55_method_1_code, exceptionTable := #[], attributes := #[] }
def k4m0 : Method := { name := "<init>", desc := "()V", sig := { parameters := [], returnType := none }, accessFlags := 1, code := some k4c0 }
def k4c1 : Code := { maxStack := 2, maxLocals := 2, code := prog_55_method_6_code, exceptionTable := #[], attributes := #[] }
def k4m1 : Method := { name := "keepsFromLink", desc := "(C)Z", sig := { parameters := [.char], returnType := some .boolean }, accessFlags := 1, code := some k4c1 }
def k4c2 : Code := { maxStack := 2, maxLocals := 2, code := prog_55_method_9_code, exceptionTable := #[], attributes := #[] }
def k4m2 : Method := { name := "carriesToReciprocal", desc := "(C)Z", sig := { parameters := [.char], returnType := some .boolean }, accessFlags := 1, code := some k4c2 }
/-- com/example/vedette/vedette/links/IntermarcAuthorityLinkRules -/
def k4 : Class := { plain "com/example/vedette/vedette/links/IntermarcAuthorityLinkRules" (some 0) with
  accessFlags := 49
  interfaces := #[3]
  cf := some (fileOf pool4 7 #[] #[{ accessFlags := 1, nameIndex := 5, descriptorIndex := 6, attributes := #[] }, { accessFlags := 1, nameIndex := 103, descriptorIndex := 104, attributes := #[] }, { accessFlags := 1, nameIndex := 108, descriptorIndex := 104, attributes := #[] }] 49 2 #[73] #[{ accessFlags := 26, nameIndex := 75, descriptorIndex := 76, attributes := #[] }, { accessFlags := 26, nameIndex := 78, descriptorIndex := 76, attributes := #[] }, { accessFlags := 26, nameIndex := 79, descriptorIndex := 80, attributes := #[] }, { accessFlags := 26, nameIndex := 82, descriptorIndex := 80, attributes := #[] }, { accessFlags := 26, nameIndex := 84, descriptorIndex := 80, attributes := #[] }, { accessFlags := 24, nameIndex := 86, descriptorIndex := 80, attributes := #[] }, { accessFlags := 24, nameIndex := 88, descriptorIndex := 80, attributes := #[] }, { accessFlags := 26, nameIndex := 49, descriptorIndex := 50, attributes := #[] }])
  fields := #[{ name := "LINK_TAG", type := (.object "java/lang/String"), accessFlags := 26, slot := 0, constantValue := 0 }, { name := "RECIPROCAL_TAG", type := (.object "java/lang/String"), accessFlags := 26, slot := 1, constantValue := 0 }, { name := "HEADING_TAG_START", type := .char, accessFlags := 26, slot := 2, constantValue := 0 }, { name := "NATURAL_PERSON", type := .char, accessFlags := 26, slot := 3, constantValue := 0 }, { name := "CORPORATE_BODY", type := .char, accessFlags := 26, slot := 4, constantValue := 0 }, { name := "FORMULA", type := .char, accessFlags := 24, slot := 5, constantValue := 0 }, { name := "PERIOD", type := .char, accessFlags := 24, slot := 6, constantValue := 0 }, { name := "RELATIONS", type := (.object "java/util/Map"), accessFlags := 26, slot := 7, constantValue := 0 }]
  methods := #[k4m0, k4m1, k4m2]
  instanceTypes := #[]
  staticTypes := #[(.object "java/lang/String"), (.object "java/lang/String"), .char, .char, .char, .char, .char, (.object "java/util/Map")]
  resolved := Array.replicate 131 none
  statics := none }

def pool5 : Array CpInfo := pool [(1, u "java/lang/Cloneable"), (0, .class_ 1), (0, u "java/lang/Object"), (0, .class_ 3)] 3

/-- java/lang/Cloneable -/
def k5 : Class := { plain "java/lang/Cloneable" (some 0) with
  accessFlags := 1537
  interfaces := #[]
  cf := some (fileOf pool5 2 #[] #[] 1537 4 #[] #[])
  fields := #[]
  methods := #[]
  instanceTypes := #[]
  staticTypes := #[]
  resolved := Array.replicate 8 none
  statics := none }

def pool6 : Array CpInfo := pool [(1, u "java/io/Serializable"), (0, .class_ 1), (0, u "java/lang/Object"), (0, .class_ 3)] 3

/-- java/io/Serializable -/
def k6 : Class := { plain "java/io/Serializable" (some 0) with
  accessFlags := 1537
  interfaces := #[]
  cf := some (fileOf pool6 2 #[] #[] 1537 4 #[] #[])
  fields := #[]
  methods := #[]
  instanceTypes := #[]
  staticTypes := #[]
  resolved := Array.replicate 8 none
  statics := none }

/-- the primitive byte -/
def k7 : Class := { plain "byte" none with kind := .primitive 'B', accessFlags := 0x411 }
/-- [B -/
def k8 : Class := { plain "[B" (some 0) with kind := .array 7 .byte, interfaces := #[5, 6], accessFlags := 1041 }

/-- the primitive int -/
def k9 : Class := { plain "int" none with kind := .primitive 'I', accessFlags := 0x411 }
/-- [I -/
def k10 : Class := { plain "[I" (some 0) with kind := .array 9 .int, interfaces := #[5, 6], accessFlags := 1041 }

def heap : Heap := #[]
def classes : Array Class := #[k0, k1, k2, k3, k4, k5, k6, k7, k8, k9, k10]
def interned : List (Array UInt16 × Addr) := []
def slotsUsed : Nat := 0
def theMethod : MethodId := ⟨1, 1⟩
def args0 : Array Value := #[.int 5, .int 6]
def aboutOver (below : List Frame) : State where
  vm := { classes := classes, interned := interned.toArray }
  heap := heap
  slotsUsed := slotsUsed
  threads := #[{ frames := .invoking theMethod args0 :: below }]
def below0 : List Frame := [.native { method := ⟨0, 0⟩, args := #[] }]
def about1 : State := aboutOver below0
def p0 : Program := .bare "" "" ""
def e0 : Env := launch0.env 0 0 0
theorem w_frames : about1.frames = Frame.invoking theMethod args0 :: below0 := rfl
set_option maxRecDepth 65536 in
theorem w_args : argsFit about1.vm theMethod args0 = true := by decide +kernel
set_option maxRecDepth 65536 in
theorem w_heap : heapFits about1 = true := by decide +kernel
set_option maxRecDepth 65536 in
theorem w_runnable : about1.curStatus? = some .runnable := by decide +kernel
set_option maxRecDepth 65536 in
theorem w_alone : about1.alone = true := by decide +kernel
set_option maxRecDepth 65536 in
theorem w_named : about1.methodNamed? x = some theMethod := by decide +kernel
set_option maxRecDepth 65536 in
theorem w_hears : about1.hears theMethod below0 = true := by decide +kernel
set_option maxRecDepth 65536 in
theorem w_ripe : about1.ripe theMethod args0 below0 = true := by decide +kernel
theorem w_running : about1.status = .running := rfl
set_option maxRecDepth 65536 in
theorem w_room : about1.hasRoom e0.platform room_1 = true :=
  launch0.hasRoom_least _ room_1 (by decide +kernel) (by decide +kernel) (by decide +kernel) (by decide +kernel) (by decide +kernel) (by decide +kernel)
theorem allAtoms_all (ts : List Jvm.Cond) (a : Array Jvm.Value) (st : Jvm.State) : (allAtoms ts).before a st = ts.all (fun c => c.before a st) := by
  induction ts with
  | nil => rfl
  | cons c t ih =>
    show (Jvm.Cond.and c (allAtoms t)).before a st = _
    rw [Jvm.Cond.before_and, ih, List.all_cons]
def words1 : List Jvm.Cond := Jvm.Cond.code x code maxLocals ret :: tables_1
/-- a 'code' word, met by the world's own term for the bytes: nothing is compared byte by byte -/
theorem code_word {y : MethodName} {bytes : ByteArray} {mx : Nat} {rt : Option FieldType} {a : Array Value} {s : State} {m : MethodId} {meth : Method} {c : Code} (h1 : s.methodNamed? y = some m) (h2 : s.vm.method? m = some meth) (h3 : meth.code = some c) (h4 : c.code = bytes)
    (h5 : (c.maxLocals == mx && c.exceptionTable.isEmpty && decide (c.maxStack ≤ mostOperands) && decide (meth.sig.returnType = rt) && !meth.locks && decide (parseMethodDescriptor y.desc = some meth.sig)) = true) : (Jvm.Cond.code y bytes mx rt).before a s = true := by
  simp only [Bool.and_eq_true, beq_iff_eq, Bool.not_eq_true', decide_eq_true_eq] at h5
  obtain ⟨⟨⟨⟨⟨g1, g2⟩, g3⟩, g4⟩, g5⟩, g6⟩ := h5
  simp [Cond.before, Cond.holds, Cond.value, h1, h2, h3, h4, g1, g2, g3, g4, g5, g6]
def isCode : Jvm.Cond → Bool
  | .code _ _ _ _ => true
  | _ => false
theorem all_split {L : List Jvm.Cond} {P : Jvm.Cond → Bool} (h1 : L.all (fun c => isCode c || P c) = true) (h2 : ∀ c ∈ L.filter isCode, P c = true) : L.all P = true := by
  refine List.all_eq_true.mpr fun c hc => ?_
  have h := List.all_eq_true.mp h1 c hc
  rcases Bool.eq_false_or_eq_true (isCode c) with hi | hi
  · exact h2 c (List.mem_filter.mpr ⟨hc, hi⟩)
  · simpa [hi] using h
set_option maxRecDepth 65536 in
theorem w_c0 : (Jvm.Cond.code x code maxLocals ret).before args0 about1 = true := code_word (m := ⟨1, 1⟩) (meth := k1m1) (c := k1c1) (by decide +kernel) rfl rfl rfl (by decide +kernel)
set_option maxRecDepth 65536 in
theorem w_c1 : (Jvm.Cond.code ({ cls := "com/example/vedette/vedette/links/IntermarcAuthorityLinkRules", name := "<init>", desc := "()V" } : Jvm.MethodName) prog_55_method_1_code (1 : Nat) (Option.none : Option Jvm.ClassFile.FieldType)).before args0 about1 = true := code_word (m := ⟨4, 0⟩) (meth := k4m0) (c := k4c0) (by decide +kernel) rfl rfl rfl (by decide +kernel)
set_option maxRecDepth 65536 in
theorem w_c2 : (Jvm.Cond.code ({ cls := "java/lang/Object", name := "<init>", desc := "()V" } : Jvm.MethodName) object_method_1_code (1 : Nat) (Option.none : Option Jvm.ClassFile.FieldType)).before args0 about1 = true := code_word (m := ⟨0, 0⟩) (meth := k0m0) (c := k0c0) (by decide +kernel) rfl rfl rfl (by decide +kernel)
set_option maxRecDepth 65536 in
theorem w_c3 : (Jvm.Cond.code ({ cls := "com/example/vedette/vedette/links/IntermarcAuthorityLinkRules", name := "carriesToReciprocal", desc := "(C)Z" } : Jvm.MethodName) prog_55_method_9_code (2 : Nat) (Option.some Jvm.ClassFile.FieldType.boolean)).before args0 about1 = true := code_word (m := ⟨4, 2⟩) (meth := k4m2) (c := k4c2) (by decide +kernel) rfl rfl rfl (by decide +kernel)
set_option maxRecDepth 65536 in
theorem w_c4 : (Jvm.Cond.code ({ cls := "com/example/vedette/vedette/links/IntermarcAuthorityLinkRules", name := "keepsFromLink", desc := "(C)Z" } : Jvm.MethodName) prog_55_method_6_code (2 : Nat) (Option.some Jvm.ClassFile.FieldType.boolean)).before args0 about1 = true := code_word (m := ⟨4, 1⟩) (meth := k4m1) (c := k4c1) (by decide +kernel) rfl rfl rfl (by decide +kernel)
def codes1 : List Jvm.Cond := [Jvm.Cond.code x code maxLocals ret, Jvm.Cond.code ({ cls := "com/example/vedette/vedette/links/IntermarcAuthorityLinkRules", name := "<init>", desc := "()V" } : Jvm.MethodName) prog_55_method_1_code (1 : Nat) (Option.none : Option Jvm.ClassFile.FieldType), Jvm.Cond.code ({ cls := "java/lang/Object", name := "<init>", desc := "()V" } : Jvm.MethodName) object_method_1_code (1 : Nat) (Option.none : Option Jvm.ClassFile.FieldType), Jvm.Cond.code ({ cls := "com/example/vedette/vedette/links/IntermarcAuthorityLinkRules", name := "carriesToReciprocal", desc := "(C)Z" } : Jvm.MethodName) prog_55_method_9_code (2 : Nat) (Option.some Jvm.ClassFile.FieldType.boolean), Jvm.Cond.code ({ cls := "com/example/vedette/vedette/links/IntermarcAuthorityLinkRules", name := "keepsFromLink", desc := "(C)Z" } : Jvm.MethodName) prog_55_method_6_code (2 : Nat) (Option.some Jvm.ClassFile.FieldType.boolean)]
set_option maxRecDepth 65536 in
theorem codes_eq : words1.filter isCode = codes1 := rfl
theorem w_codes : ∀ c ∈ words1.filter isCode, c.before args0 about1 = true := by
  rw [codes_eq]
  intro c hc
  simp only [codes1, List.mem_cons, List.not_mem_nil, or_false] at hc
  rcases hc with rfl | rfl | rfl | rfl | rfl
  · exact w_c0
  · exact w_c1
  · exact w_c2
  · exact w_c3
  · exact w_c4
set_option maxRecDepth 65536 in
theorem w_t1 : words1.all (fun c => isCode c || c.before args0 about1) = true := by decide +kernel
theorem w_tables : (allAtoms (Jvm.Cond.code x code maxLocals ret :: tables_1)).before args0 about1 = true := by
  rw [allAtoms_all]
  show words1.all (fun c => c.before args0 about1) = true
  refine all_split ?_ w_codes
  rw [w_t1]
set_option maxRecDepth 65536 in
theorem w_case : (Jvm.Cond.and given_1 narrow_1).before args0 about1 = true := by decide +kernel
theorem w_applies : (headSpec (Jvm.Cond.code x code maxLocals ret :: tables_1) room_1).applies x e0.platform about1 = true :=
  (Spec.applies_iff w_frames).mpr ⟨w_running, w_runnable, w_alone, w_named, w_hears, w_ripe, w_room, w_tables⟩
theorem atStart : AtStart classFile x code maxLocals ret World_1 tables_1 room_1 Calls_1 rest_1 Pre_1 launch0 p0 e0 about1 theMethod args0 below0 :=
  ⟨lists_1, trivial, launch0.admits_env _ _ _, launch0.least_env, fairChoices_fair.cas, fairChoices_fair.clock, w_frames, w_args, w_heap, w_applies, trivial, trivial, w_case⟩
end start1
theorem witness_1 : WitnessClaimed_1 := ⟨start1.p0, start1.e0, start1.about1, start1.theMethod, start1.args0, start1.below0, start1.atStart⟩
end Jvm.Pilot.@@N@@
