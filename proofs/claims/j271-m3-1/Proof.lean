import JvmDerived
import JvmDerived.Pilot.@@N@@Statement
import JvmDerived.Pilot.@@N@@Code
set_option linter.unusedVariables false
set_option linter.unusedSimpArgs false
set_option maxHeartbeats 40000000
set_option maxRecDepth 65536
namespace Jvm.RoadKit
open Sem ClassFile Op Lib Jvm.Stand Jvm.Free Jvm.LawKit
section New
variable {p : Program} {l : Launch} {e : Env} {R : Room} {s : State} {m : MethodId} {args : Array Value} {below : List Frame} {meth : Method} {c : Code} {T : State} {locs : List Loc} {cells slots : Nat}
theorem retI (X : Stand p l e R s m args below meth c T locs cells slots) (hx : p.tables.exec = Jvm.exec) {pc : Nat} {Ls : Array Slot} {z : Int32} {rest : List Value} (hret : meth.sig.returnType = some .int) (hd : decode c.code pc = .ok (.ireturn, 1)) {fs : List Frame}
    (hl : ∀ (f : JFrame) (acts : List Action), f.method = m → f.locked = none → f.entered = [] → (doReturn e (T.setTop f) acts (some (.int z))).1 = T.setFrames fs) : Steps p.tables e below (T.setTop (mkF m pc Ls (.int z :: rest))) (T.setFrames fs) := by
  have hm' : T.vm.method? m = some meth := X.method'
  have hn : narrow .int (.int z) = .int z := rfl
  show Steps p.tables e below (T.setTop { method := m, pc := pc, locals := Ls, stack := _ :: rest, locked := none }) _
  jvm_step X.here [X.here.top, hx, hd, hm', hret, hn]
  first | (intro acts; rw [hl _ acts rfl rfl rfl]) | rw [hl _ _ rfl rfl rfl]
  exact Steps.refl _
end New
end Jvm.RoadKit
namespace Jvm.Pilot.@@N@@
open Jvm Jvm.ClassFile Sem Op Lib Jvm.Free Jvm.Stand Jvm.LawKit Jvm.RoadKit Bundle Jvm.Pilot.@@N@@.Jvm.D
theorem d1_0 : decode prog_44_method_19_code 0 = .ok (.iload_n 0, 1) := by decide +kernel
theorem d1_1 : decode prog_44_method_19_code 1 = .ok (.bipush 32, 2) := by decide +kernel
theorem d1_3 : decode prog_44_method_19_code 3 = .ok (.if_icmp .gt 31, 3) := by decide +kernel
theorem d1_6 : decode prog_44_method_19_code 6 = .ok (.iload_n 0, 1) := by decide +kernel
theorem d1_7 : decode prog_44_method_19_code 7 = .ok (.bipush 32, 2) := by decide +kernel
theorem d1_9 : decode prog_44_method_19_code 9 = .ok (.if_icmp .eq 21, 3) := by decide +kernel
theorem d1_12 : decode prog_44_method_19_code 12 = .ok (.iload_n 0, 1) := by decide +kernel
theorem d1_13 : decode prog_44_method_19_code 13 = .ok (.bipush 9, 2) := by decide +kernel
theorem d1_15 : decode prog_44_method_19_code 15 = .ok (.if_icmp .eq 15, 3) := by decide +kernel
theorem d1_18 : decode prog_44_method_19_code 18 = .ok (.iload_n 0, 1) := by decide +kernel
theorem d1_19 : decode prog_44_method_19_code 19 = .ok (.bipush 10, 2) := by decide +kernel
theorem d1_21 : decode prog_44_method_19_code 21 = .ok (.if_icmp .eq 9, 3) := by decide +kernel
theorem d1_24 : decode prog_44_method_19_code 24 = .ok (.iload_n 0, 1) := by decide +kernel
theorem d1_25 : decode prog_44_method_19_code 25 = .ok (.bipush 13, 2) := by decide +kernel
theorem d1_27 : decode prog_44_method_19_code 27 = .ok (.if_icmp .ne 7, 3) := by decide +kernel
theorem d1_30 : decode prog_44_method_19_code 30 = .ok (.iconst 1, 1) := by decide +kernel
theorem d1_31 : decode prog_44_method_19_code 31 = .ok (.goto 4, 3) := by decide +kernel
theorem d1_34 : decode prog_44_method_19_code 34 = .ok (.iconst 0, 1) := by decide +kernel
theorem d1_35 : decode prog_44_method_19_code 35 = .ok (.ireturn, 1) := by decide +kernel
theorem pn_1 : plainName "com/example/open_brace/openbrace/io/Input" = true := by first | (simp [plainName, overriddenIn]; done) | decide +kernel
theorem ef_1 (m : MethodId) (i0 : Int32) : entryFrame m #[(.int i0)] 1 = mkF m 0 #[.val (.int i0)] [] := by first | (simp [entryFrame, mkF, argsToLocals, Value.category]; done) | rfl
def own_f1_0 (i0 : Int32) : Int32 :=
  (if (32 : Int32) < i0 then (0 : Int32) else (if i0 = (32 : Int32) then (1 : Int32) else (if i0 = (9 : Int32) then (1 : Int32) else (if i0 = (10 : Int32) then (1 : Int32) else (if i0 = (13 : Int32) then (1 : Int32) else (0 : Int32))))))
set_option maxRecDepth 65536 in
set_option maxHeartbeats 40000000 in
theorem own_b1_0 {p : Program} {l : Launch} {e : Env} {s : State} {m : MethodId} {args : Array Value} {below : List Frame} {meth : Method} {c : Code} {Z : State} {a0_ : Array Value} (hx : p.tables.exec = Jvm.exec) (hZ : Z.Warmed39 s.vm) (hw : ∀ d ∈ tables_1, d.before a0_ Z = true) (hby : c.code = prog_44_method_19_code) (hml : c.maxLocals = 1) (hown : s.vm.findClass "com/example/open_brace/openbrace/io/Input" = some m.cls) (hret : meth.sig.returnType = some .boolean) {T0 : State} {locs : List Loc} {cells slots : Nat} {h0 : Heap} (i0 : Int32)
    (X0 : Stand p l e ({ frames := 0, cells := 0, slots := 0, locals := 0 } : Room) s m args below meth c T0 locs cells slots) (e0 : T0.heap = h0) (hcl : cells ≤ ({ frames := 0, cells := 0, slots := 0, locals := 0 } : Room).cells) (hsl : slots ≤ ({ frames := 0, cells := 0, slots := 0, locals := 0 } : Room).slots)  :
    ∃ T', Stand p l e ({ frames := 0, cells := 0, slots := 0, locals := 0 } : Room) s m args below meth c T' locs cells slots ∧ T'.heap = h0 ∧ ∀ fs, (∀ (f : JFrame) (acts : List Action), f.method = m → f.locked = none → f.entered = [] → (doReturn e (T'.setTop f) acts (some (.int (own_f1_0 i0)))).1 = T'.setFrames fs) → Steps p.tables e below (T0.setTop (mkF m 0 #[.val (.int i0)] [])) (T'.setFrames fs) := by
  have pre1 : ∀ target, Steps p.tables e below (T0.setTop (mkF m 3 #[.val (.int i0)] [(.int (32 : Int32)), (.int i0)])) target → Steps p.tables e below (T0.setTop (mkF m 0 #[.val (.int i0)] [])) target := by
    intro target kt
    show Steps p.tables e below (T0.setTop (mkF m 0 #[.val (.int i0)] [])) _
    refine XS.iloadN X0.here hx rfl (hb hby d1_0) rfl ?_
    show Steps p.tables e below (T0.setTop (mkF m 1 #[.val (.int i0)] [(.int i0)])) _
    refine XS.bipush X0.here hx rfl (hb hby d1_1) ?_
    exact kt
  by_cases hc3 : (32 : Int32) < i0
  · refine ⟨T0, X0, e0, fun fs hr => ?_⟩
    have hv : (own_f1_0 i0) = (0 : Int32) := by unfold own_f1_0; rw [if_pos hc3]
    rw [hv] at hr
    refine pre1 _ ?_
    show Steps p.tables e below (T0.setTop (mkF m 3 #[.val (.int i0)] [(.int (32 : Int32)), (.int i0)])) _
    refine XS.icmpYes X0.here hx rfl (pc0 := 3) (pc' := 34) rfl (hb hby d1_3) rfl (tlt hc3).2.2.1 (by decide) (by decide) ?_
    show Steps p.tables e below (T0.setTop (mkF m 34 #[.val (.int i0)] [])) _
    refine XS.iconst X0.here hx rfl (hb hby d1_34) ?_
    show Steps p.tables e below (T0.setTop (mkF m 35 #[.val (.int i0)] [(.int (0 : Int32))])) _
    exact retN X0 hx (t := .boolean) hret (by simp) (hb hby d1_35) hr
  · have pre2 : ∀ target, Steps p.tables e below (T0.setTop (mkF m 9 #[.val (.int i0)] [(.int (32 : Int32)), (.int i0)])) target → Steps p.tables e below (T0.setTop (mkF m 0 #[.val (.int i0)] [])) target := by
      intro target kt
      refine pre1 target ?_
      show Steps p.tables e below (T0.setTop (mkF m 3 #[.val (.int i0)] [(.int (32 : Int32)), (.int i0)])) _
      refine XS.icmpNo X0.here hx rfl (hb hby d1_3) rfl (flt hc3).2.2.1 ?_
      show Steps p.tables e below (T0.setTop (mkF m 6 #[.val (.int i0)] [])) _
      refine XS.iloadN X0.here hx rfl (hb hby d1_6) rfl ?_
      show Steps p.tables e below (T0.setTop (mkF m 7 #[.val (.int i0)] [(.int i0)])) _
      refine XS.bipush X0.here hx rfl (hb hby d1_7) ?_
      exact kt
    by_cases hc9 : i0 = (32 : Int32)
    · refine ⟨T0, X0, e0, fun fs hr => ?_⟩
      have hv : (own_f1_0 i0) = (1 : Int32) := by unfold own_f1_0; rw [if_neg hc3, if_pos hc9]
      rw [hv] at hr
      refine pre2 _ ?_
      show Steps p.tables e below (T0.setTop (mkF m 9 #[.val (.int i0)] [(.int (32 : Int32)), (.int i0)])) _
      refine XS.icmpYes X0.here hx rfl (pc0 := 9) (pc' := 30) rfl (hb hby d1_9) rfl (teq hc9).1 (by decide) (by decide) ?_
      show Steps p.tables e below (T0.setTop (mkF m 30 #[.val (.int i0)] [])) _
      refine XS.iconst X0.here hx rfl (hb hby d1_30) ?_
      show Steps p.tables e below (T0.setTop (mkF m 31 #[.val (.int i0)] [(.int (1 : Int32))])) _
      refine XS.goto X0.here hx rfl (pc0 := 31) (pc' := 35) rfl (hb hby d1_31) (by decide) (by decide) ?_
      show Steps p.tables e below (T0.setTop (mkF m 35 #[.val (.int i0)] [(.int (1 : Int32))])) _
      exact retN X0 hx (t := .boolean) hret (by simp) (hb hby d1_35) hr
    · have pre3 : ∀ target, Steps p.tables e below (T0.setTop (mkF m 15 #[.val (.int i0)] [(.int (9 : Int32)), (.int i0)])) target → Steps p.tables e below (T0.setTop (mkF m 0 #[.val (.int i0)] [])) target := by
        intro target kt
        refine pre2 target ?_
        show Steps p.tables e below (T0.setTop (mkF m 9 #[.val (.int i0)] [(.int (32 : Int32)), (.int i0)])) _
        refine XS.icmpNo X0.here hx rfl (hb hby d1_9) rfl (feq hc9).1 ?_
        show Steps p.tables e below (T0.setTop (mkF m 12 #[.val (.int i0)] [])) _
        refine XS.iloadN X0.here hx rfl (hb hby d1_12) rfl ?_
        show Steps p.tables e below (T0.setTop (mkF m 13 #[.val (.int i0)] [(.int i0)])) _
        refine XS.bipush X0.here hx rfl (hb hby d1_13) ?_
        exact kt
      by_cases hc15 : i0 = (9 : Int32)
      · refine ⟨T0, X0, e0, fun fs hr => ?_⟩
        have hv : (own_f1_0 i0) = (1 : Int32) := by unfold own_f1_0; rw [if_neg hc3, if_neg hc9, if_pos hc15]
        rw [hv] at hr
        refine pre3 _ ?_
        show Steps p.tables e below (T0.setTop (mkF m 15 #[.val (.int i0)] [(.int (9 : Int32)), (.int i0)])) _
        refine XS.icmpYes X0.here hx rfl (pc0 := 15) (pc' := 30) rfl (hb hby d1_15) rfl (teq hc15).1 (by decide) (by decide) ?_
        show Steps p.tables e below (T0.setTop (mkF m 30 #[.val (.int i0)] [])) _
        refine XS.iconst X0.here hx rfl (hb hby d1_30) ?_
        show Steps p.tables e below (T0.setTop (mkF m 31 #[.val (.int i0)] [(.int (1 : Int32))])) _
        refine XS.goto X0.here hx rfl (pc0 := 31) (pc' := 35) rfl (hb hby d1_31) (by decide) (by decide) ?_
        show Steps p.tables e below (T0.setTop (mkF m 35 #[.val (.int i0)] [(.int (1 : Int32))])) _
        exact retN X0 hx (t := .boolean) hret (by simp) (hb hby d1_35) hr
      · have pre4 : ∀ target, Steps p.tables e below (T0.setTop (mkF m 21 #[.val (.int i0)] [(.int (10 : Int32)), (.int i0)])) target → Steps p.tables e below (T0.setTop (mkF m 0 #[.val (.int i0)] [])) target := by
          intro target kt
          refine pre3 target ?_
          show Steps p.tables e below (T0.setTop (mkF m 15 #[.val (.int i0)] [(.int (9 : Int32)), (.int i0)])) _
          refine XS.icmpNo X0.here hx rfl (hb hby d1_15) rfl (feq hc15).1 ?_
          show Steps p.tables e below (T0.setTop (mkF m 18 #[.val (.int i0)] [])) _
          refine XS.iloadN X0.here hx rfl (hb hby d1_18) rfl ?_
          show Steps p.tables e below (T0.setTop (mkF m 19 #[.val (.int i0)] [(.int i0)])) _
          refine XS.bipush X0.here hx rfl (hb hby d1_19) ?_
          exact kt
        by_cases hc21 : i0 = (10 : Int32)
        · refine ⟨T0, X0, e0, fun fs hr => ?_⟩
          have hv : (own_f1_0 i0) = (1 : Int32) := by unfold own_f1_0; rw [if_neg hc3, if_neg hc9, if_neg hc15, if_pos hc21]
          rw [hv] at hr
          refine pre4 _ ?_
          show Steps p.tables e below (T0.setTop (mkF m 21 #[.val (.int i0)] [(.int (10 : Int32)), (.int i0)])) _
          refine XS.icmpYes X0.here hx rfl (pc0 := 21) (pc' := 30) rfl (hb hby d1_21) rfl (teq hc21).1 (by decide) (by decide) ?_
          show Steps p.tables e below (T0.setTop (mkF m 30 #[.val (.int i0)] [])) _
          refine XS.iconst X0.here hx rfl (hb hby d1_30) ?_
          show Steps p.tables e below (T0.setTop (mkF m 31 #[.val (.int i0)] [(.int (1 : Int32))])) _
          refine XS.goto X0.here hx rfl (pc0 := 31) (pc' := 35) rfl (hb hby d1_31) (by decide) (by decide) ?_
          show Steps p.tables e below (T0.setTop (mkF m 35 #[.val (.int i0)] [(.int (1 : Int32))])) _
          exact retN X0 hx (t := .boolean) hret (by simp) (hb hby d1_35) hr
        · have pre5 : ∀ target, Steps p.tables e below (T0.setTop (mkF m 27 #[.val (.int i0)] [(.int (13 : Int32)), (.int i0)])) target → Steps p.tables e below (T0.setTop (mkF m 0 #[.val (.int i0)] [])) target := by
            intro target kt
            refine pre4 target ?_
            show Steps p.tables e below (T0.setTop (mkF m 21 #[.val (.int i0)] [(.int (10 : Int32)), (.int i0)])) _
            refine XS.icmpNo X0.here hx rfl (hb hby d1_21) rfl (feq hc21).1 ?_
            show Steps p.tables e below (T0.setTop (mkF m 24 #[.val (.int i0)] [])) _
            refine XS.iloadN X0.here hx rfl (hb hby d1_24) rfl ?_
            show Steps p.tables e below (T0.setTop (mkF m 25 #[.val (.int i0)] [(.int i0)])) _
            refine XS.bipush X0.here hx rfl (hb hby d1_25) ?_
            exact kt
          by_cases hc27 : i0 = (13 : Int32)
          · refine ⟨T0, X0, e0, fun fs hr => ?_⟩
            have hv : (own_f1_0 i0) = (1 : Int32) := by unfold own_f1_0; rw [if_neg hc3, if_neg hc9, if_neg hc15, if_neg hc21, if_pos hc27]
            rw [hv] at hr
            refine pre5 _ ?_
            show Steps p.tables e below (T0.setTop (mkF m 27 #[.val (.int i0)] [(.int (13 : Int32)), (.int i0)])) _
            refine XS.icmpNo X0.here hx rfl (hb hby d1_27) rfl (teq hc27).2 ?_
            show Steps p.tables e below (T0.setTop (mkF m 30 #[.val (.int i0)] [])) _
            refine XS.iconst X0.here hx rfl (hb hby d1_30) ?_
            show Steps p.tables e below (T0.setTop (mkF m 31 #[.val (.int i0)] [(.int (1 : Int32))])) _
            refine XS.goto X0.here hx rfl (pc0 := 31) (pc' := 35) rfl (hb hby d1_31) (by decide) (by decide) ?_
            show Steps p.tables e below (T0.setTop (mkF m 35 #[.val (.int i0)] [(.int (1 : Int32))])) _
            exact retN X0 hx (t := .boolean) hret (by simp) (hb hby d1_35) hr
          · refine ⟨T0, X0, e0, fun fs hr => ?_⟩
            have hv : (own_f1_0 i0) = (0 : Int32) := by unfold own_f1_0; rw [if_neg hc3, if_neg hc9, if_neg hc15, if_neg hc21, if_neg hc27]
            rw [hv] at hr
            refine pre5 _ ?_
            show Steps p.tables e below (T0.setTop (mkF m 27 #[.val (.int i0)] [(.int (13 : Int32)), (.int i0)])) _
            refine XS.icmpYes X0.here hx rfl (pc0 := 27) (pc' := 34) rfl (hb hby d1_27) rfl (feq hc27).2 (by decide) (by decide) ?_
            show Steps p.tables e below (T0.setTop (mkF m 34 #[.val (.int i0)] [])) _
            refine XS.iconst X0.here hx rfl (hb hby d1_34) ?_
            show Steps p.tables e below (T0.setTop (mkF m 35 #[.val (.int i0)] [(.int (0 : Int32))])) _
            exact retN X0 hx (t := .boolean) hret (by simp) (hb hby d1_35) hr
def Q1 (Z : State) (i0 : Int32) (h0 : Heap) (n0 : Nat) (v : Option Value) (h : Heap) (L : List Loc) : Prop := v = some (.int (own_f1_0 i0)) ∧ L = [] ∧ h = h0
set_option maxRecDepth 65536 in
set_option maxHeartbeats 40000000 in
theorem rm1 (l : Launch) (Z : State) (a0_ : Array Value) (hw : ∀ d ∈ tables_1, d.before a0_ Z = true) (ws : List Jvm.Cond) (i0 : Int32) (h0 : Heap) (n0 : Nat) (Z0 : n0 ≤ h0.size)  :
    MetFree l (⟨"com/example/open_brace/openbrace/io/Input", "isWhitespace", "(I)Z"⟩ : MethodName) (head1 (Jvm.Cond.code (⟨"com/example/open_brace/openbrace/io/Input", "isWhitespace", "(I)Z"⟩ : MethodName) prog_44_method_19_code 1 (some .boolean) :: ws) ({ frames := 0, cells := 0, slots := 0, locals := 0 } : Room)) (fun a U => a = #[(.int i0)] ∧ Z.Warmed39 U.vm ∧ U.heap = h0) (fun _ _ _ _ _ => True) (fun _ U o U' => ∃ v L, o = .returned v ∧ Q1 Z i0 h0 n0 v U'.heap L ∧ FrameEnd U o U' L ({ frames := 0, cells := 0, slots := 0, locals := 0 } : Room).cells ({ frames := 0, cells := 0, slots := 0, locals := 0 } : Room).slots) := by
  refine MetFree.of_bodySF (plainFor_of_name pn_1) hisR ?_
  intro p e s m args below meth c s₁ Bd hml0 hP hK
  obtain ⟨rfl, hZ, hh⟩ := hP
  have hx := Bd.exec
  have hby := Bd.bytes
  have hml : c.maxLocals = 1 := hml0
  have hown : s.vm.findClass "com/example/open_brace/openbrace/io/Input" = some m.cls := findClass_of_methodNamed Bd.named
  have X0 : Stand p l e ({ frames := 0, cells := 0, slots := 0, locals := 0 } : Room) s m #[(.int i0)] below meth c s₁ [] 0 0 := Stand.of_body Bd
  have e0 : s₁.heap = h0 := by rw [← hh, Bd.state]; rfl
  obtain ⟨T', X', e', st'⟩ := own_b1_0 hx hZ hw hby hml hown Bd.returns  i0 X0 e0 (by decide) (by decide) 
  obtain ⟨fs, hr, hrun, hended, hW, hsame⟩ := X'.leave (v := some (.int (own_f1_0 i0))) (fun h => by rw [Bd.returns] at h; cases h)
  refine ⟨_, _, castTop (ef_1 m i0) (st' fs hr), hrun, hended, _, _, rfl, ?_, ⟨_, rfl⟩, hW, hsame.mono (by decide) (by decide)⟩
  exact ⟨rfl, rfl, e'⟩
theorem pn_0 : plainName "com/example/open_brace/openbrace/io/InputIsWhitespacePinLaw" = true := by first | (simp [plainName, overriddenIn]; done) | decide +kernel
theorem pd_0_0 : parseMethodDescriptor "(I)Z" = some ⟨[.int], some .boolean⟩ := by decide +kernel
theorem ef_0 (m : MethodId) (i0 : Int32) (i1 : Int32) : entryFrame m #[(.int i0), (.int i1)] maxLocals = mkF m 0 #[.val (.int i0), .val (.int i1), .unset, .unset, .unset] [] := by first | (simp [entryFrame, mkF, argsToLocals, Value.category, maxLocals]; done) | rfl
def own_f0_123 (i0 : Int32) (i1 : Int32) (i2 : Int32) (i3 : Int32) (u0 : Int32) : Int32 :=
  (if (own_f1_0 i3) = u0 then (1 : Int32) else (0 : Int32))
def own_f0_118 (i0 : Int32) (i1 : Int32) (i2 : Int32) (i3 : Int32) : Int32 :=
  (own_f0_123 i0 i1 i2 i3 (1 : Int32))
def own_f0_94 (i0 : Int32) (i1 : Int32) (i2 : Int32) (i3 : Int32) : Int32 :=
  (if i3 = (9 : Int32) then (own_f0_118 i0 i1 i2 i3) else (if i3 = (10 : Int32) then (own_f0_118 i0 i1 i2 i3) else (if i3 = (13 : Int32) then (own_f0_118 i0 i1 i2 i3) else (if i3 = (32 : Int32) then (own_f0_118 i0 i1 i2 i3) else (own_f0_123 i0 i1 i2 i3 (0 : Int32))))))
def own_f0_0 (i0 : Int32) (i1 : Int32) : Int32 :=
  (if (i1 &&& (7 : Int32)) = (0 : Int32) then (own_f0_94 i0 i1 (i1 &&& (7 : Int32)) i0) else (if (i1 &&& (7 : Int32)) = (1 : Int32) then (own_f0_94 i0 i1 (i1 &&& (7 : Int32)) (i0 &&& (255 : Int32))) else (if (i1 &&& (7 : Int32)) = (2 : Int32) then (own_f0_94 i0 i1 (i1 &&& (7 : Int32)) ((i0 &&& (63 : Int32)) - (8 : Int32))) else (if (i1 &&& (7 : Int32)) = (3 : Int32) then (own_f0_94 i0 i1 (i1 &&& (7 : Int32)) (9 : Int32)) else (if (i1 &&& (7 : Int32)) = (4 : Int32) then (own_f0_94 i0 i1 (i1 &&& (7 : Int32)) (10 : Int32)) else (if (i1 &&& (7 : Int32)) = (5 : Int32) then (own_f0_94 i0 i1 (i1 &&& (7 : Int32)) (13 : Int32)) else (if (i1 &&& (7 : Int32)) = (6 : Int32) then (own_f0_94 i0 i1 (i1 &&& (7 : Int32)) (32 : Int32)) else (own_f0_94 i0 i1 (i1 &&& (7 : Int32)) (i0 &&& (65535 : Int32))))))))))
set_option maxRecDepth 65536 in
set_option maxHeartbeats 40000000 in
theorem own_b0_123 {p : Program} {l : Launch} {e : Env} {s : State} {m : MethodId} {args : Array Value} {below : List Frame} {meth : Method} {c : Code} {Z : State} {a0_ : Array Value} (hx : p.tables.exec = Jvm.exec) (hZ : Z.Warmed39 s.vm) (hw : ∀ d ∈ tables_1, d.before a0_ Z = true) (hby : c.code = code) (hml : c.maxLocals = 5) (hown : s.vm.findClass "com/example/open_brace/openbrace/io/InputIsWhitespacePinLaw" = some m.cls) (hret : meth.sig.returnType = some .boolean) {T0 : State} {locs : List Loc} {cells slots : Nat} {h0 : Heap} (i0 : Int32) (i1 : Int32) (i2 : Int32) (i3 : Int32) (u0 : Int32)
    (X0 : Stand p l e room_1 s m args below meth c T0 locs cells slots) (e0 : T0.heap = h0) (hcl : cells ≤ room_1.cells) (hsl : slots ≤ room_1.slots)  :
    ∃ T', Stand p l e room_1 s m args below meth c T' locs cells slots ∧ T'.heap = h0 ∧ ∀ fs, (∀ (f : JFrame) (acts : List Action), f.method = m → f.locked = none → f.entered = [] → (doReturn e (T'.setTop f) acts (some (.int (own_f0_123 i0 i1 i2 i3 u0)))).1 = T'.setFrames fs) → Steps p.tables e below (T0.setTop (mkF m 123 #[.val (.int i0), .val (.int i1), .val (.int i2), .val (.int i3), .unset] [(.int u0)])) (T'.setFrames fs) := by
  obtain ⟨_, _, ⟨T1, L1, k1, n1⟩, -, X1, ⟨Lc1, hQ1, l1, y1, z1⟩, st1⟩ := Jvm.LawKit.callS X0 hx (y := (⟨"com/example/open_brace/openbrace/io/Input", "isWhitespace", "(I)Z"⟩ : MethodName)) hown (mvT hZ (hw _ (List.mem_of_getElem? (i := 0) rfl))) (mvT hZ (hw _ (List.mem_of_getElem? (i := 1) rfl))) (mvT hZ (hw _ (List.mem_of_getElem? (i := 2) rfl))) (mvT hZ (hw _ (List.mem_of_getElem? (i := 3) rfl))) (by decide) (backOf (W := 0) (rm1 l Z a0_ hw [] i3  h0 0 (Nat.zero_le _) ) hZ (hw _ (List.mem_of_getElem? (i := 3) rfl)) (hw _ (List.mem_of_getElem? (i := 2) rfl)) (by decide) (by decide)) (g := (mkF m 126 #[.val (.int i0), .val (.int i1), .val (.int i2), .val (.int i3), .val (.int u0)] [(.int i3)])) rfl (by rw [hml]; rfl) (argsL := [(.int i3)]) (rest := []) (lenOf pd_0_0 rfl) rfl (by show 2 * 0 + _ ≤ _; exact Nat.le_of_eq rfl) (hb hby at_126) (fun _ _ => ⟨rfl, e0, hcl, hsl⟩)
  dsimp only [Pt.U, Pt.locs, Pt.cells, Pt.slots] at X1 l1 y1 z1 st1 hQ1
  subst l1 y1 z1
  obtain ⟨rfl, rfl, e1⟩ := hQ1
  rw [List.append_nil] at X1
  have pre2 : ∀ target, Steps p.tables e below (T1.setTop (mkF m 131 #[.val (.int i0), .val (.int i1), .val (.int i2), .val (.int i3), .val (.int u0)] [(.int u0), (.int (own_f1_0 i3))])) target → Steps p.tables e below (T0.setTop (mkF m 123 #[.val (.int i0), .val (.int i1), .val (.int i2), .val (.int i3), .unset] [(.int u0)])) target := by
    intro target kt
    show Steps p.tables e below (T0.setTop (mkF m 123 #[.val (.int i0), .val (.int i1), .val (.int i2), .val (.int i3), .unset] [(.int u0)])) _
    refine XS.istore X0.here hx rfl (hb hby at_123) rfl (l' := #[.val (.int i0), .val (.int i1), .val (.int i2), .val (.int i3), .val (.int u0)]) rfl ?_
    show Steps p.tables e below (T0.setTop (mkF m 125 #[.val (.int i0), .val (.int i1), .val (.int i2), .val (.int i3), .val (.int u0)] [])) _
    refine XS.iloadN X0.here hx rfl (hb hby at_125) rfl ?_
    show Steps p.tables e below (T0.setTop (mkF m 126 #[.val (.int i0), .val (.int i1), .val (.int i2), .val (.int i3), .val (.int u0)] [(.int i3)])) _
    refine st1 _ ?_
    show Steps p.tables e below (T1.setTop (mkF m 129 #[.val (.int i0), .val (.int i1), .val (.int i2), .val (.int i3), .val (.int u0)] [(.int (own_f1_0 i3))])) _
    refine XS.iload X1.here hx rfl (hb hby at_129) rfl ?_
    exact kt
  by_cases hc131 : (own_f1_0 i3) = u0
  · refine ⟨T1, X1, e1, fun fs hr => ?_⟩
    have hv : (own_f0_123 i0 i1 i2 i3 u0) = (1 : Int32) := by unfold own_f0_123; rw [if_pos hc131]
    rw [hv] at hr
    refine pre2 _ ?_
    show Steps p.tables e below (T1.setTop (mkF m 131 #[.val (.int i0), .val (.int i1), .val (.int i2), .val (.int i3), .val (.int u0)] [(.int u0), (.int (own_f1_0 i3))])) _
    refine XS.icmpNo X1.here hx rfl (hb hby at_131) rfl (teq hc131).2 ?_
    show Steps p.tables e below (T1.setTop (mkF m 134 #[.val (.int i0), .val (.int i1), .val (.int i2), .val (.int i3), .val (.int u0)] [])) _
    refine XS.iconst X1.here hx rfl (hb hby at_134) ?_
    show Steps p.tables e below (T1.setTop (mkF m 135 #[.val (.int i0), .val (.int i1), .val (.int i2), .val (.int i3), .val (.int u0)] [(.int (1 : Int32))])) _
    refine XS.goto X1.here hx rfl (pc0 := 135) (pc' := 139) rfl (hb hby at_135) (by decide) (by decide) ?_
    show Steps p.tables e below (T1.setTop (mkF m 139 #[.val (.int i0), .val (.int i1), .val (.int i2), .val (.int i3), .val (.int u0)] [(.int (1 : Int32))])) _
    exact retN X1 hx (t := .boolean) hret (by simp) (hb hby at_139) hr
  · refine ⟨T1, X1, e1, fun fs hr => ?_⟩
    have hv : (own_f0_123 i0 i1 i2 i3 u0) = (0 : Int32) := by unfold own_f0_123; rw [if_neg hc131]
    rw [hv] at hr
    refine pre2 _ ?_
    show Steps p.tables e below (T1.setTop (mkF m 131 #[.val (.int i0), .val (.int i1), .val (.int i2), .val (.int i3), .val (.int u0)] [(.int u0), (.int (own_f1_0 i3))])) _
    refine XS.icmpYes X1.here hx rfl (pc0 := 131) (pc' := 138) rfl (hb hby at_131) rfl (feq hc131).2 (by decide) (by decide) ?_
    show Steps p.tables e below (T1.setTop (mkF m 138 #[.val (.int i0), .val (.int i1), .val (.int i2), .val (.int i3), .val (.int u0)] [])) _
    refine XS.iconst X1.here hx rfl (hb hby at_138) ?_
    show Steps p.tables e below (T1.setTop (mkF m 139 #[.val (.int i0), .val (.int i1), .val (.int i2), .val (.int i3), .val (.int u0)] [(.int (0 : Int32))])) _
    exact retN X1 hx (t := .boolean) hret (by simp) (hb hby at_139) hr
set_option maxRecDepth 65536 in
set_option maxHeartbeats 40000000 in
theorem own_b0_118 {p : Program} {l : Launch} {e : Env} {s : State} {m : MethodId} {args : Array Value} {below : List Frame} {meth : Method} {c : Code} {Z : State} {a0_ : Array Value} (hx : p.tables.exec = Jvm.exec) (hZ : Z.Warmed39 s.vm) (hw : ∀ d ∈ tables_1, d.before a0_ Z = true) (hby : c.code = code) (hml : c.maxLocals = 5) (hown : s.vm.findClass "com/example/open_brace/openbrace/io/InputIsWhitespacePinLaw" = some m.cls) (hret : meth.sig.returnType = some .boolean) {T0 : State} {locs : List Loc} {cells slots : Nat} {h0 : Heap} (i0 : Int32) (i1 : Int32) (i2 : Int32) (i3 : Int32)
    (X0 : Stand p l e room_1 s m args below meth c T0 locs cells slots) (e0 : T0.heap = h0) (hcl : cells ≤ room_1.cells) (hsl : slots ≤ room_1.slots)  :
    ∃ T', Stand p l e room_1 s m args below meth c T' locs cells slots ∧ T'.heap = h0 ∧ ∀ fs, (∀ (f : JFrame) (acts : List Action), f.method = m → f.locked = none → f.entered = [] → (doReturn e (T'.setTop f) acts (some (.int (own_f0_118 i0 i1 i2 i3)))).1 = T'.setFrames fs) → Steps p.tables e below (T0.setTop (mkF m 118 #[.val (.int i0), .val (.int i1), .val (.int i2), .val (.int i3), .unset] [])) (T'.setFrames fs) := by
  have pre1 : ∀ target, Steps p.tables e below (T0.setTop (mkF m 123 #[.val (.int i0), .val (.int i1), .val (.int i2), .val (.int i3), .unset] [(.int (1 : Int32))])) target → Steps p.tables e below (T0.setTop (mkF m 118 #[.val (.int i0), .val (.int i1), .val (.int i2), .val (.int i3), .unset] [])) target := by
    intro target kt
    show Steps p.tables e below (T0.setTop (mkF m 118 #[.val (.int i0), .val (.int i1), .val (.int i2), .val (.int i3), .unset] [])) _
    refine XS.iconst X0.here hx rfl (hb hby at_118) ?_
    show Steps p.tables e below (T0.setTop (mkF m 119 #[.val (.int i0), .val (.int i1), .val (.int i2), .val (.int i3), .unset] [(.int (1 : Int32))])) _
    refine XS.goto X0.here hx rfl (pc0 := 119) (pc' := 123) rfl (hb hby at_119) (by decide) (by decide) ?_
    exact kt
  obtain ⟨T2, X2, e2, st2⟩ := own_b0_123 hx hZ hw hby hml hown hret i0 i1 i2 i3 (1 : Int32)  X0 e0 hcl hsl  
  have hv : (own_f0_118 i0 i1 i2 i3) = (own_f0_123 i0 i1 i2 i3 (1 : Int32)) := by unfold own_f0_118; rfl
  exact ⟨T2, X2, e2, fun fs hr => pre1 _ (st2 fs (by rw [hv] at hr; exact hr))⟩
set_option maxRecDepth 65536 in
set_option maxHeartbeats 40000000 in
theorem own_b0_94 {p : Program} {l : Launch} {e : Env} {s : State} {m : MethodId} {args : Array Value} {below : List Frame} {meth : Method} {c : Code} {Z : State} {a0_ : Array Value} (hx : p.tables.exec = Jvm.exec) (hZ : Z.Warmed39 s.vm) (hw : ∀ d ∈ tables_1, d.before a0_ Z = true) (hby : c.code = code) (hml : c.maxLocals = 5) (hown : s.vm.findClass "com/example/open_brace/openbrace/io/InputIsWhitespacePinLaw" = some m.cls) (hret : meth.sig.returnType = some .boolean) {T0 : State} {locs : List Loc} {cells slots : Nat} {h0 : Heap} (i0 : Int32) (i1 : Int32) (i2 : Int32) (i3 : Int32)
    (X0 : Stand p l e room_1 s m args below meth c T0 locs cells slots) (e0 : T0.heap = h0) (hcl : cells ≤ room_1.cells) (hsl : slots ≤ room_1.slots)  :
    ∃ T', Stand p l e room_1 s m args below meth c T' locs cells slots ∧ T'.heap = h0 ∧ ∀ fs, (∀ (f : JFrame) (acts : List Action), f.method = m → f.locked = none → f.entered = [] → (doReturn e (T'.setTop f) acts (some (.int (own_f0_94 i0 i1 i2 i3)))).1 = T'.setFrames fs) → Steps p.tables e below (T0.setTop (mkF m 94 #[.val (.int i0), .val (.int i1), .val (.int i2), .val (.int i3), .unset] [])) (T'.setFrames fs) := by
  have pre1 : ∀ target, Steps p.tables e below (T0.setTop (mkF m 97 #[.val (.int i0), .val (.int i1), .val (.int i2), .val (.int i3), .unset] [(.int (9 : Int32)), (.int i3)])) target → Steps p.tables e below (T0.setTop (mkF m 94 #[.val (.int i0), .val (.int i1), .val (.int i2), .val (.int i3), .unset] [])) target := by
    intro target kt
    show Steps p.tables e below (T0.setTop (mkF m 94 #[.val (.int i0), .val (.int i1), .val (.int i2), .val (.int i3), .unset] [])) _
    refine XS.iloadN X0.here hx rfl (hb hby at_94) rfl ?_
    show Steps p.tables e below (T0.setTop (mkF m 95 #[.val (.int i0), .val (.int i1), .val (.int i2), .val (.int i3), .unset] [(.int i3)])) _
    refine XS.bipush X0.here hx rfl (hb hby at_95) ?_
    exact kt
  by_cases hc97 : i3 = (9 : Int32)
  · have pre2 : ∀ target, Steps p.tables e below (T0.setTop (mkF m 118 #[.val (.int i0), .val (.int i1), .val (.int i2), .val (.int i3), .unset] [])) target → Steps p.tables e below (T0.setTop (mkF m 94 #[.val (.int i0), .val (.int i1), .val (.int i2), .val (.int i3), .unset] [])) target := by
      intro target kt
      refine pre1 target ?_
      show Steps p.tables e below (T0.setTop (mkF m 97 #[.val (.int i0), .val (.int i1), .val (.int i2), .val (.int i3), .unset] [(.int (9 : Int32)), (.int i3)])) _
      refine XS.icmpYes X0.here hx rfl (pc0 := 97) (pc' := 118) rfl (hb hby at_97) rfl (teq hc97).1 (by decide) (by decide) ?_
      exact kt
    obtain ⟨T3, X3, e3, st3⟩ := own_b0_118 hx hZ hw hby hml hown hret i0 i1 i2 i3  X0 e0 hcl hsl  
    have hv : (own_f0_94 i0 i1 i2 i3) = (own_f0_118 i0 i1 i2 i3) := by unfold own_f0_94; rw [if_pos hc97]
    exact ⟨T3, X3, e3, fun fs hr => pre2 _ (st3 fs (by rw [hv] at hr; exact hr))⟩
  · have pre4 : ∀ target, Steps p.tables e below (T0.setTop (mkF m 103 #[.val (.int i0), .val (.int i1), .val (.int i2), .val (.int i3), .unset] [(.int (10 : Int32)), (.int i3)])) target → Steps p.tables e below (T0.setTop (mkF m 94 #[.val (.int i0), .val (.int i1), .val (.int i2), .val (.int i3), .unset] [])) target := by
      intro target kt
      refine pre1 target ?_
      show Steps p.tables e below (T0.setTop (mkF m 97 #[.val (.int i0), .val (.int i1), .val (.int i2), .val (.int i3), .unset] [(.int (9 : Int32)), (.int i3)])) _
      refine XS.icmpNo X0.here hx rfl (hb hby at_97) rfl (feq hc97).1 ?_
      show Steps p.tables e below (T0.setTop (mkF m 100 #[.val (.int i0), .val (.int i1), .val (.int i2), .val (.int i3), .unset] [])) _
      refine XS.iloadN X0.here hx rfl (hb hby at_100) rfl ?_
      show Steps p.tables e below (T0.setTop (mkF m 101 #[.val (.int i0), .val (.int i1), .val (.int i2), .val (.int i3), .unset] [(.int i3)])) _
      refine XS.bipush X0.here hx rfl (hb hby at_101) ?_
      exact kt
    by_cases hc103 : i3 = (10 : Int32)
    · have pre5 : ∀ target, Steps p.tables e below (T0.setTop (mkF m 118 #[.val (.int i0), .val (.int i1), .val (.int i2), .val (.int i3), .unset] [])) target → Steps p.tables e below (T0.setTop (mkF m 94 #[.val (.int i0), .val (.int i1), .val (.int i2), .val (.int i3), .unset] [])) target := by
        intro target kt
        refine pre4 target ?_
        show Steps p.tables e below (T0.setTop (mkF m 103 #[.val (.int i0), .val (.int i1), .val (.int i2), .val (.int i3), .unset] [(.int (10 : Int32)), (.int i3)])) _
        refine XS.icmpYes X0.here hx rfl (pc0 := 103) (pc' := 118) rfl (hb hby at_103) rfl (teq hc103).1 (by decide) (by decide) ?_
        exact kt
      obtain ⟨T6, X6, e6, st6⟩ := own_b0_118 hx hZ hw hby hml hown hret i0 i1 i2 i3  X0 e0 hcl hsl  
      have hv : (own_f0_94 i0 i1 i2 i3) = (own_f0_118 i0 i1 i2 i3) := by unfold own_f0_94; rw [if_neg hc97, if_pos hc103]
      exact ⟨T6, X6, e6, fun fs hr => pre5 _ (st6 fs (by rw [hv] at hr; exact hr))⟩
    · have pre7 : ∀ target, Steps p.tables e below (T0.setTop (mkF m 109 #[.val (.int i0), .val (.int i1), .val (.int i2), .val (.int i3), .unset] [(.int (13 : Int32)), (.int i3)])) target → Steps p.tables e below (T0.setTop (mkF m 94 #[.val (.int i0), .val (.int i1), .val (.int i2), .val (.int i3), .unset] [])) target := by
        intro target kt
        refine pre4 target ?_
        show Steps p.tables e below (T0.setTop (mkF m 103 #[.val (.int i0), .val (.int i1), .val (.int i2), .val (.int i3), .unset] [(.int (10 : Int32)), (.int i3)])) _
        refine XS.icmpNo X0.here hx rfl (hb hby at_103) rfl (feq hc103).1 ?_
        show Steps p.tables e below (T0.setTop (mkF m 106 #[.val (.int i0), .val (.int i1), .val (.int i2), .val (.int i3), .unset] [])) _
        refine XS.iloadN X0.here hx rfl (hb hby at_106) rfl ?_
        show Steps p.tables e below (T0.setTop (mkF m 107 #[.val (.int i0), .val (.int i1), .val (.int i2), .val (.int i3), .unset] [(.int i3)])) _
        refine XS.bipush X0.here hx rfl (hb hby at_107) ?_
        exact kt
      by_cases hc109 : i3 = (13 : Int32)
      · have pre8 : ∀ target, Steps p.tables e below (T0.setTop (mkF m 118 #[.val (.int i0), .val (.int i1), .val (.int i2), .val (.int i3), .unset] [])) target → Steps p.tables e below (T0.setTop (mkF m 94 #[.val (.int i0), .val (.int i1), .val (.int i2), .val (.int i3), .unset] [])) target := by
          intro target kt
          refine pre7 target ?_
          show Steps p.tables e below (T0.setTop (mkF m 109 #[.val (.int i0), .val (.int i1), .val (.int i2), .val (.int i3), .unset] [(.int (13 : Int32)), (.int i3)])) _
          refine XS.icmpYes X0.here hx rfl (pc0 := 109) (pc' := 118) rfl (hb hby at_109) rfl (teq hc109).1 (by decide) (by decide) ?_
          exact kt
        obtain ⟨T9, X9, e9, st9⟩ := own_b0_118 hx hZ hw hby hml hown hret i0 i1 i2 i3  X0 e0 hcl hsl  
        have hv : (own_f0_94 i0 i1 i2 i3) = (own_f0_118 i0 i1 i2 i3) := by unfold own_f0_94; rw [if_neg hc97, if_neg hc103, if_pos hc109]
        exact ⟨T9, X9, e9, fun fs hr => pre8 _ (st9 fs (by rw [hv] at hr; exact hr))⟩
      · have pre10 : ∀ target, Steps p.tables e below (T0.setTop (mkF m 115 #[.val (.int i0), .val (.int i1), .val (.int i2), .val (.int i3), .unset] [(.int (32 : Int32)), (.int i3)])) target → Steps p.tables e below (T0.setTop (mkF m 94 #[.val (.int i0), .val (.int i1), .val (.int i2), .val (.int i3), .unset] [])) target := by
          intro target kt
          refine pre7 target ?_
          show Steps p.tables e below (T0.setTop (mkF m 109 #[.val (.int i0), .val (.int i1), .val (.int i2), .val (.int i3), .unset] [(.int (13 : Int32)), (.int i3)])) _
          refine XS.icmpNo X0.here hx rfl (hb hby at_109) rfl (feq hc109).1 ?_
          show Steps p.tables e below (T0.setTop (mkF m 112 #[.val (.int i0), .val (.int i1), .val (.int i2), .val (.int i3), .unset] [])) _
          refine XS.iloadN X0.here hx rfl (hb hby at_112) rfl ?_
          show Steps p.tables e below (T0.setTop (mkF m 113 #[.val (.int i0), .val (.int i1), .val (.int i2), .val (.int i3), .unset] [(.int i3)])) _
          refine XS.bipush X0.here hx rfl (hb hby at_113) ?_
          exact kt
        by_cases hc115 : i3 = (32 : Int32)
        · have pre11 : ∀ target, Steps p.tables e below (T0.setTop (mkF m 118 #[.val (.int i0), .val (.int i1), .val (.int i2), .val (.int i3), .unset] [])) target → Steps p.tables e below (T0.setTop (mkF m 94 #[.val (.int i0), .val (.int i1), .val (.int i2), .val (.int i3), .unset] [])) target := by
            intro target kt
            refine pre10 target ?_
            show Steps p.tables e below (T0.setTop (mkF m 115 #[.val (.int i0), .val (.int i1), .val (.int i2), .val (.int i3), .unset] [(.int (32 : Int32)), (.int i3)])) _
            refine XS.icmpNo X0.here hx rfl (hb hby at_115) rfl (teq hc115).2 ?_
            exact kt
          obtain ⟨T12, X12, e12, st12⟩ := own_b0_118 hx hZ hw hby hml hown hret i0 i1 i2 i3  X0 e0 hcl hsl  
          have hv : (own_f0_94 i0 i1 i2 i3) = (own_f0_118 i0 i1 i2 i3) := by unfold own_f0_94; rw [if_neg hc97, if_neg hc103, if_neg hc109, if_pos hc115]
          exact ⟨T12, X12, e12, fun fs hr => pre11 _ (st12 fs (by rw [hv] at hr; exact hr))⟩
        · have pre13 : ∀ target, Steps p.tables e below (T0.setTop (mkF m 123 #[.val (.int i0), .val (.int i1), .val (.int i2), .val (.int i3), .unset] [(.int (0 : Int32))])) target → Steps p.tables e below (T0.setTop (mkF m 94 #[.val (.int i0), .val (.int i1), .val (.int i2), .val (.int i3), .unset] [])) target := by
            intro target kt
            refine pre10 target ?_
            show Steps p.tables e below (T0.setTop (mkF m 115 #[.val (.int i0), .val (.int i1), .val (.int i2), .val (.int i3), .unset] [(.int (32 : Int32)), (.int i3)])) _
            refine XS.icmpYes X0.here hx rfl (pc0 := 115) (pc' := 122) rfl (hb hby at_115) rfl (feq hc115).2 (by decide) (by decide) ?_
            show Steps p.tables e below (T0.setTop (mkF m 122 #[.val (.int i0), .val (.int i1), .val (.int i2), .val (.int i3), .unset] [])) _
            refine XS.iconst X0.here hx rfl (hb hby at_122) ?_
            exact kt
          obtain ⟨T14, X14, e14, st14⟩ := own_b0_123 hx hZ hw hby hml hown hret i0 i1 i2 i3 (0 : Int32)  X0 e0 hcl hsl  
          have hv : (own_f0_94 i0 i1 i2 i3) = (own_f0_123 i0 i1 i2 i3 (0 : Int32)) := by unfold own_f0_94; rw [if_neg hc97, if_neg hc103, if_neg hc109, if_neg hc115]
          exact ⟨T14, X14, e14, fun fs hr => pre13 _ (st14 fs (by rw [hv] at hr; exact hr))⟩
set_option maxRecDepth 65536 in
set_option maxHeartbeats 40000000 in
theorem own_b0_0 {p : Program} {l : Launch} {e : Env} {s : State} {m : MethodId} {args : Array Value} {below : List Frame} {meth : Method} {c : Code} {Z : State} {a0_ : Array Value} (hx : p.tables.exec = Jvm.exec) (hZ : Z.Warmed39 s.vm) (hw : ∀ d ∈ tables_1, d.before a0_ Z = true) (hby : c.code = code) (hml : c.maxLocals = 5) (hown : s.vm.findClass "com/example/open_brace/openbrace/io/InputIsWhitespacePinLaw" = some m.cls) (hret : meth.sig.returnType = some .boolean) {T0 : State} {locs : List Loc} {cells slots : Nat} {h0 : Heap} (i0 : Int32) (i1 : Int32)
    (X0 : Stand p l e room_1 s m args below meth c T0 locs cells slots) (e0 : T0.heap = h0) (hcl : cells ≤ room_1.cells) (hsl : slots ≤ room_1.slots)  :
    ∃ T', Stand p l e room_1 s m args below meth c T' locs cells slots ∧ T'.heap = h0 ∧ ∀ fs, (∀ (f : JFrame) (acts : List Action), f.method = m → f.locked = none → f.entered = [] → (doReturn e (T'.setTop f) acts (some (.int (own_f0_0 i0 i1)))).1 = T'.setFrames fs) → Steps p.tables e below (T0.setTop (mkF m 0 #[.val (.int i0), .val (.int i1), .unset, .unset, .unset] [])) (T'.setFrames fs) := by
  have pre1 : ∀ target, Steps p.tables e below (T0.setTop (mkF m 6 #[.val (.int i0), .val (.int i1), .val (.int (i1 &&& (7 : Int32))), .unset, .unset] [(.int (i1 &&& (7 : Int32)))])) target → Steps p.tables e below (T0.setTop (mkF m 0 #[.val (.int i0), .val (.int i1), .unset, .unset, .unset] [])) target := by
    intro target kt
    show Steps p.tables e below (T0.setTop (mkF m 0 #[.val (.int i0), .val (.int i1), .unset, .unset, .unset] [])) _
    refine XS.iloadN X0.here hx rfl (hb hby at_0) rfl ?_
    show Steps p.tables e below (T0.setTop (mkF m 1 #[.val (.int i0), .val (.int i1), .unset, .unset, .unset] [(.int i1)])) _
    refine XS.bipush X0.here hx rfl (hb hby at_1) ?_
    show Steps p.tables e below (T0.setTop (mkF m 3 #[.val (.int i0), .val (.int i1), .unset, .unset, .unset] [(.int (7 : Int32)), (.int i1)])) _
    refine XS.iand X0.here hx rfl (hb hby at_3) rfl ?_
    show Steps p.tables e below (T0.setTop (mkF m 4 #[.val (.int i0), .val (.int i1), .unset, .unset, .unset] [(.int (i1 &&& (7 : Int32)))])) _
    refine XS.istoreN X0.here hx rfl (hb hby at_4) rfl (l' := #[.val (.int i0), .val (.int i1), .val (.int (i1 &&& (7 : Int32))), .unset, .unset]) rfl ?_
    show Steps p.tables e below (T0.setTop (mkF m 5 #[.val (.int i0), .val (.int i1), .val (.int (i1 &&& (7 : Int32))), .unset, .unset] [])) _
    refine XS.iloadN X0.here hx rfl (hb hby at_5) rfl ?_
    exact kt
  by_cases hc6 : (i1 &&& (7 : Int32)) = (0 : Int32)
  · have pre2 : ∀ target, Steps p.tables e below (T0.setTop (mkF m 94 #[.val (.int i0), .val (.int i1), .val (.int (i1 &&& (7 : Int32))), .val (.int i0), .unset] [])) target → Steps p.tables e below (T0.setTop (mkF m 0 #[.val (.int i0), .val (.int i1), .unset, .unset, .unset] [])) target := by
      intro target kt
      refine pre1 target ?_
      show Steps p.tables e below (T0.setTop (mkF m 6 #[.val (.int i0), .val (.int i1), .val (.int (i1 &&& (7 : Int32))), .unset, .unset] [(.int (i1 &&& (7 : Int32)))])) _
      refine XS.ifNo X0.here hx rfl (hb hby at_6) rfl ((if0 _ _).trans (teq hc6).2) ?_
      show Steps p.tables e below (T0.setTop (mkF m 9 #[.val (.int i0), .val (.int i1), .val (.int (i1 &&& (7 : Int32))), .unset, .unset] [])) _
      refine XS.iloadN X0.here hx rfl (hb hby at_9) rfl ?_
      show Steps p.tables e below (T0.setTop (mkF m 10 #[.val (.int i0), .val (.int i1), .val (.int (i1 &&& (7 : Int32))), .unset, .unset] [(.int i0)])) _
      refine XS.istoreN X0.here hx rfl (hb hby at_10) rfl (l' := #[.val (.int i0), .val (.int i1), .val (.int (i1 &&& (7 : Int32))), .val (.int i0), .unset]) rfl ?_
      show Steps p.tables e below (T0.setTop (mkF m 11 #[.val (.int i0), .val (.int i1), .val (.int (i1 &&& (7 : Int32))), .val (.int i0), .unset] [])) _
      refine XS.goto X0.here hx rfl (pc0 := 11) (pc' := 94) rfl (hb hby at_11) (by decide) (by decide) ?_
      exact kt
    obtain ⟨T3, X3, e3, st3⟩ := own_b0_94 hx hZ hw hby hml hown hret i0 i1 (i1 &&& (7 : Int32)) i0  X0 e0 hcl hsl  
    have hv : (own_f0_0 i0 i1) = (own_f0_94 i0 i1 (i1 &&& (7 : Int32)) i0) := by unfold own_f0_0; rw [if_pos hc6]
    exact ⟨T3, X3, e3, fun fs hr => pre2 _ (st3 fs (by rw [hv] at hr; exact hr))⟩
  · have pre4 : ∀ target, Steps p.tables e below (T0.setTop (mkF m 16 #[.val (.int i0), .val (.int i1), .val (.int (i1 &&& (7 : Int32))), .unset, .unset] [(.int (1 : Int32)), (.int (i1 &&& (7 : Int32)))])) target → Steps p.tables e below (T0.setTop (mkF m 0 #[.val (.int i0), .val (.int i1), .unset, .unset, .unset] [])) target := by
      intro target kt
      refine pre1 target ?_
      show Steps p.tables e below (T0.setTop (mkF m 6 #[.val (.int i0), .val (.int i1), .val (.int (i1 &&& (7 : Int32))), .unset, .unset] [(.int (i1 &&& (7 : Int32)))])) _
      refine XS.ifYes X0.here hx rfl (pc0 := 6) (pc' := 14) rfl (hb hby at_6) rfl ((if0 _ _).trans (feq hc6).2) (by decide) (by decide) ?_
      show Steps p.tables e below (T0.setTop (mkF m 14 #[.val (.int i0), .val (.int i1), .val (.int (i1 &&& (7 : Int32))), .unset, .unset] [])) _
      refine XS.iloadN X0.here hx rfl (hb hby at_14) rfl ?_
      show Steps p.tables e below (T0.setTop (mkF m 15 #[.val (.int i0), .val (.int i1), .val (.int (i1 &&& (7 : Int32))), .unset, .unset] [(.int (i1 &&& (7 : Int32)))])) _
      refine XS.iconst X0.here hx rfl (hb hby at_15) ?_
      exact kt
    by_cases hc16 : (i1 &&& (7 : Int32)) = (1 : Int32)
    · have pre5 : ∀ target, Steps p.tables e below (T0.setTop (mkF m 94 #[.val (.int i0), .val (.int i1), .val (.int (i1 &&& (7 : Int32))), .val (.int (i0 &&& (255 : Int32))), .unset] [])) target → Steps p.tables e below (T0.setTop (mkF m 0 #[.val (.int i0), .val (.int i1), .unset, .unset, .unset] [])) target := by
        intro target kt
        refine pre4 target ?_
        show Steps p.tables e below (T0.setTop (mkF m 16 #[.val (.int i0), .val (.int i1), .val (.int (i1 &&& (7 : Int32))), .unset, .unset] [(.int (1 : Int32)), (.int (i1 &&& (7 : Int32)))])) _
        refine XS.icmpNo X0.here hx rfl (hb hby at_16) rfl (teq hc16).2 ?_
        show Steps p.tables e below (T0.setTop (mkF m 19 #[.val (.int i0), .val (.int i1), .val (.int (i1 &&& (7 : Int32))), .unset, .unset] [])) _
        refine XS.iloadN X0.here hx rfl (hb hby at_19) rfl ?_
        show Steps p.tables e below (T0.setTop (mkF m 20 #[.val (.int i0), .val (.int i1), .val (.int (i1 &&& (7 : Int32))), .unset, .unset] [(.int i0)])) _
        refine XS.sipush X0.here hx rfl (hb hby at_20) ?_
        show Steps p.tables e below (T0.setTop (mkF m 23 #[.val (.int i0), .val (.int i1), .val (.int (i1 &&& (7 : Int32))), .unset, .unset] [(.int (255 : Int32)), (.int i0)])) _
        refine XS.iand X0.here hx rfl (hb hby at_23) rfl ?_
        show Steps p.tables e below (T0.setTop (mkF m 24 #[.val (.int i0), .val (.int i1), .val (.int (i1 &&& (7 : Int32))), .unset, .unset] [(.int (i0 &&& (255 : Int32)))])) _
        refine XS.istoreN X0.here hx rfl (hb hby at_24) rfl (l' := #[.val (.int i0), .val (.int i1), .val (.int (i1 &&& (7 : Int32))), .val (.int (i0 &&& (255 : Int32))), .unset]) rfl ?_
        show Steps p.tables e below (T0.setTop (mkF m 25 #[.val (.int i0), .val (.int i1), .val (.int (i1 &&& (7 : Int32))), .val (.int (i0 &&& (255 : Int32))), .unset] [])) _
        refine XS.goto X0.here hx rfl (pc0 := 25) (pc' := 94) rfl (hb hby at_25) (by decide) (by decide) ?_
        exact kt
      obtain ⟨T6, X6, e6, st6⟩ := own_b0_94 hx hZ hw hby hml hown hret i0 i1 (i1 &&& (7 : Int32)) (i0 &&& (255 : Int32))  X0 e0 hcl hsl  
      have hv : (own_f0_0 i0 i1) = (own_f0_94 i0 i1 (i1 &&& (7 : Int32)) (i0 &&& (255 : Int32))) := by unfold own_f0_0; rw [if_neg hc6, if_pos hc16]
      exact ⟨T6, X6, e6, fun fs hr => pre5 _ (st6 fs (by rw [hv] at hr; exact hr))⟩
    · have pre7 : ∀ target, Steps p.tables e below (T0.setTop (mkF m 30 #[.val (.int i0), .val (.int i1), .val (.int (i1 &&& (7 : Int32))), .unset, .unset] [(.int (2 : Int32)), (.int (i1 &&& (7 : Int32)))])) target → Steps p.tables e below (T0.setTop (mkF m 0 #[.val (.int i0), .val (.int i1), .unset, .unset, .unset] [])) target := by
        intro target kt
        refine pre4 target ?_
        show Steps p.tables e below (T0.setTop (mkF m 16 #[.val (.int i0), .val (.int i1), .val (.int (i1 &&& (7 : Int32))), .unset, .unset] [(.int (1 : Int32)), (.int (i1 &&& (7 : Int32)))])) _
        refine XS.icmpYes X0.here hx rfl (pc0 := 16) (pc' := 28) rfl (hb hby at_16) rfl (feq hc16).2 (by decide) (by decide) ?_
        show Steps p.tables e below (T0.setTop (mkF m 28 #[.val (.int i0), .val (.int i1), .val (.int (i1 &&& (7 : Int32))), .unset, .unset] [])) _
        refine XS.iloadN X0.here hx rfl (hb hby at_28) rfl ?_
        show Steps p.tables e below (T0.setTop (mkF m 29 #[.val (.int i0), .val (.int i1), .val (.int (i1 &&& (7 : Int32))), .unset, .unset] [(.int (i1 &&& (7 : Int32)))])) _
        refine XS.iconst X0.here hx rfl (hb hby at_29) ?_
        exact kt
      by_cases hc30 : (i1 &&& (7 : Int32)) = (2 : Int32)
      · have pre8 : ∀ target, Steps p.tables e below (T0.setTop (mkF m 94 #[.val (.int i0), .val (.int i1), .val (.int (i1 &&& (7 : Int32))), .val (.int ((i0 &&& (63 : Int32)) - (8 : Int32))), .unset] [])) target → Steps p.tables e below (T0.setTop (mkF m 0 #[.val (.int i0), .val (.int i1), .unset, .unset, .unset] [])) target := by
          intro target kt
          refine pre7 target ?_
          show Steps p.tables e below (T0.setTop (mkF m 30 #[.val (.int i0), .val (.int i1), .val (.int (i1 &&& (7 : Int32))), .unset, .unset] [(.int (2 : Int32)), (.int (i1 &&& (7 : Int32)))])) _
          refine XS.icmpNo X0.here hx rfl (hb hby at_30) rfl (teq hc30).2 ?_
          show Steps p.tables e below (T0.setTop (mkF m 33 #[.val (.int i0), .val (.int i1), .val (.int (i1 &&& (7 : Int32))), .unset, .unset] [])) _
          refine XS.iloadN X0.here hx rfl (hb hby at_33) rfl ?_
          show Steps p.tables e below (T0.setTop (mkF m 34 #[.val (.int i0), .val (.int i1), .val (.int (i1 &&& (7 : Int32))), .unset, .unset] [(.int i0)])) _
          refine XS.bipush X0.here hx rfl (hb hby at_34) ?_
          show Steps p.tables e below (T0.setTop (mkF m 36 #[.val (.int i0), .val (.int i1), .val (.int (i1 &&& (7 : Int32))), .unset, .unset] [(.int (63 : Int32)), (.int i0)])) _
          refine XS.iand X0.here hx rfl (hb hby at_36) rfl ?_
          show Steps p.tables e below (T0.setTop (mkF m 37 #[.val (.int i0), .val (.int i1), .val (.int (i1 &&& (7 : Int32))), .unset, .unset] [(.int (i0 &&& (63 : Int32)))])) _
          refine XS.bipush X0.here hx rfl (hb hby at_37) ?_
          show Steps p.tables e below (T0.setTop (mkF m 39 #[.val (.int i0), .val (.int i1), .val (.int (i1 &&& (7 : Int32))), .unset, .unset] [(.int (8 : Int32)), (.int (i0 &&& (63 : Int32)))])) _
          refine XS.isub X0.here hx rfl (hb hby at_39) rfl ?_
          show Steps p.tables e below (T0.setTop (mkF m 40 #[.val (.int i0), .val (.int i1), .val (.int (i1 &&& (7 : Int32))), .unset, .unset] [(.int ((i0 &&& (63 : Int32)) - (8 : Int32)))])) _
          refine XS.istoreN X0.here hx rfl (hb hby at_40) rfl (l' := #[.val (.int i0), .val (.int i1), .val (.int (i1 &&& (7 : Int32))), .val (.int ((i0 &&& (63 : Int32)) - (8 : Int32))), .unset]) rfl ?_
          show Steps p.tables e below (T0.setTop (mkF m 41 #[.val (.int i0), .val (.int i1), .val (.int (i1 &&& (7 : Int32))), .val (.int ((i0 &&& (63 : Int32)) - (8 : Int32))), .unset] [])) _
          refine XS.goto X0.here hx rfl (pc0 := 41) (pc' := 94) rfl (hb hby at_41) (by decide) (by decide) ?_
          exact kt
        obtain ⟨T9, X9, e9, st9⟩ := own_b0_94 hx hZ hw hby hml hown hret i0 i1 (i1 &&& (7 : Int32)) ((i0 &&& (63 : Int32)) - (8 : Int32))  X0 e0 hcl hsl  
        have hv : (own_f0_0 i0 i1) = (own_f0_94 i0 i1 (i1 &&& (7 : Int32)) ((i0 &&& (63 : Int32)) - (8 : Int32))) := by unfold own_f0_0; rw [if_neg hc6, if_neg hc16, if_pos hc30]
        exact ⟨T9, X9, e9, fun fs hr => pre8 _ (st9 fs (by rw [hv] at hr; exact hr))⟩
      · have pre10 : ∀ target, Steps p.tables e below (T0.setTop (mkF m 46 #[.val (.int i0), .val (.int i1), .val (.int (i1 &&& (7 : Int32))), .unset, .unset] [(.int (3 : Int32)), (.int (i1 &&& (7 : Int32)))])) target → Steps p.tables e below (T0.setTop (mkF m 0 #[.val (.int i0), .val (.int i1), .unset, .unset, .unset] [])) target := by
          intro target kt
          refine pre7 target ?_
          show Steps p.tables e below (T0.setTop (mkF m 30 #[.val (.int i0), .val (.int i1), .val (.int (i1 &&& (7 : Int32))), .unset, .unset] [(.int (2 : Int32)), (.int (i1 &&& (7 : Int32)))])) _
          refine XS.icmpYes X0.here hx rfl (pc0 := 30) (pc' := 44) rfl (hb hby at_30) rfl (feq hc30).2 (by decide) (by decide) ?_
          show Steps p.tables e below (T0.setTop (mkF m 44 #[.val (.int i0), .val (.int i1), .val (.int (i1 &&& (7 : Int32))), .unset, .unset] [])) _
          refine XS.iloadN X0.here hx rfl (hb hby at_44) rfl ?_
          show Steps p.tables e below (T0.setTop (mkF m 45 #[.val (.int i0), .val (.int i1), .val (.int (i1 &&& (7 : Int32))), .unset, .unset] [(.int (i1 &&& (7 : Int32)))])) _
          refine XS.iconst X0.here hx rfl (hb hby at_45) ?_
          exact kt
        by_cases hc46 : (i1 &&& (7 : Int32)) = (3 : Int32)
        · have pre11 : ∀ target, Steps p.tables e below (T0.setTop (mkF m 94 #[.val (.int i0), .val (.int i1), .val (.int (i1 &&& (7 : Int32))), .val (.int (9 : Int32)), .unset] [])) target → Steps p.tables e below (T0.setTop (mkF m 0 #[.val (.int i0), .val (.int i1), .unset, .unset, .unset] [])) target := by
            intro target kt
            refine pre10 target ?_
            show Steps p.tables e below (T0.setTop (mkF m 46 #[.val (.int i0), .val (.int i1), .val (.int (i1 &&& (7 : Int32))), .unset, .unset] [(.int (3 : Int32)), (.int (i1 &&& (7 : Int32)))])) _
            refine XS.icmpNo X0.here hx rfl (hb hby at_46) rfl (teq hc46).2 ?_
            show Steps p.tables e below (T0.setTop (mkF m 49 #[.val (.int i0), .val (.int i1), .val (.int (i1 &&& (7 : Int32))), .unset, .unset] [])) _
            refine XS.bipush X0.here hx rfl (hb hby at_49) ?_
            show Steps p.tables e below (T0.setTop (mkF m 51 #[.val (.int i0), .val (.int i1), .val (.int (i1 &&& (7 : Int32))), .unset, .unset] [(.int (9 : Int32))])) _
            refine XS.istoreN X0.here hx rfl (hb hby at_51) rfl (l' := #[.val (.int i0), .val (.int i1), .val (.int (i1 &&& (7 : Int32))), .val (.int (9 : Int32)), .unset]) rfl ?_
            show Steps p.tables e below (T0.setTop (mkF m 52 #[.val (.int i0), .val (.int i1), .val (.int (i1 &&& (7 : Int32))), .val (.int (9 : Int32)), .unset] [])) _
            refine XS.goto X0.here hx rfl (pc0 := 52) (pc' := 94) rfl (hb hby at_52) (by decide) (by decide) ?_
            exact kt
          obtain ⟨T12, X12, e12, st12⟩ := own_b0_94 hx hZ hw hby hml hown hret i0 i1 (i1 &&& (7 : Int32)) (9 : Int32)  X0 e0 hcl hsl  
          have hv : (own_f0_0 i0 i1) = (own_f0_94 i0 i1 (i1 &&& (7 : Int32)) (9 : Int32)) := by unfold own_f0_0; rw [if_neg hc6, if_neg hc16, if_neg hc30, if_pos hc46]
          exact ⟨T12, X12, e12, fun fs hr => pre11 _ (st12 fs (by rw [hv] at hr; exact hr))⟩
        · have pre13 : ∀ target, Steps p.tables e below (T0.setTop (mkF m 57 #[.val (.int i0), .val (.int i1), .val (.int (i1 &&& (7 : Int32))), .unset, .unset] [(.int (4 : Int32)), (.int (i1 &&& (7 : Int32)))])) target → Steps p.tables e below (T0.setTop (mkF m 0 #[.val (.int i0), .val (.int i1), .unset, .unset, .unset] [])) target := by
            intro target kt
            refine pre10 target ?_
            show Steps p.tables e below (T0.setTop (mkF m 46 #[.val (.int i0), .val (.int i1), .val (.int (i1 &&& (7 : Int32))), .unset, .unset] [(.int (3 : Int32)), (.int (i1 &&& (7 : Int32)))])) _
            refine XS.icmpYes X0.here hx rfl (pc0 := 46) (pc' := 55) rfl (hb hby at_46) rfl (feq hc46).2 (by decide) (by decide) ?_
            show Steps p.tables e below (T0.setTop (mkF m 55 #[.val (.int i0), .val (.int i1), .val (.int (i1 &&& (7 : Int32))), .unset, .unset] [])) _
            refine XS.iloadN X0.here hx rfl (hb hby at_55) rfl ?_
            show Steps p.tables e below (T0.setTop (mkF m 56 #[.val (.int i0), .val (.int i1), .val (.int (i1 &&& (7 : Int32))), .unset, .unset] [(.int (i1 &&& (7 : Int32)))])) _
            refine XS.iconst X0.here hx rfl (hb hby at_56) ?_
            exact kt
          by_cases hc57 : (i1 &&& (7 : Int32)) = (4 : Int32)
          · have pre14 : ∀ target, Steps p.tables e below (T0.setTop (mkF m 94 #[.val (.int i0), .val (.int i1), .val (.int (i1 &&& (7 : Int32))), .val (.int (10 : Int32)), .unset] [])) target → Steps p.tables e below (T0.setTop (mkF m 0 #[.val (.int i0), .val (.int i1), .unset, .unset, .unset] [])) target := by
              intro target kt
              refine pre13 target ?_
              show Steps p.tables e below (T0.setTop (mkF m 57 #[.val (.int i0), .val (.int i1), .val (.int (i1 &&& (7 : Int32))), .unset, .unset] [(.int (4 : Int32)), (.int (i1 &&& (7 : Int32)))])) _
              refine XS.icmpNo X0.here hx rfl (hb hby at_57) rfl (teq hc57).2 ?_
              show Steps p.tables e below (T0.setTop (mkF m 60 #[.val (.int i0), .val (.int i1), .val (.int (i1 &&& (7 : Int32))), .unset, .unset] [])) _
              refine XS.bipush X0.here hx rfl (hb hby at_60) ?_
              show Steps p.tables e below (T0.setTop (mkF m 62 #[.val (.int i0), .val (.int i1), .val (.int (i1 &&& (7 : Int32))), .unset, .unset] [(.int (10 : Int32))])) _
              refine XS.istoreN X0.here hx rfl (hb hby at_62) rfl (l' := #[.val (.int i0), .val (.int i1), .val (.int (i1 &&& (7 : Int32))), .val (.int (10 : Int32)), .unset]) rfl ?_
              show Steps p.tables e below (T0.setTop (mkF m 63 #[.val (.int i0), .val (.int i1), .val (.int (i1 &&& (7 : Int32))), .val (.int (10 : Int32)), .unset] [])) _
              refine XS.goto X0.here hx rfl (pc0 := 63) (pc' := 94) rfl (hb hby at_63) (by decide) (by decide) ?_
              exact kt
            obtain ⟨T15, X15, e15, st15⟩ := own_b0_94 hx hZ hw hby hml hown hret i0 i1 (i1 &&& (7 : Int32)) (10 : Int32)  X0 e0 hcl hsl  
            have hv : (own_f0_0 i0 i1) = (own_f0_94 i0 i1 (i1 &&& (7 : Int32)) (10 : Int32)) := by unfold own_f0_0; rw [if_neg hc6, if_neg hc16, if_neg hc30, if_neg hc46, if_pos hc57]
            exact ⟨T15, X15, e15, fun fs hr => pre14 _ (st15 fs (by rw [hv] at hr; exact hr))⟩
          · have pre16 : ∀ target, Steps p.tables e below (T0.setTop (mkF m 68 #[.val (.int i0), .val (.int i1), .val (.int (i1 &&& (7 : Int32))), .unset, .unset] [(.int (5 : Int32)), (.int (i1 &&& (7 : Int32)))])) target → Steps p.tables e below (T0.setTop (mkF m 0 #[.val (.int i0), .val (.int i1), .unset, .unset, .unset] [])) target := by
              intro target kt
              refine pre13 target ?_
              show Steps p.tables e below (T0.setTop (mkF m 57 #[.val (.int i0), .val (.int i1), .val (.int (i1 &&& (7 : Int32))), .unset, .unset] [(.int (4 : Int32)), (.int (i1 &&& (7 : Int32)))])) _
              refine XS.icmpYes X0.here hx rfl (pc0 := 57) (pc' := 66) rfl (hb hby at_57) rfl (feq hc57).2 (by decide) (by decide) ?_
              show Steps p.tables e below (T0.setTop (mkF m 66 #[.val (.int i0), .val (.int i1), .val (.int (i1 &&& (7 : Int32))), .unset, .unset] [])) _
              refine XS.iloadN X0.here hx rfl (hb hby at_66) rfl ?_
              show Steps p.tables e below (T0.setTop (mkF m 67 #[.val (.int i0), .val (.int i1), .val (.int (i1 &&& (7 : Int32))), .unset, .unset] [(.int (i1 &&& (7 : Int32)))])) _
              refine XS.iconst X0.here hx rfl (hb hby at_67) ?_
              exact kt
            by_cases hc68 : (i1 &&& (7 : Int32)) = (5 : Int32)
            · have pre17 : ∀ target, Steps p.tables e below (T0.setTop (mkF m 94 #[.val (.int i0), .val (.int i1), .val (.int (i1 &&& (7 : Int32))), .val (.int (13 : Int32)), .unset] [])) target → Steps p.tables e below (T0.setTop (mkF m 0 #[.val (.int i0), .val (.int i1), .unset, .unset, .unset] [])) target := by
                intro target kt
                refine pre16 target ?_
                show Steps p.tables e below (T0.setTop (mkF m 68 #[.val (.int i0), .val (.int i1), .val (.int (i1 &&& (7 : Int32))), .unset, .unset] [(.int (5 : Int32)), (.int (i1 &&& (7 : Int32)))])) _
                refine XS.icmpNo X0.here hx rfl (hb hby at_68) rfl (teq hc68).2 ?_
                show Steps p.tables e below (T0.setTop (mkF m 71 #[.val (.int i0), .val (.int i1), .val (.int (i1 &&& (7 : Int32))), .unset, .unset] [])) _
                refine XS.bipush X0.here hx rfl (hb hby at_71) ?_
                show Steps p.tables e below (T0.setTop (mkF m 73 #[.val (.int i0), .val (.int i1), .val (.int (i1 &&& (7 : Int32))), .unset, .unset] [(.int (13 : Int32))])) _
                refine XS.istoreN X0.here hx rfl (hb hby at_73) rfl (l' := #[.val (.int i0), .val (.int i1), .val (.int (i1 &&& (7 : Int32))), .val (.int (13 : Int32)), .unset]) rfl ?_
                show Steps p.tables e below (T0.setTop (mkF m 74 #[.val (.int i0), .val (.int i1), .val (.int (i1 &&& (7 : Int32))), .val (.int (13 : Int32)), .unset] [])) _
                refine XS.goto X0.here hx rfl (pc0 := 74) (pc' := 94) rfl (hb hby at_74) (by decide) (by decide) ?_
                exact kt
              obtain ⟨T18, X18, e18, st18⟩ := own_b0_94 hx hZ hw hby hml hown hret i0 i1 (i1 &&& (7 : Int32)) (13 : Int32)  X0 e0 hcl hsl  
              have hv : (own_f0_0 i0 i1) = (own_f0_94 i0 i1 (i1 &&& (7 : Int32)) (13 : Int32)) := by unfold own_f0_0; rw [if_neg hc6, if_neg hc16, if_neg hc30, if_neg hc46, if_neg hc57, if_pos hc68]
              exact ⟨T18, X18, e18, fun fs hr => pre17 _ (st18 fs (by rw [hv] at hr; exact hr))⟩
            · have pre19 : ∀ target, Steps p.tables e below (T0.setTop (mkF m 80 #[.val (.int i0), .val (.int i1), .val (.int (i1 &&& (7 : Int32))), .unset, .unset] [(.int (6 : Int32)), (.int (i1 &&& (7 : Int32)))])) target → Steps p.tables e below (T0.setTop (mkF m 0 #[.val (.int i0), .val (.int i1), .unset, .unset, .unset] [])) target := by
                intro target kt
                refine pre16 target ?_
                show Steps p.tables e below (T0.setTop (mkF m 68 #[.val (.int i0), .val (.int i1), .val (.int (i1 &&& (7 : Int32))), .unset, .unset] [(.int (5 : Int32)), (.int (i1 &&& (7 : Int32)))])) _
                refine XS.icmpYes X0.here hx rfl (pc0 := 68) (pc' := 77) rfl (hb hby at_68) rfl (feq hc68).2 (by decide) (by decide) ?_
                show Steps p.tables e below (T0.setTop (mkF m 77 #[.val (.int i0), .val (.int i1), .val (.int (i1 &&& (7 : Int32))), .unset, .unset] [])) _
                refine XS.iloadN X0.here hx rfl (hb hby at_77) rfl ?_
                show Steps p.tables e below (T0.setTop (mkF m 78 #[.val (.int i0), .val (.int i1), .val (.int (i1 &&& (7 : Int32))), .unset, .unset] [(.int (i1 &&& (7 : Int32)))])) _
                refine XS.bipush X0.here hx rfl (hb hby at_78) ?_
                exact kt
              by_cases hc80 : (i1 &&& (7 : Int32)) = (6 : Int32)
              · have pre20 : ∀ target, Steps p.tables e below (T0.setTop (mkF m 94 #[.val (.int i0), .val (.int i1), .val (.int (i1 &&& (7 : Int32))), .val (.int (32 : Int32)), .unset] [])) target → Steps p.tables e below (T0.setTop (mkF m 0 #[.val (.int i0), .val (.int i1), .unset, .unset, .unset] [])) target := by
                  intro target kt
                  refine pre19 target ?_
                  show Steps p.tables e below (T0.setTop (mkF m 80 #[.val (.int i0), .val (.int i1), .val (.int (i1 &&& (7 : Int32))), .unset, .unset] [(.int (6 : Int32)), (.int (i1 &&& (7 : Int32)))])) _
                  refine XS.icmpNo X0.here hx rfl (hb hby at_80) rfl (teq hc80).2 ?_
                  show Steps p.tables e below (T0.setTop (mkF m 83 #[.val (.int i0), .val (.int i1), .val (.int (i1 &&& (7 : Int32))), .unset, .unset] [])) _
                  refine XS.bipush X0.here hx rfl (hb hby at_83) ?_
                  show Steps p.tables e below (T0.setTop (mkF m 85 #[.val (.int i0), .val (.int i1), .val (.int (i1 &&& (7 : Int32))), .unset, .unset] [(.int (32 : Int32))])) _
                  refine XS.istoreN X0.here hx rfl (hb hby at_85) rfl (l' := #[.val (.int i0), .val (.int i1), .val (.int (i1 &&& (7 : Int32))), .val (.int (32 : Int32)), .unset]) rfl ?_
                  show Steps p.tables e below (T0.setTop (mkF m 86 #[.val (.int i0), .val (.int i1), .val (.int (i1 &&& (7 : Int32))), .val (.int (32 : Int32)), .unset] [])) _
                  refine XS.goto X0.here hx rfl (pc0 := 86) (pc' := 94) rfl (hb hby at_86) (by decide) (by decide) ?_
                  exact kt
                obtain ⟨T21, X21, e21, st21⟩ := own_b0_94 hx hZ hw hby hml hown hret i0 i1 (i1 &&& (7 : Int32)) (32 : Int32)  X0 e0 hcl hsl  
                have hv : (own_f0_0 i0 i1) = (own_f0_94 i0 i1 (i1 &&& (7 : Int32)) (32 : Int32)) := by unfold own_f0_0; rw [if_neg hc6, if_neg hc16, if_neg hc30, if_neg hc46, if_neg hc57, if_neg hc68, if_pos hc80]
                exact ⟨T21, X21, e21, fun fs hr => pre20 _ (st21 fs (by rw [hv] at hr; exact hr))⟩
              · have pre22 : ∀ target, Steps p.tables e below (T0.setTop (mkF m 94 #[.val (.int i0), .val (.int i1), .val (.int (i1 &&& (7 : Int32))), .val (.int (i0 &&& (65535 : Int32))), .unset] [])) target → Steps p.tables e below (T0.setTop (mkF m 0 #[.val (.int i0), .val (.int i1), .unset, .unset, .unset] [])) target := by
                  intro target kt
                  refine pre19 target ?_
                  show Steps p.tables e below (T0.setTop (mkF m 80 #[.val (.int i0), .val (.int i1), .val (.int (i1 &&& (7 : Int32))), .unset, .unset] [(.int (6 : Int32)), (.int (i1 &&& (7 : Int32)))])) _
                  refine XS.icmpYes X0.here hx rfl (pc0 := 80) (pc' := 89) rfl (hb hby at_80) rfl (feq hc80).2 (by decide) (by decide) ?_
                  show Steps p.tables e below (T0.setTop (mkF m 89 #[.val (.int i0), .val (.int i1), .val (.int (i1 &&& (7 : Int32))), .unset, .unset] [])) _
                  refine XS.iloadN X0.here hx rfl (hb hby at_89) rfl ?_
                  show Steps p.tables e below (T0.setTop (mkF m 90 #[.val (.int i0), .val (.int i1), .val (.int (i1 &&& (7 : Int32))), .unset, .unset] [(.int i0)])) _
                  refine X0.ldcInt hx hown (mvT hZ (hw _ (List.mem_of_getElem? (i := 4) rfl))) (g := (mkF m 90 #[.val (.int i0), .val (.int i1), .val (.int (i1 &&& (7 : Int32))), .unset, .unset] [(.int i0)])) rfl (hb hby at_90) _ ?_
                  show Steps p.tables e below (T0.setTop (mkF m 92 #[.val (.int i0), .val (.int i1), .val (.int (i1 &&& (7 : Int32))), .unset, .unset] [(.int (65535 : Int32)), (.int i0)])) _
                  refine XS.iand X0.here hx rfl (hb hby at_92) rfl ?_
                  show Steps p.tables e below (T0.setTop (mkF m 93 #[.val (.int i0), .val (.int i1), .val (.int (i1 &&& (7 : Int32))), .unset, .unset] [(.int (i0 &&& (65535 : Int32)))])) _
                  refine XS.istoreN X0.here hx rfl (hb hby at_93) rfl (l' := #[.val (.int i0), .val (.int i1), .val (.int (i1 &&& (7 : Int32))), .val (.int (i0 &&& (65535 : Int32))), .unset]) rfl ?_
                  exact kt
                obtain ⟨T23, X23, e23, st23⟩ := own_b0_94 hx hZ hw hby hml hown hret i0 i1 (i1 &&& (7 : Int32)) (i0 &&& (65535 : Int32))  X0 e0 hcl hsl  
                have hv : (own_f0_0 i0 i1) = (own_f0_94 i0 i1 (i1 &&& (7 : Int32)) (i0 &&& (65535 : Int32))) := by unfold own_f0_0; rw [if_neg hc6, if_neg hc16, if_neg hc30, if_neg hc46, if_neg hc57, if_neg hc68, if_neg hc80]
                exact ⟨T23, X23, e23, fun fs hr => pre22 _ (st23 fs (by rw [hv] at hr; exact hr))⟩
def Q0 (Z : State) (i0 : Int32) (i1 : Int32) (h0 : Heap) (n0 : Nat) (v : Option Value) (h : Heap) (L : List Loc) : Prop := v = some (.int (own_f0_0 i0 i1)) ∧ L = [] ∧ h = h0
set_option maxRecDepth 65536 in
set_option maxHeartbeats 40000000 in
theorem rm0 (l : Launch) (Z : State) (a0_ : Array Value) (hw : ∀ d ∈ tables_1, d.before a0_ Z = true) (ws : List Jvm.Cond) (i0 : Int32) (i1 : Int32) (h0 : Heap) (n0 : Nat) (Z0 : n0 ≤ h0.size)  :
    MetFree l x (head1 (Jvm.Cond.code x code maxLocals ret :: ws) room_1) (fun a U => a = #[(.int i0), (.int i1)] ∧ Z.Warmed39 U.vm ∧ U.heap = h0) (fun _ _ _ _ _ => True) (fun _ U o U' => ∃ v L, o = .returned v ∧ Q0 Z i0 i1 h0 n0 v U'.heap L ∧ FrameEnd U o U' L room_1.cells room_1.slots) := by
  refine MetFree.of_bodySF (plainFor_of_name pn_0) hisR ?_
  intro p e s m args below meth c s₁ Bd hml0 hP hK
  obtain ⟨rfl, hZ, hh⟩ := hP
  have hx := Bd.exec
  have hby := Bd.bytes
  have hml : c.maxLocals = 5 := hml0
  have hown : s.vm.findClass "com/example/open_brace/openbrace/io/InputIsWhitespacePinLaw" = some m.cls := findClass_of_methodNamed Bd.named
  have X0 : Stand p l e room_1 s m #[(.int i0), (.int i1)] below meth c s₁ [] 0 0 := Stand.of_body Bd
  have e0 : s₁.heap = h0 := by rw [← hh, Bd.state]; rfl
  obtain ⟨T', X', e', st'⟩ := own_b0_0 hx hZ hw hby hml hown Bd.returns  i0 i1 X0 e0 (by decide) (by decide) 
  obtain ⟨fs, hr, hrun, hended, hW, hsame⟩ := X'.leave (v := some (.int (own_f0_0 i0 i1))) (fun h => by rw [Bd.returns] at h; cases h)
  refine ⟨_, _, castTop (ef_0 m i0 i1) (st' fs hr), hrun, hended, _, _, rfl, ?_, ⟨_, rfl⟩, hW, hsame.mono (by decide) (by decide)⟩
  exact ⟨rfl, rfl, e'⟩
theorem own_core (i0 i1 i2 x : Int32) : own_f0_94 i0 i1 i2 x = 1 := by
  have l9 : (9 : Int32).toInt = 9 := by decide +kernel
  have l10 : (10 : Int32).toInt = 10 := by decide +kernel
  have l13 : (13 : Int32).toInt = 13 := by decide +kernel
  have l32 : (32 : Int32).toInt = 32 := by decide +kernel
  by_cases h9 : x = 9
  · subst h9; simp [own_f0_94, own_f0_118, own_f0_123, own_f1_0]
  by_cases h10 : x = 10
  · subst h10; simp [own_f0_94, own_f0_118, own_f0_123, own_f1_0]
  by_cases h13 : x = 13
  · subst h13; simp [own_f0_94, own_f0_118, own_f0_123, own_f1_0]
  by_cases h32 : x = 32
  · subst h32; simp [own_f0_94, own_f0_118, own_f0_123, own_f1_0]
  simp only [own_f0_94, own_f0_118, own_f0_123, own_f1_0, if_neg h9, if_neg h10, if_neg h13, if_neg h32, ite_self, if_true]
theorem own_law (i0 : Int32) (i1 : Int32) : own_f0_0 i0 i1 = 1 := by
  simp only [own_f0_0, own_core, ite_self]
set_option maxRecDepth 65536 in
set_option maxHeartbeats 40000000 in
theorem comes_1 {Post : Tables → Env → Array Value → State → Outcome → State → Prop} (hpost : ∀ tb e args s v u, (limb_1_1.after args s (.returned v) u = true ∧ limb_1_2.after args s (.returned v) u = true ∧ True) → FrameEnd s (.returned v) u (Jvm.fieldLocs frame_1_writes args s ++ Jvm.arrayLocs frame_1_arrays args s ++ Jvm.staticLocs frame_1_statics s) 0 0 → Post tb e args s (.returned v) u) :
    ArmFor flags0 classFile x code maxLocals ret World_1 tables_1 room_1 Calls_1 rest_1 Pre_1 Post := by
  intro l hfl _ _ p e ha hc hk s m args below hf hA hF happ hP
  obtain ⟨hcalls, hrest, hpre⟩ := hP
  obtain ⟨-, -, -, hnamed, -, -, -, hat⟩ := (Spec.applies_iff hf).mp happ
  obtain ⟨hg, hn⟩ := and_e (Cond.before_iff.mp (show (Jvm.Cond.and given_1 narrow_1).before args s = true from hpre))
  obtain ⟨hcount, hg⟩ := and_e hg
  obtain ⟨g0, hg⟩ := and_e hg
  have g1 := hg
  obtain ⟨w0, w1, rfl⟩ : ∃ w0 w1 : Value, args = #[w0, w1] := by
    have hs : args.size = 2 := by simpa [Cond.value, given_1] using hcount
    obtain ⟨L⟩ := args
    match L, hs with
    | [w0, w1], _ => exact ⟨w0, w1, rfl⟩
  have hw := fun d (hd : d ∈ tables_1) => atoms_spec (ws := Jvm.Cond.code x code maxLocals ret :: tables_1) hat d (List.mem_cons_of_mem _ hd)
  obtain ⟨i0, ei0⟩ := is_v g0
  obtain rfl : w0 = (.int i0) := Option.some.inj ei0
  obtain ⟨i1, ei1⟩ := is_v g1
  obtain rfl : w1 = (.int i1) := Option.some.inj ei1
  obtain ⟨n, o, h1, h2, h3, _, L, rfl, ⟨rfl, rfl, N⟩, hq⟩ := rm0 l s _ hw tables_1 i0 i1 s.heap s.heap.size (Nat.le_refl _) p e ha hc hk s m _ below hf ((Spec.applies_iff_loose hf).mp happ).1 ⟨rfl, State.Warmed39.refl s, rfl⟩ trivial
  rw [own_law i0 i1] at h3 hq
  refine ⟨n, _, h1, h2, h3, hpost _ _ _ _ _ _ ⟨Cond.after_iff.mpr rfl, Cond.after_iff.mpr (eq_i res_at (Term.int_eval (1)) rfl), trivial⟩ ⟨hq.1, hq.2.1, (hq.2.2.sift fun y hy => nomatch hy).mono (by decide) (by decide)⟩⟩
theorem main_1_1 : Claimed_1_1 := comes_1 fun _ _ _ _ _ _ h hF => ⟨h.1, hF⟩
theorem main_1_2 : Claimed_1_2 := comes_1 fun _ _ _ _ _ _ h hF => ⟨h.2.1, hF⟩
end Jvm.Pilot.@@N@@
namespace Jvm.Pilot.@@N@@
open Jvm Jvm.ClassFile Sem Op Lib Jvm.Free Jvm.Stand Jvm.Pilot.@@N@@.Jvm.D
/-! MADE BY PROGRAM (witnessworld.py) out of the Statement's table words and the real class files: 9 classes; the members and pool entries that the words name. The judged class is class 1, her method 1. -/
namespace start1
open Jvm.ClassFile
def u (s : String) : CpInfo := .utf8 (stringToUtf16 s)
/-- a pool by its gaps: so many unusable entries, then the entry; so many at the end -/
def gap : Nat → List CpInfo → List CpInfo
  | 0, r => r
  | n + 1, r => .unusable :: gap n r
def poolList (es : List (Nat × CpInfo)) (last : Nat) : List CpInfo := es.foldr (fun e r => gap e.1 (e.2 :: r)) (gap last [])
def pool (es : List (Nat × CpInfo)) (last : Nat) : Array CpInfo := ⟨poolList es last⟩
def fileOf (pool : Array CpInfo) (this : Nat) (attrs : Array Attribute := #[]) (ms : Array MethodInfo := #[]) (fl : Nat := 33) (sup : Nat := 0) (ifs : Array Nat := #[]) (fds : Array FieldInfo := #[]) : ClassFile where
  minorVersion := 0
  majorVersion := 65
  constantPool := pool
  accessFlags := fl
  thisClass := this
  superClass := sup
  interfaces := ifs
  fields := fds
  methods := ms
  attributes := attrs
def plain (name : String) (sup : Option ClassId) : Class where
  name := name
  kind := .ordinary
  loader := none
  accessFlags := 33
  super := sup
  interfaces := #[]
  cf := none
  fields := #[]
  methods := #[]
  instanceTypes := #[]
  staticTypes := #[]
  resolved := #[]
  callSites := []
  init := .initialized
  statics := none
  mirror := none

def pool0 : Array CpInfo := pool [(5, u "<init>"), (0, u "()V"), (1, .class_ 10), (1, u "java/lang/Object")] 113

def k0m0 : Method := { name := "<init>", desc := "()V", sig := { parameters := [], returnType := none }, accessFlags := 1, code := none }
/-- java/lang/Object -/
def k0 : Class := { plain "java/lang/Object" none with
  accessFlags := 33
  interfaces := #[]
  cf := some (fileOf pool0 8 #[] #[{ accessFlags := 1, nameIndex := 5, descriptorIndex := 6, attributes := #[] }] 33 0 #[] #[])
  fields := #[]
  methods := #[k0m0]
  instanceTypes := #[]
  staticTypes := #[]
  resolved := Array.replicate 124 none
  statics := none }

def pool1 : Array CpInfo := pool [(2, .class_ 4), (1, u "java/lang/Object"), (0, u "<init>"), (0, u "()V"), (0, .integer 65535), (0, .methodref 9 10), (0, .class_ 11), (0, .nameAndType 12 13), (0, u "com/example/open_brace/openbrace/io/Input"), (0, u "isWhitespace"), (0, u "(I)Z"), (0, .class_ 15), (0, u "com/example/open_brace/openbrace/io/InputIsWhitespacePinLaw"), (2, u "law"), (0, u "(II)Z")] 3

def k1m0 : Method := { name := "<init>", desc := "()V", sig := { parameters := [], returnType := none }, accessFlags := 2, code := none }
def k1c1 : Code := { maxStack := 2, maxLocals := 5, code := code, exceptionTable := #[], attributes := #[] }
def k1m1 : Method := { name := "law", desc := "(II)Z", sig := { parameters := [.int, .int], returnType := some .boolean }, accessFlags := 9, code := some k1c1 }
/-- com/example/open_brace/openbrace/io/InputIsWhitespacePinLaw -/
def k1 : Class := { plain "com/example/open_brace/openbrace/io/InputIsWhitespacePinLaw" (some 0) with
  accessFlags := 49
  interfaces := #[]
  cf := some (fileOf pool1 14 #[] #[{ accessFlags := 2, nameIndex := 5, descriptorIndex := 6, attributes := #[] }, { accessFlags := 9, nameIndex := 18, descriptorIndex := 19, attributes := #[] }] 49 2 #[] #[])
  fields := #[]
  methods := #[k1m0, k1m1]
  instanceTypes := #[]
  staticTypes := #[]
  resolved := Array.replicate 23 none
  statics := none }

def pool2 : Array CpInfo := pool [(2, .class_ 4), (1, u "java/lang/Object"), (3, .class_ 10), (1, u "com/example/open_brace/openbrace/io/Input"), (0, u "lookAheadEnd"), (0, u "I"), (2, u "limit"), (2, u "comments"), (0, u "Z"), (2, u "index"), (2, u "countedTo"), (8, u "base"), (0, u "J"), (2, u "line"), (4, u "column"), (5, u "(I)Z"), (6, u "peekedLength"), (23, u "isWhitespace"), (18, u "lookAheadStart"), (58, u "afterCarriageReturn"), (23, u "TEXT_START"), (0, u "Lcom/example/open_brace/openbrace/error/Position;"), (0, u "END"), (2, u "OUT_OF_SIGHT"), (1, u "RESUME_POINTS"), (0, u "Ljava/lang/String;")] 36

def k2c0 : Code := { maxStack := 2, maxLocals := 1, code := prog_44_method_19_code, exceptionTable := #[], attributes := #[] }
def k2m0 : Method := { name := "isWhitespace", desc := "(I)Z", sig := { parameters := [.int], returnType := some .boolean }, accessFlags := 8, code := some k2c0 }
/-- com/example/open_brace/openbrace/io/Input -/
def k2 : Class := { plain "com/example/open_brace/openbrace/io/Input" (some 0) with
  accessFlags := 1056
  interfaces := #[]
  cf := some (fileOf pool2 8 #[] #[{ accessFlags := 8, nameIndex := 80, descriptorIndex := 49, attributes := #[] }] 1056 2 #[] #[{ accessFlags := 24, nameIndex := 184, descriptorIndex := 12, attributes := #[] }, { accessFlags := 24, nameIndex := 187, descriptorIndex := 12, attributes := #[] }, { accessFlags := 26, nameIndex := 189, descriptorIndex := 190, attributes := #[] }, { accessFlags := 24, nameIndex := 182, descriptorIndex := 183, attributes := #[] }, { accessFlags := 0, nameIndex := 22, descriptorIndex := 12, attributes := #[] }, { accessFlags := 0, nameIndex := 56, descriptorIndex := 12, attributes := #[] }, { accessFlags := 0, nameIndex := 15, descriptorIndex := 12, attributes := #[] }, { accessFlags := 18, nameIndex := 18, descriptorIndex := 19, attributes := #[] }, { accessFlags := 2, nameIndex := 34, descriptorIndex := 35, attributes := #[] }, { accessFlags := 2, nameIndex := 11, descriptorIndex := 12, attributes := #[] }, { accessFlags := 2, nameIndex := 99, descriptorIndex := 12, attributes := #[] }, { accessFlags := 2, nameIndex := 25, descriptorIndex := 12, attributes := #[] }, { accessFlags := 2, nameIndex := 38, descriptorIndex := 35, attributes := #[] }, { accessFlags := 2, nameIndex := 43, descriptorIndex := 35, attributes := #[] }, { accessFlags := 2, nameIndex := 158, descriptorIndex := 19, attributes := #[] }])
  fields := #[{ name := "END", type := .int, accessFlags := 24, slot := 0, constantValue := 0 }, { name := "OUT_OF_SIGHT", type := .int, accessFlags := 24, slot := 1, constantValue := 0 }, { name := "RESUME_POINTS", type := (.object "java/lang/String"), accessFlags := 26, slot := 2, constantValue := 0 }, { name := "TEXT_START", type := (.object "com/example/open_brace/openbrace/error/Position"), accessFlags := 24, slot := 3, constantValue := 0 }, { name := "index", type := .int, accessFlags := 0, slot := 0, constantValue := 0 }, { name := "peekedLength", type := .int, accessFlags := 0, slot := 1, constantValue := 0 }, { name := "limit", type := .int, accessFlags := 0, slot := 2, constantValue := 0 }, { name := "comments", type := .boolean, accessFlags := 18, slot := 3, constantValue := 0 }, { name := "base", type := .long, accessFlags := 2, slot := 4, constantValue := 0 }, { name := "lookAheadEnd", type := .int, accessFlags := 2, slot := 5, constantValue := 0 }, { name := "lookAheadStart", type := .int, accessFlags := 2, slot := 6, constantValue := 0 }, { name := "countedTo", type := .int, accessFlags := 2, slot := 7, constantValue := 0 }, { name := "line", type := .long, accessFlags := 2, slot := 8, constantValue := 0 }, { name := "column", type := .long, accessFlags := 2, slot := 9, constantValue := 0 }, { name := "afterCarriageReturn", type := .boolean, accessFlags := 2, slot := 10, constantValue := 0 }]
  methods := #[k2m0]
  instanceTypes := #[.int, .int, .int, .boolean, .long, .int, .int, .int, .long, .long, .boolean]
  staticTypes := #[.int, .int, (.object "java/lang/String"), (.object "com/example/open_brace/openbrace/error/Position")]
  resolved := Array.replicate 227 none
  statics := none }

def pool3 : Array CpInfo := pool [(1, u "java/lang/Cloneable"), (0, .class_ 1), (0, u "java/lang/Object"), (0, .class_ 3)] 3

/-- java/lang/Cloneable -/
def k3 : Class := { plain "java/lang/Cloneable" (some 0) with
  accessFlags := 1537
  interfaces := #[]
  cf := some (fileOf pool3 2 #[] #[] 1537 4 #[] #[])
  fields := #[]
  methods := #[]
  instanceTypes := #[]
  staticTypes := #[]
  resolved := Array.replicate 8 none
  statics := none }

def pool4 : Array CpInfo := pool [(1, u "java/io/Serializable"), (0, .class_ 1), (0, u "java/lang/Object"), (0, .class_ 3)] 3

/-- java/io/Serializable -/
def k4 : Class := { plain "java/io/Serializable" (some 0) with
  accessFlags := 1537
  interfaces := #[]
  cf := some (fileOf pool4 2 #[] #[] 1537 4 #[] #[])
  fields := #[]
  methods := #[]
  instanceTypes := #[]
  staticTypes := #[]
  resolved := Array.replicate 8 none
  statics := none }

/-- the primitive byte -/
def k5 : Class := { plain "byte" none with kind := .primitive 'B', accessFlags := 0x411 }
/-- [B -/
def k6 : Class := { plain "[B" (some 0) with kind := .array 5 .byte, interfaces := #[3, 4], accessFlags := 1041 }

/-- the primitive int -/
def k7 : Class := { plain "int" none with kind := .primitive 'I', accessFlags := 0x411 }
/-- [I -/
def k8 : Class := { plain "[I" (some 0) with kind := .array 7 .int, interfaces := #[3, 4], accessFlags := 1041 }

def heap : Heap := #[]
def classes : Array Class := #[k0, k1, k2, k3, k4, k5, k6, k7, k8]
def interned : List (Array UInt16 × Addr) := []
def slotsUsed : Nat := 0
def theMethod : MethodId := ⟨1, 1⟩
def args0 : Array Value := #[.int 5, .int 6]
def aboutOver (below : List Frame) : State where
  vm := { classes := classes, interned := interned.toArray }
  heap := heap
  slotsUsed := slotsUsed
  threads := #[{ frames := .invoking theMethod args0 :: below }]
def below0 : List Frame := [.native { method := ⟨0, 0⟩, args := #[] }]
def about1 : State := aboutOver below0
def p0 : Program := .bare "" "" ""
def e0 : Env := launch0.env 0 0 0
theorem w_frames : about1.frames = Frame.invoking theMethod args0 :: below0 := rfl
set_option maxRecDepth 65536 in
theorem w_args : argsFit about1.vm theMethod args0 = true := by decide +kernel
set_option maxRecDepth 65536 in
theorem w_heap : heapFits about1 = true := by decide +kernel
set_option maxRecDepth 65536 in
theorem w_runnable : about1.curStatus? = some .runnable := by decide +kernel
set_option maxRecDepth 65536 in
theorem w_alone : about1.alone = true := by decide +kernel
set_option maxRecDepth 65536 in
theorem w_named : about1.methodNamed? x = some theMethod := by decide +kernel
set_option maxRecDepth 65536 in
theorem w_hears : about1.hears theMethod below0 = true := by decide +kernel
set_option maxRecDepth 65536 in
theorem w_ripe : about1.ripe theMethod args0 below0 = true := by decide +kernel
theorem w_running : about1.status = .running := rfl
set_option maxRecDepth 65536 in
theorem w_room : about1.hasRoom e0.platform room_1 = true :=
  launch0.hasRoom_least _ room_1 (by decide +kernel) (by decide +kernel) (by decide +kernel) (by decide +kernel) (by decide +kernel) (by decide +kernel)
theorem allAtoms_all (ts : List Jvm.Cond) (a : Array Jvm.Value) (st : Jvm.State) : (allAtoms ts).before a st = ts.all (fun c => c.before a st) := by
  induction ts with
  | nil => rfl
  | cons c t ih =>
    show (Jvm.Cond.and c (allAtoms t)).before a st = _
    rw [Jvm.Cond.before_and, ih, List.all_cons]
def words1 : List Jvm.Cond := Jvm.Cond.code x code maxLocals ret :: tables_1
/-- a 'code' word, met by the world's own term for the bytes: nothing is compared byte by byte -/
theorem code_word {y : MethodName} {bytes : ByteArray} {mx : Nat} {rt : Option FieldType} {a : Array Value} {s : State} {m : MethodId} {meth : Method} {c : Code} (h1 : s.methodNamed? y = some m) (h2 : s.vm.method? m = some meth) (h3 : meth.code = some c) (h4 : c.code = bytes)
    (h5 : (c.maxLocals == mx && c.exceptionTable.isEmpty && decide (c.maxStack ≤ mostOperands) && decide (meth.sig.returnType = rt) && !meth.locks && decide (parseMethodDescriptor y.desc = some meth.sig)) = true) : (Jvm.Cond.code y bytes mx rt).before a s = true := by
  simp only [Bool.and_eq_true, beq_iff_eq, Bool.not_eq_true', decide_eq_true_eq] at h5
  obtain ⟨⟨⟨⟨⟨g1, g2⟩, g3⟩, g4⟩, g5⟩, g6⟩ := h5
  simp [Cond.before, Cond.holds, Cond.value, h1, h2, h3, h4, g1, g2, g3, g4, g5, g6]
def isCode : Jvm.Cond → Bool
  | .code _ _ _ _ => true
  | _ => false
theorem all_split {L : List Jvm.Cond} {P : Jvm.Cond → Bool} (h1 : L.all (fun c => isCode c || P c) = true) (h2 : ∀ c ∈ L.filter isCode, P c = true) : L.all P = true := by
  refine List.all_eq_true.mpr fun c hc => ?_
  have h := List.all_eq_true.mp h1 c hc
  rcases Bool.eq_false_or_eq_true (isCode c) with hi | hi
  · exact h2 c (List.mem_filter.mpr ⟨hc, hi⟩)
  · simpa [hi] using h
set_option maxRecDepth 65536 in
theorem w_c0 : (Jvm.Cond.code x code maxLocals ret).before args0 about1 = true := code_word (m := ⟨1, 1⟩) (meth := k1m1) (c := k1c1) (by decide +kernel) rfl rfl rfl (by decide +kernel)
set_option maxRecDepth 65536 in
theorem w_c1 : (Jvm.Cond.code ({ cls := "com/example/open_brace/openbrace/io/Input", name := "isWhitespace", desc := "(I)Z" } : Jvm.MethodName) prog_44_method_19_code (1 : Nat) (Option.some Jvm.ClassFile.FieldType.boolean)).before args0 about1 = true := code_word (m := ⟨2, 0⟩) (meth := k2m0) (c := k2c0) (by decide +kernel) rfl rfl rfl (by decide +kernel)
def codes1 : List Jvm.Cond := [Jvm.Cond.code x code maxLocals ret, Jvm.Cond.code ({ cls := "com/example/open_brace/openbrace/io/Input", name := "isWhitespace", desc := "(I)Z" } : Jvm.MethodName) prog_44_method_19_code (1 : Nat) (Option.some Jvm.ClassFile.FieldType.boolean)]
set_option maxRecDepth 65536 in
theorem codes_eq : words1.filter isCode = codes1 := rfl
theorem w_codes : ∀ c ∈ words1.filter isCode, c.before args0 about1 = true := by
  rw [codes_eq]
  intro c hc
  simp only [codes1, List.mem_cons, List.not_mem_nil, or_false] at hc
  rcases hc with rfl | rfl
  · exact w_c0
  · exact w_c1
set_option maxRecDepth 65536 in
theorem w_t1 : words1.all (fun c => isCode c || c.before args0 about1) = true := by decide +kernel
theorem w_tables : (allAtoms (Jvm.Cond.code x code maxLocals ret :: tables_1)).before args0 about1 = true := by
  rw [allAtoms_all]
  show words1.all (fun c => c.before args0 about1) = true
  refine all_split ?_ w_codes
  rw [w_t1]
set_option maxRecDepth 65536 in
theorem w_case : (Jvm.Cond.and given_1 narrow_1).before args0 about1 = true := by decide +kernel
theorem w_applies : (headSpec (Jvm.Cond.code x code maxLocals ret :: tables_1) room_1).applies x e0.platform about1 = true :=
  (Spec.applies_iff w_frames).mpr ⟨w_running, w_runnable, w_alone, w_named, w_hears, w_ripe, w_room, w_tables⟩
theorem atStart : AtStart classFile x code maxLocals ret World_1 tables_1 room_1 Calls_1 rest_1 Pre_1 launch0 p0 e0 about1 theMethod args0 below0 :=
  ⟨lists_1, trivial, launch0.admits_env _ _ _, launch0.least_env, fairChoices_fair.cas, fairChoices_fair.clock, w_frames, w_args, w_heap, w_applies, trivial, trivial, w_case⟩
end start1
theorem witness_1 : WitnessClaimed_1 := ⟨start1.p0, start1.e0, start1.about1, start1.theMethod, start1.args0, start1.below0, start1.atStart⟩
end Jvm.Pilot.@@N@@
