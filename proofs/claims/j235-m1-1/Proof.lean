import JvmDerived
import JvmDerived.Pilot.@@N@@Statement
import JvmDerived.Pilot.@@N@@Code
set_option linter.unusedVariables false
set_option linter.unusedSimpArgs false
set_option maxHeartbeats 40000000
set_option maxRecDepth 65536
namespace Jvm.RoadKit
open Sem ClassFile Op Lib Jvm.Stand Jvm.Free Jvm.LawKit
section New
variable {p : Program} {l : Launch} {e : Env} {R : Room} {s : State} {m : MethodId} {args : Array Value} {below : List Frame} {meth : Method} {c : Code} {T : State} {locs : List Loc} {cells slots : Nat}
theorem retI (X : Stand p l e R s m args below meth c T locs cells slots) (hx : p.tables.exec = Jvm.exec) {pc : Nat} {Ls : Array Slot} {z : Int32} {rest : List Value} (hret : meth.sig.returnType = some .int) (hd : decode c.code pc = .ok (.ireturn, 1)) {fs : List Frame}
    (hl : ∀ (f : JFrame) (acts : List Action), f.method = m → f.locked = none → f.entered = [] → (doReturn e (T.setTop f) acts (some (.int z))).1 = T.setFrames fs) : Steps p.tables e below (T.setTop (mkF m pc Ls (.int z :: rest))) (T.setFrames fs) := by
  have hm' : T.vm.method? m = some meth := X.method'
  have hn : narrow .int (.int z) = .int z := rfl
  show Steps p.tables e below (T.setTop { method := m, pc := pc, locals := Ls, stack := _ :: rest, locked := none }) _
  jvm_step X.here [X.here.top, hx, hd, hm', hret, hn]
  first | (intro acts; rw [hl _ acts rfl rfl rfl]) | rw [hl _ _ rfl rfl rfl]
  exact Steps.refl _
end New
end Jvm.RoadKit
namespace Jvm.Pilot.@@N@@
open Jvm Jvm.ClassFile Sem Op Lib Jvm.Free Jvm.Stand Jvm.LawKit Jvm.RoadKit Bundle Jvm.Pilot.@@N@@.Jvm.D
theorem d1_0 : decode prog_14_method_3_code 0 = .ok (.ldc2_w 9, 3) := by decide +kernel
theorem d1_3 : decode prog_14_method_3_code 3 = .ok (.lstore 4, 2) := by decide +kernel
theorem d1_5 : decode prog_14_method_3_code 5 = .ok (.lload_n 0, 1) := by decide +kernel
theorem d1_6 : decode prog_14_method_3_code 6 = .ok (.lconst 0, 1) := by decide +kernel
theorem d1_7 : decode prog_14_method_3_code 7 = .ok (.lcmp, 1) := by decide +kernel
theorem d1_8 : decode prog_14_method_3_code 8 = .ok (.ifCond .eq 13, 3) := by decide +kernel
theorem d1_11 : decode prog_14_method_3_code 11 = .ok (.lload_n 2, 1) := by decide +kernel
theorem d1_12 : decode prog_14_method_3_code 12 = .ok (.ldc2_w 9, 3) := by decide +kernel
theorem d1_15 : decode prog_14_method_3_code 15 = .ok (.lload_n 0, 1) := by decide +kernel
theorem d1_16 : decode prog_14_method_3_code 16 = .ok (.ldiv, 1) := by decide +kernel
theorem d1_17 : decode prog_14_method_3_code 17 = .ok (.lcmp, 1) := by decide +kernel
theorem d1_18 : decode prog_14_method_3_code 18 = .ok (.ifCond .gt 8, 3) := by decide +kernel
theorem d1_21 : decode prog_14_method_3_code 21 = .ok (.lload_n 0, 1) := by decide +kernel
theorem d1_22 : decode prog_14_method_3_code 22 = .ok (.lload_n 2, 1) := by decide +kernel
theorem d1_23 : decode prog_14_method_3_code 23 = .ok (.lmul, 1) := by decide +kernel
theorem d1_24 : decode prog_14_method_3_code 24 = .ok (.lstore 4, 2) := by decide +kernel
theorem d1_26 : decode prog_14_method_3_code 26 = .ok (.lload 4, 2) := by decide +kernel
theorem d1_28 : decode prog_14_method_3_code 28 = .ok (.lreturn, 1) := by decide +kernel
theorem pn_1 : plainName "com/example/refill/refill/core/Tokens" = true := by first | (simp [plainName, overriddenIn]; done) | decide +kernel
theorem ef_1 (m : MethodId) (j0 : Int64) (j2 : Int64) : entryFrame m #[(.long j0), (.long j2)] 6 = mkF m 0 #[.val (.long j0), .second, .val (.long j2), .second, .unset, .unset] [] := by first | (simp [entryFrame, mkF, argsToLocals, Value.category]; done) | rfl
def own_f1_21 (j0 : Int64) (j2 : Int64) (j4 : Int64) : Int64 :=
  (j0 * j2)
def own_f1_0 (j0 : Int64) (j2 : Int64) : Int64 :=
  (if j0 = (0 : Int64) then (own_f1_21 j0 j2 (9223372036854775807 : Int64)) else (if ((9223372036854775807 : Int64) / j0) < j2 then (9223372036854775807 : Int64) else (own_f1_21 j0 j2 (9223372036854775807 : Int64))))
set_option maxRecDepth 65536 in
set_option maxHeartbeats 40000000 in
theorem own_b1_21 {p : Program} {l : Launch} {e : Env} {s : State} {m : MethodId} {args : Array Value} {below : List Frame} {meth : Method} {c : Code} {Z : State} {a0_ : Array Value} (hx : p.tables.exec = Jvm.exec) (hZ : Z.Warmed39 s.vm) (hw : ∀ d ∈ tables_1, d.before a0_ Z = true) (hby : c.code = prog_14_method_3_code) (hml : c.maxLocals = 6) (hown : s.vm.findClass "com/example/refill/refill/core/Tokens" = some m.cls) (hret : meth.sig.returnType = some .long) {T0 : State} {locs : List Loc} {cells slots : Nat} {h0 : Heap} (j0 : Int64) (j2 : Int64) (j4 : Int64)
    (X0 : Stand p l e ({ frames := 0, cells := 0, slots := 0, locals := 0 } : Room) s m args below meth c T0 locs cells slots) (e0 : T0.heap = h0) (hcl : cells ≤ ({ frames := 0, cells := 0, slots := 0, locals := 0 } : Room).cells) (hsl : slots ≤ ({ frames := 0, cells := 0, slots := 0, locals := 0 } : Room).slots)  :
    ∃ T', Stand p l e ({ frames := 0, cells := 0, slots := 0, locals := 0 } : Room) s m args below meth c T' locs cells slots ∧ T'.heap = h0 ∧ ∀ fs, (∀ (f : JFrame) (acts : List Action), f.method = m → f.locked = none → f.entered = [] → (doReturn e (T'.setTop f) acts (some (.long (own_f1_21 j0 j2 j4)))).1 = T'.setFrames fs) → Steps p.tables e below (T0.setTop (mkF m 21 #[.val (.long j0), .second, .val (.long j2), .second, .val (.long j4), .second] [])) (T'.setFrames fs) := by
  refine ⟨T0, X0, e0, fun fs hr => ?_⟩
  have hv : (own_f1_21 j0 j2 j4) = (j0 * j2) := by unfold own_f1_21; rfl
  rw [hv] at hr
  show Steps p.tables e below (T0.setTop (mkF m 21 #[.val (.long j0), .second, .val (.long j2), .second, .val (.long j4), .second] [])) _
  refine XS.lloadN X0.here hx rfl (hb hby d1_21) rfl ?_
  show Steps p.tables e below (T0.setTop (mkF m 22 #[.val (.long j0), .second, .val (.long j2), .second, .val (.long j4), .second] [(.long j0)])) _
  refine XS.lloadN X0.here hx rfl (hb hby d1_22) rfl ?_
  show Steps p.tables e below (T0.setTop (mkF m 23 #[.val (.long j0), .second, .val (.long j2), .second, .val (.long j4), .second] [(.long j2), (.long j0)])) _
  refine XS.lmul X0.here hx rfl (hb hby d1_23) rfl ?_
  show Steps p.tables e below (T0.setTop (mkF m 24 #[.val (.long j0), .second, .val (.long j2), .second, .val (.long j4), .second] [(.long (j0 * j2))])) _
  refine XS.lstore X0.here hx rfl (hb hby d1_24) rfl (l' := #[.val (.long j0), .second, .val (.long j2), .second, .val (.long (j0 * j2)), .second]) rfl ?_
  show Steps p.tables e below (T0.setTop (mkF m 26 #[.val (.long j0), .second, .val (.long j2), .second, .val (.long (j0 * j2)), .second] [])) _
  refine XS.lload X0.here hx rfl (hb hby d1_26) rfl ?_
  show Steps p.tables e below (T0.setTop (mkF m 28 #[.val (.long j0), .second, .val (.long j2), .second, .val (.long (j0 * j2)), .second] [(.long (j0 * j2))])) _
  exact X0.lreturnOut hx hret (hb hby d1_28) hr
set_option maxRecDepth 65536 in
set_option maxHeartbeats 40000000 in
theorem own_b1_0 {p : Program} {l : Launch} {e : Env} {s : State} {m : MethodId} {args : Array Value} {below : List Frame} {meth : Method} {c : Code} {Z : State} {a0_ : Array Value} (hx : p.tables.exec = Jvm.exec) (hZ : Z.Warmed39 s.vm) (hw : ∀ d ∈ tables_1, d.before a0_ Z = true) (hby : c.code = prog_14_method_3_code) (hml : c.maxLocals = 6) (hown : s.vm.findClass "com/example/refill/refill/core/Tokens" = some m.cls) (hret : meth.sig.returnType = some .long) {T0 : State} {locs : List Loc} {cells slots : Nat} {h0 : Heap} (j0 : Int64) (j2 : Int64)
    (X0 : Stand p l e ({ frames := 0, cells := 0, slots := 0, locals := 0 } : Room) s m args below meth c T0 locs cells slots) (e0 : T0.heap = h0) (hcl : cells ≤ ({ frames := 0, cells := 0, slots := 0, locals := 0 } : Room).cells) (hsl : slots ≤ ({ frames := 0, cells := 0, slots := 0, locals := 0 } : Room).slots)  :
    ∃ T', Stand p l e ({ frames := 0, cells := 0, slots := 0, locals := 0 } : Room) s m args below meth c T' locs cells slots ∧ T'.heap = h0 ∧ ∀ fs, (∀ (f : JFrame) (acts : List Action), f.method = m → f.locked = none → f.entered = [] → (doReturn e (T'.setTop f) acts (some (.long (own_f1_0 j0 j2)))).1 = T'.setFrames fs) → Steps p.tables e below (T0.setTop (mkF m 0 #[.val (.long j0), .second, .val (.long j2), .second, .unset, .unset] [])) (T'.setFrames fs) := by
  have pre1 : ∀ target, Steps p.tables e below (T0.setTop (mkF m 8 #[.val (.long j0), .second, .val (.long j2), .second, .val (.long (9223372036854775807 : Int64)), .second] [(.int (lcmpW j0 (0 : Int64)))])) target → Steps p.tables e below (T0.setTop (mkF m 0 #[.val (.long j0), .second, .val (.long j2), .second, .unset, .unset] [])) target := by
    intro target kt
    show Steps p.tables e below (T0.setTop (mkF m 0 #[.val (.long j0), .second, .val (.long j2), .second, .unset, .unset] [])) _
    refine X0.ldc2Long hx hown (mvT hZ (hw _ (List.mem_of_getElem? (i := 5) rfl))) (g := (mkF m 0 #[.val (.long j0), .second, .val (.long j2), .second, .unset, .unset] [])) rfl (hb hby d1_0) _ ?_
    show Steps p.tables e below (T0.setTop (mkF m 3 #[.val (.long j0), .second, .val (.long j2), .second, .unset, .unset] [(.long (9223372036854775807 : Int64))])) _
    refine XS.lstore X0.here hx rfl (hb hby d1_3) rfl (l' := #[.val (.long j0), .second, .val (.long j2), .second, .val (.long (9223372036854775807 : Int64)), .second]) rfl ?_
    show Steps p.tables e below (T0.setTop (mkF m 5 #[.val (.long j0), .second, .val (.long j2), .second, .val (.long (9223372036854775807 : Int64)), .second] [])) _
    refine XS.lloadN X0.here hx rfl (hb hby d1_5) rfl ?_
    show Steps p.tables e below (T0.setTop (mkF m 6 #[.val (.long j0), .second, .val (.long j2), .second, .val (.long (9223372036854775807 : Int64)), .second] [(.long j0)])) _
    refine XS.lconst X0.here hx rfl (hb hby d1_6) ?_
    show Steps p.tables e below (T0.setTop (mkF m 7 #[.val (.long j0), .second, .val (.long j2), .second, .val (.long (9223372036854775807 : Int64)), .second] [(.long (0 : Int64)), (.long j0)])) _
    refine XS.lcmp X0.here hx rfl (hb hby d1_7) rfl ?_
    exact kt
  by_cases hc8 : j0 = (0 : Int64)
  · have pre2 : ∀ target, Steps p.tables e below (T0.setTop (mkF m 21 #[.val (.long j0), .second, .val (.long j2), .second, .val (.long (9223372036854775807 : Int64)), .second] [])) target → Steps p.tables e below (T0.setTop (mkF m 0 #[.val (.long j0), .second, .val (.long j2), .second, .unset, .unset] [])) target := by
      intro target kt
      refine pre1 target ?_
      show Steps p.tables e below (T0.setTop (mkF m 8 #[.val (.long j0), .second, .val (.long j2), .second, .val (.long (9223372036854775807 : Int64)), .second] [(.int (lcmpW j0 (0 : Int64)))])) _
      refine XS.ifYes X0.here hx rfl (pc0 := 8) (pc' := 21) rfl (hb hby d1_8) rfl ((if0 _ _).trans (teq ((lw_eq _ _).mpr hc8)).1) (by decide) (by decide) ?_
      exact kt
    obtain ⟨T3, X3, e3, st3⟩ := own_b1_21 hx hZ hw hby hml hown hret j0 j2 (9223372036854775807 : Int64)  X0 e0 hcl hsl  
    have hv : (own_f1_0 j0 j2) = (own_f1_21 j0 j2 (9223372036854775807 : Int64)) := by unfold own_f1_0; rw [if_pos hc8]
    exact ⟨T3, X3, e3, fun fs hr => pre2 _ (st3 fs (by rw [hv] at hr; exact hr))⟩
  · have hnz16 : j0 ≠ (0 : Int64) := by first | assumption | exact own_nz _ | exact own_nz _ _
    have pre4 : ∀ target, Steps p.tables e below (T0.setTop (mkF m 18 #[.val (.long j0), .second, .val (.long j2), .second, .val (.long (9223372036854775807 : Int64)), .second] [(.int (lcmpW j2 ((9223372036854775807 : Int64) / j0)))])) target → Steps p.tables e below (T0.setTop (mkF m 0 #[.val (.long j0), .second, .val (.long j2), .second, .unset, .unset] [])) target := by
      intro target kt
      refine pre1 target ?_
      show Steps p.tables e below (T0.setTop (mkF m 8 #[.val (.long j0), .second, .val (.long j2), .second, .val (.long (9223372036854775807 : Int64)), .second] [(.int (lcmpW j0 (0 : Int64)))])) _
      refine XS.ifNo X0.here hx rfl (hb hby d1_8) rfl ((if0 _ _).trans (feq (mt (lw_eq _ _).mp hc8)).1) ?_
      show Steps p.tables e below (T0.setTop (mkF m 11 #[.val (.long j0), .second, .val (.long j2), .second, .val (.long (9223372036854775807 : Int64)), .second] [])) _
      refine XS.lloadN X0.here hx rfl (hb hby d1_11) rfl ?_
      show Steps p.tables e below (T0.setTop (mkF m 12 #[.val (.long j0), .second, .val (.long j2), .second, .val (.long (9223372036854775807 : Int64)), .second] [(.long j2)])) _
      refine X0.ldc2Long hx hown (mvT hZ (hw _ (List.mem_of_getElem? (i := 5) rfl))) (g := (mkF m 12 #[.val (.long j0), .second, .val (.long j2), .second, .val (.long (9223372036854775807 : Int64)), .second] [(.long j2)])) rfl (hb hby d1_12) _ ?_
      show Steps p.tables e below (T0.setTop (mkF m 15 #[.val (.long j0), .second, .val (.long j2), .second, .val (.long (9223372036854775807 : Int64)), .second] [(.long (9223372036854775807 : Int64)), (.long j2)])) _
      refine XS.lloadN X0.here hx rfl (hb hby d1_15) rfl ?_
      show Steps p.tables e below (T0.setTop (mkF m 16 #[.val (.long j0), .second, .val (.long j2), .second, .val (.long (9223372036854775807 : Int64)), .second] [(.long j0), (.long (9223372036854775807 : Int64)), (.long j2)])) _
      refine XS.ldiv X0.here hx rfl (hb hby d1_16) rfl hnz16 ?_
      show Steps p.tables e below (T0.setTop (mkF m 17 #[.val (.long j0), .second, .val (.long j2), .second, .val (.long (9223372036854775807 : Int64)), .second] [(.long ((9223372036854775807 : Int64) / j0)), (.long j2)])) _
      refine XS.lcmp X0.here hx rfl (hb hby d1_17) rfl ?_
      exact kt
    by_cases hc18 : ((9223372036854775807 : Int64) / j0) < j2
    · refine ⟨T0, X0, e0, fun fs hr => ?_⟩
      have hv : (own_f1_0 j0 j2) = (9223372036854775807 : Int64) := by unfold own_f1_0; rw [if_neg hc8, if_pos hc18]
      rw [hv] at hr
      refine pre4 _ ?_
      show Steps p.tables e below (T0.setTop (mkF m 18 #[.val (.long j0), .second, .val (.long j2), .second, .val (.long (9223372036854775807 : Int64)), .second] [(.int (lcmpW j2 ((9223372036854775807 : Int64) / j0)))])) _
      refine XS.ifYes X0.here hx rfl (pc0 := 18) (pc' := 26) rfl (hb hby d1_18) rfl ((if0 _ _).trans (tlt ((lw_gt _ _).mpr hc18)).2.2.1) (by decide) (by decide) ?_
      show Steps p.tables e below (T0.setTop (mkF m 26 #[.val (.long j0), .second, .val (.long j2), .second, .val (.long (9223372036854775807 : Int64)), .second] [])) _
      refine XS.lload X0.here hx rfl (hb hby d1_26) rfl ?_
      show Steps p.tables e below (T0.setTop (mkF m 28 #[.val (.long j0), .second, .val (.long j2), .second, .val (.long (9223372036854775807 : Int64)), .second] [(.long (9223372036854775807 : Int64))])) _
      exact X0.lreturnOut hx hret (hb hby d1_28) hr
    · have pre5 : ∀ target, Steps p.tables e below (T0.setTop (mkF m 21 #[.val (.long j0), .second, .val (.long j2), .second, .val (.long (9223372036854775807 : Int64)), .second] [])) target → Steps p.tables e below (T0.setTop (mkF m 0 #[.val (.long j0), .second, .val (.long j2), .second, .unset, .unset] [])) target := by
        intro target kt
        refine pre4 target ?_
        show Steps p.tables e below (T0.setTop (mkF m 18 #[.val (.long j0), .second, .val (.long j2), .second, .val (.long (9223372036854775807 : Int64)), .second] [(.int (lcmpW j2 ((9223372036854775807 : Int64) / j0)))])) _
        refine XS.ifNo X0.here hx rfl (hb hby d1_18) rfl ((if0 _ _).trans (flt (mt (lw_gt _ _).mp hc18)).2.2.1) ?_
        exact kt
      obtain ⟨T6, X6, e6, st6⟩ := own_b1_21 hx hZ hw hby hml hown hret j0 j2 (9223372036854775807 : Int64)  X0 e0 hcl hsl  
      have hv : (own_f1_0 j0 j2) = (own_f1_21 j0 j2 (9223372036854775807 : Int64)) := by unfold own_f1_0; rw [if_neg hc8, if_neg hc18]
      exact ⟨T6, X6, e6, fun fs hr => pre5 _ (st6 fs (by rw [hv] at hr; exact hr))⟩
def Q1 (Z : State) (j0 : Int64) (j2 : Int64) (h0 : Heap) (n0 : Nat) (v : Option Value) (h : Heap) (L : List Loc) : Prop := v = some (.long (own_f1_0 j0 j2)) ∧ L = [] ∧ h = h0
set_option maxRecDepth 65536 in
set_option maxHeartbeats 40000000 in
theorem rm1 (l : Launch) (Z : State) (a0_ : Array Value) (hw : ∀ d ∈ tables_1, d.before a0_ Z = true) (ws : List Jvm.Cond) (j0 : Int64) (j2 : Int64) (h0 : Heap) (n0 : Nat) (Z0 : n0 ≤ h0.size)  :
    MetFree l (⟨"com/example/refill/refill/core/Tokens", "product", "(JJ)J"⟩ : MethodName) (head1 (Jvm.Cond.code (⟨"com/example/refill/refill/core/Tokens", "product", "(JJ)J"⟩ : MethodName) prog_14_method_3_code 6 (some .long) :: ws) ({ frames := 0, cells := 0, slots := 0, locals := 0 } : Room)) (fun a U => a = #[(.long j0), (.long j2)] ∧ Z.Warmed39 U.vm ∧ U.heap = h0) (fun _ _ _ _ _ => True) (fun _ U o U' => ∃ v L, o = .returned v ∧ Q1 Z j0 j2 h0 n0 v U'.heap L ∧ FrameEnd U o U' L ({ frames := 0, cells := 0, slots := 0, locals := 0 } : Room).cells ({ frames := 0, cells := 0, slots := 0, locals := 0 } : Room).slots) := by
  refine MetFree.of_bodySF (plainFor_of_name pn_1) hisR ?_
  intro p e s m args below meth c s₁ Bd hml0 hP hK
  obtain ⟨rfl, hZ, hh⟩ := hP
  have hx := Bd.exec
  have hby := Bd.bytes
  have hml : c.maxLocals = 6 := hml0
  have hown : s.vm.findClass "com/example/refill/refill/core/Tokens" = some m.cls := findClass_of_methodNamed Bd.named
  have X0 : Stand p l e ({ frames := 0, cells := 0, slots := 0, locals := 0 } : Room) s m #[(.long j0), (.long j2)] below meth c s₁ [] 0 0 := Stand.of_body Bd
  have e0 : s₁.heap = h0 := by rw [← hh, Bd.state]; rfl
  obtain ⟨T', X', e', st'⟩ := own_b1_0 hx hZ hw hby hml hown Bd.returns  j0 j2 X0 e0 (by decide) (by decide) 
  obtain ⟨fs, hr, hrun, hended, hW, hsame⟩ := X'.leave (v := some (.long (own_f1_0 j0 j2))) (fun h => by rw [Bd.returns] at h; cases h)
  refine ⟨_, _, castTop (ef_1 m j0 j2) (st' fs hr), hrun, hended, _, _, rfl, ?_, ⟨_, rfl⟩, hW, hsame.mono (by decide) (by decide)⟩
  exact ⟨rfl, rfl, e'⟩
theorem d2_0 : decode method_2_code 0 = .ok (.ldc2_w 9, 3) := by decide +kernel
theorem d2_3 : decode method_2_code 3 = .ok (.lstore 4, 2) := by decide +kernel
theorem d2_5 : decode method_2_code 5 = .ok (.lload_n 0, 1) := by decide +kernel
theorem d2_6 : decode method_2_code 6 = .ok (.bipush 32, 2) := by decide +kernel
theorem d2_8 : decode method_2_code 8 = .ok (.lushr, 1) := by decide +kernel
theorem d2_9 : decode method_2_code 9 = .ok (.lstore 6, 2) := by decide +kernel
theorem d2_11 : decode method_2_code 11 = .ok (.lload_n 0, 1) := by decide +kernel
theorem d2_12 : decode method_2_code 12 = .ok (.ldc2_w 11, 3) := by decide +kernel
theorem d2_15 : decode method_2_code 15 = .ok (.land, 1) := by decide +kernel
theorem d2_16 : decode method_2_code 16 = .ok (.lstore 8, 2) := by decide +kernel
theorem d2_18 : decode method_2_code 18 = .ok (.lload_n 2, 1) := by decide +kernel
theorem d2_19 : decode method_2_code 19 = .ok (.bipush 32, 2) := by decide +kernel
theorem d2_21 : decode method_2_code 21 = .ok (.lushr, 1) := by decide +kernel
theorem d2_22 : decode method_2_code 22 = .ok (.lstore 10, 2) := by decide +kernel
theorem d2_24 : decode method_2_code 24 = .ok (.lload_n 2, 1) := by decide +kernel
theorem d2_25 : decode method_2_code 25 = .ok (.ldc2_w 11, 3) := by decide +kernel
theorem d2_28 : decode method_2_code 28 = .ok (.land, 1) := by decide +kernel
theorem d2_29 : decode method_2_code 29 = .ok (.lstore 12, 2) := by decide +kernel
theorem d2_31 : decode method_2_code 31 = .ok (.lload 6, 2) := by decide +kernel
theorem d2_33 : decode method_2_code 33 = .ok (.lconst 0, 1) := by decide +kernel
theorem d2_34 : decode method_2_code 34 = .ok (.lcmp, 1) := by decide +kernel
theorem d2_35 : decode method_2_code 35 = .ok (.ifCond .eq 13, 3) := by decide +kernel
theorem d2_38 : decode method_2_code 38 = .ok (.lload 10, 2) := by decide +kernel
theorem d2_40 : decode method_2_code 40 = .ok (.lconst 0, 1) := by decide +kernel
theorem d2_41 : decode method_2_code 41 = .ok (.lcmp, 1) := by decide +kernel
theorem d2_42 : decode method_2_code 42 = .ok (.ifCond .eq 6, 3) := by decide +kernel
theorem d2_45 : decode method_2_code 45 = .ok (.lload 4, 2) := by decide +kernel
theorem d2_47 : decode method_2_code 47 = .ok (.lreturn, 1) := by decide +kernel
theorem d2_48 : decode method_2_code 48 = .ok (.lload 6, 2) := by decide +kernel
theorem d2_50 : decode method_2_code 50 = .ok (.lload 12, 2) := by decide +kernel
theorem d2_52 : decode method_2_code 52 = .ok (.lmul, 1) := by decide +kernel
theorem d2_53 : decode method_2_code 53 = .ok (.lload 8, 2) := by decide +kernel
theorem d2_55 : decode method_2_code 55 = .ok (.lload 10, 2) := by decide +kernel
theorem d2_57 : decode method_2_code 57 = .ok (.lmul, 1) := by decide +kernel
theorem d2_58 : decode method_2_code 58 = .ok (.ladd, 1) := by decide +kernel
theorem d2_59 : decode method_2_code 59 = .ok (.lstore 14, 2) := by decide +kernel
theorem d2_61 : decode method_2_code 61 = .ok (.lload 14, 2) := by decide +kernel
theorem d2_63 : decode method_2_code 63 = .ok (.ldc2_w 13, 3) := by decide +kernel
theorem d2_66 : decode method_2_code 66 = .ok (.lcmp, 1) := by decide +kernel
theorem d2_67 : decode method_2_code 67 = .ok (.ifCond .lt 6, 3) := by decide +kernel
theorem d2_70 : decode method_2_code 70 = .ok (.lload 4, 2) := by decide +kernel
theorem d2_72 : decode method_2_code 72 = .ok (.lreturn, 1) := by decide +kernel
theorem d2_73 : decode method_2_code 73 = .ok (.lload 14, 2) := by decide +kernel
theorem d2_75 : decode method_2_code 75 = .ok (.bipush 32, 2) := by decide +kernel
theorem d2_77 : decode method_2_code 77 = .ok (.lshl, 1) := by decide +kernel
theorem d2_78 : decode method_2_code 78 = .ok (.lstore 16, 2) := by decide +kernel
theorem d2_80 : decode method_2_code 80 = .ok (.lload 8, 2) := by decide +kernel
theorem d2_82 : decode method_2_code 82 = .ok (.lload 12, 2) := by decide +kernel
theorem d2_84 : decode method_2_code 84 = .ok (.lmul, 1) := by decide +kernel
theorem d2_85 : decode method_2_code 85 = .ok (.lstore 18, 2) := by decide +kernel
theorem d2_87 : decode method_2_code 87 = .ok (.lload 18, 2) := by decide +kernel
theorem d2_89 : decode method_2_code 89 = .ok (.lconst 0, 1) := by decide +kernel
theorem d2_90 : decode method_2_code 90 = .ok (.lcmp, 1) := by decide +kernel
theorem d2_91 : decode method_2_code 91 = .ok (.ifCond .ge 6, 3) := by decide +kernel
theorem d2_94 : decode method_2_code 94 = .ok (.lload 4, 2) := by decide +kernel
theorem d2_96 : decode method_2_code 96 = .ok (.lreturn, 1) := by decide +kernel
theorem d2_97 : decode method_2_code 97 = .ok (.lload 16, 2) := by decide +kernel
theorem d2_99 : decode method_2_code 99 = .ok (.lload 18, 2) := by decide +kernel
theorem d2_101 : decode method_2_code 101 = .ok (.ladd, 1) := by decide +kernel
theorem d2_102 : decode method_2_code 102 = .ok (.lstore 20, 2) := by decide +kernel
theorem d2_104 : decode method_2_code 104 = .ok (.lload 20, 2) := by decide +kernel
theorem d2_106 : decode method_2_code 106 = .ok (.lconst 0, 1) := by decide +kernel
theorem d2_107 : decode method_2_code 107 = .ok (.lcmp, 1) := by decide +kernel
theorem d2_108 : decode method_2_code 108 = .ok (.ifCond .ge 6, 3) := by decide +kernel
theorem d2_111 : decode method_2_code 111 = .ok (.lload 4, 2) := by decide +kernel
theorem d2_113 : decode method_2_code 113 = .ok (.lreturn, 1) := by decide +kernel
theorem d2_114 : decode method_2_code 114 = .ok (.lload 20, 2) := by decide +kernel
theorem d2_116 : decode method_2_code 116 = .ok (.lreturn, 1) := by decide +kernel
theorem pn_2 : plainName "com/example/refill/refill/core/TokensProductPinLaw" = true := by first | (simp [plainName, overriddenIn]; done) | decide +kernel
theorem ef_2 (m : MethodId) (j0 : Int64) (j2 : Int64) : entryFrame m #[(.long j0), (.long j2)] 22 = mkF m 0 #[.val (.long j0), .second, .val (.long j2), .second, .unset, .unset, .unset, .unset, .unset, .unset, .unset, .unset, .unset, .unset, .unset, .unset, .unset, .unset, .unset, .unset, .unset, .unset] [] := by first | (simp [entryFrame, mkF, argsToLocals, Value.category]; done) | rfl
def own_f2_48 (j0 : Int64) (j2 : Int64) (j4 : Int64) (j6 : Int64) (j8 : Int64) (j10 : Int64) (j12 : Int64) : Int64 :=
  (if ((j6 * j12) + (j8 * j10)) < (2147483648 : Int64) then (if (j8 * j12) < (0 : Int64) then j4 else (if ((((j6 * j12) + (j8 * j10)) <<< ((32 : Int32) &&& 0x3f).toInt64) + (j8 * j12)) < (0 : Int64) then j4 else ((((j6 * j12) + (j8 * j10)) <<< ((32 : Int32) &&& 0x3f).toInt64) + (j8 * j12)))) else j4)
def own_f2_0 (j0 : Int64) (j2 : Int64) : Int64 :=
  (if ((j0.toUInt64 >>> ((32 : Int32) &&& 0x3f).toInt64.toUInt64).toInt64) = (0 : Int64) then (own_f2_48 j0 j2 (9223372036854775807 : Int64) ((j0.toUInt64 >>> ((32 : Int32) &&& 0x3f).toInt64.toUInt64).toInt64) (j0 &&& (4294967295 : Int64)) ((j2.toUInt64 >>> ((32 : Int32) &&& 0x3f).toInt64.toUInt64).toInt64) (j2 &&& (4294967295 : Int64))) else (if ((j2.toUInt64 >>> ((32 : Int32) &&& 0x3f).toInt64.toUInt64).toInt64) = (0 : Int64) then (own_f2_48 j0 j2 (9223372036854775807 : Int64) ((j0.toUInt64 >>> ((32 : Int32) &&& 0x3f).toInt64.toUInt64).toInt64) (j0 &&& (4294967295 : Int64)) ((j2.toUInt64 >>> ((32 : Int32) &&& 0x3f).toInt64.toUInt64).toInt64) (j2 &&& (4294967295 : Int64))) else (9223372036854775807 : Int64)))
set_option maxRecDepth 65536 in
set_option maxHeartbeats 40000000 in
theorem own_b2_48 {p : Program} {l : Launch} {e : Env} {s : State} {m : MethodId} {args : Array Value} {below : List Frame} {meth : Method} {c : Code} {Z : State} {a0_ : Array Value} (hx : p.tables.exec = Jvm.exec) (hZ : Z.Warmed39 s.vm) (hw : ∀ d ∈ tables_1, d.before a0_ Z = true) (hby : c.code = method_2_code) (hml : c.maxLocals = 22) (hown : s.vm.findClass "com/example/refill/refill/core/TokensProductPinLaw" = some m.cls) (hret : meth.sig.returnType = some .long) {T0 : State} {locs : List Loc} {cells slots : Nat} {h0 : Heap} (j0 : Int64) (j2 : Int64) (j4 : Int64) (j6 : Int64) (j8 : Int64) (j10 : Int64) (j12 : Int64)
    (X0 : Stand p l e ({ frames := 0, cells := 0, slots := 0, locals := 0 } : Room) s m args below meth c T0 locs cells slots) (e0 : T0.heap = h0) (hcl : cells ≤ ({ frames := 0, cells := 0, slots := 0, locals := 0 } : Room).cells) (hsl : slots ≤ ({ frames := 0, cells := 0, slots := 0, locals := 0 } : Room).slots)  :
    ∃ T', Stand p l e ({ frames := 0, cells := 0, slots := 0, locals := 0 } : Room) s m args below meth c T' locs cells slots ∧ T'.heap = h0 ∧ ∀ fs, (∀ (f : JFrame) (acts : List Action), f.method = m → f.locked = none → f.entered = [] → (doReturn e (T'.setTop f) acts (some (.long (own_f2_48 j0 j2 j4 j6 j8 j10 j12)))).1 = T'.setFrames fs) → Steps p.tables e below (T0.setTop (mkF m 48 #[.val (.long j0), .second, .val (.long j2), .second, .val (.long j4), .second, .val (.long j6), .second, .val (.long j8), .second, .val (.long j10), .second, .val (.long j12), .second, .unset, .unset, .unset, .unset, .unset, .unset, .unset, .unset] [])) (T'.setFrames fs) := by
  have pre1 : ∀ target, Steps p.tables e below (T0.setTop (mkF m 67 #[.val (.long j0), .second, .val (.long j2), .second, .val (.long j4), .second, .val (.long j6), .second, .val (.long j8), .second, .val (.long j10), .second, .val (.long j12), .second, .val (.long ((j6 * j12) + (j8 * j10))), .second, .unset, .unset, .unset, .unset, .unset, .unset] [(.int (lcmpW ((j6 * j12) + (j8 * j10)) (2147483648 : Int64)))])) target → Steps p.tables e below (T0.setTop (mkF m 48 #[.val (.long j0), .second, .val (.long j2), .second, .val (.long j4), .second, .val (.long j6), .second, .val (.long j8), .second, .val (.long j10), .second, .val (.long j12), .second, .unset, .unset, .unset, .unset, .unset, .unset, .unset, .unset] [])) target := by
    intro target kt
    show Steps p.tables e below (T0.setTop (mkF m 48 #[.val (.long j0), .second, .val (.long j2), .second, .val (.long j4), .second, .val (.long j6), .second, .val (.long j8), .second, .val (.long j10), .second, .val (.long j12), .second, .unset, .unset, .unset, .unset, .unset, .unset, .unset, .unset] [])) _
    refine XS.lload X0.here hx rfl (hb hby d2_48) rfl ?_
    show Steps p.tables e below (T0.setTop (mkF m 50 #[.val (.long j0), .second, .val (.long j2), .second, .val (.long j4), .second, .val (.long j6), .second, .val (.long j8), .second, .val (.long j10), .second, .val (.long j12), .second, .unset, .unset, .unset, .unset, .unset, .unset, .unset, .unset] [(.long j6)])) _
    refine XS.lload X0.here hx rfl (hb hby d2_50) rfl ?_
    show Steps p.tables e below (T0.setTop (mkF m 52 #[.val (.long j0), .second, .val (.long j2), .second, .val (.long j4), .second, .val (.long j6), .second, .val (.long j8), .second, .val (.long j10), .second, .val (.long j12), .second, .unset, .unset, .unset, .unset, .unset, .unset, .unset, .unset] [(.long j12), (.long j6)])) _
    refine XS.lmul X0.here hx rfl (hb hby d2_52) rfl ?_
    show Steps p.tables e below (T0.setTop (mkF m 53 #[.val (.long j0), .second, .val (.long j2), .second, .val (.long j4), .second, .val (.long j6), .second, .val (.long j8), .second, .val (.long j10), .second, .val (.long j12), .second, .unset, .unset, .unset, .unset, .unset, .unset, .unset, .unset] [(.long (j6 * j12))])) _
    refine XS.lload X0.here hx rfl (hb hby d2_53) rfl ?_
    show Steps p.tables e below (T0.setTop (mkF m 55 #[.val (.long j0), .second, .val (.long j2), .second, .val (.long j4), .second, .val (.long j6), .second, .val (.long j8), .second, .val (.long j10), .second, .val (.long j12), .second, .unset, .unset, .unset, .unset, .unset, .unset, .unset, .unset] [(.long j8), (.long (j6 * j12))])) _
    refine XS.lload X0.here hx rfl (hb hby d2_55) rfl ?_
    show Steps p.tables e below (T0.setTop (mkF m 57 #[.val (.long j0), .second, .val (.long j2), .second, .val (.long j4), .second, .val (.long j6), .second, .val (.long j8), .second, .val (.long j10), .second, .val (.long j12), .second, .unset, .unset, .unset, .unset, .unset, .unset, .unset, .unset] [(.long j10), (.long j8), (.long (j6 * j12))])) _
    refine XS.lmul X0.here hx rfl (hb hby d2_57) rfl ?_
    show Steps p.tables e below (T0.setTop (mkF m 58 #[.val (.long j0), .second, .val (.long j2), .second, .val (.long j4), .second, .val (.long j6), .second, .val (.long j8), .second, .val (.long j10), .second, .val (.long j12), .second, .unset, .unset, .unset, .unset, .unset, .unset, .unset, .unset] [(.long (j8 * j10)), (.long (j6 * j12))])) _
    refine XS.ladd X0.here hx rfl (hb hby d2_58) rfl ?_
    show Steps p.tables e below (T0.setTop (mkF m 59 #[.val (.long j0), .second, .val (.long j2), .second, .val (.long j4), .second, .val (.long j6), .second, .val (.long j8), .second, .val (.long j10), .second, .val (.long j12), .second, .unset, .unset, .unset, .unset, .unset, .unset, .unset, .unset] [(.long ((j6 * j12) + (j8 * j10)))])) _
    refine XS.lstore X0.here hx rfl (hb hby d2_59) rfl (l' := #[.val (.long j0), .second, .val (.long j2), .second, .val (.long j4), .second, .val (.long j6), .second, .val (.long j8), .second, .val (.long j10), .second, .val (.long j12), .second, .val (.long ((j6 * j12) + (j8 * j10))), .second, .unset, .unset, .unset, .unset, .unset, .unset]) rfl ?_
    show Steps p.tables e below (T0.setTop (mkF m 61 #[.val (.long j0), .second, .val (.long j2), .second, .val (.long j4), .second, .val (.long j6), .second, .val (.long j8), .second, .val (.long j10), .second, .val (.long j12), .second, .val (.long ((j6 * j12) + (j8 * j10))), .second, .unset, .unset, .unset, .unset, .unset, .unset] [])) _
    refine XS.lload X0.here hx rfl (hb hby d2_61) rfl ?_
    show Steps p.tables e below (T0.setTop (mkF m 63 #[.val (.long j0), .second, .val (.long j2), .second, .val (.long j4), .second, .val (.long j6), .second, .val (.long j8), .second, .val (.long j10), .second, .val (.long j12), .second, .val (.long ((j6 * j12) + (j8 * j10))), .second, .unset, .unset, .unset, .unset, .unset, .unset] [(.long ((j6 * j12) + (j8 * j10)))])) _
    refine X0.ldc2Long hx hown (mvT hZ (hw _ (List.mem_of_getElem? (i := 11) rfl))) (g := (mkF m 63 #[.val (.long j0), .second, .val (.long j2), .second, .val (.long j4), .second, .val (.long j6), .second, .val (.long j8), .second, .val (.long j10), .second, .val (.long j12), .second, .val (.long ((j6 * j12) + (j8 * j10))), .second, .unset, .unset, .unset, .unset, .unset, .unset] [(.long ((j6 * j12) + (j8 * j10)))])) rfl (hb hby d2_63) _ ?_
    show Steps p.tables e below (T0.setTop (mkF m 66 #[.val (.long j0), .second, .val (.long j2), .second, .val (.long j4), .second, .val (.long j6), .second, .val (.long j8), .second, .val (.long j10), .second, .val (.long j12), .second, .val (.long ((j6 * j12) + (j8 * j10))), .second, .unset, .unset, .unset, .unset, .unset, .unset] [(.long (2147483648 : Int64)), (.long ((j6 * j12) + (j8 * j10)))])) _
    refine XS.lcmp X0.here hx rfl (hb hby d2_66) rfl ?_
    exact kt
  by_cases hc67 : ((j6 * j12) + (j8 * j10)) < (2147483648 : Int64)
  · have pre2 : ∀ target, Steps p.tables e below (T0.setTop (mkF m 91 #[.val (.long j0), .second, .val (.long j2), .second, .val (.long j4), .second, .val (.long j6), .second, .val (.long j8), .second, .val (.long j10), .second, .val (.long j12), .second, .val (.long ((j6 * j12) + (j8 * j10))), .second, .val (.long (((j6 * j12) + (j8 * j10)) <<< ((32 : Int32) &&& 0x3f).toInt64)), .second, .val (.long (j8 * j12)), .second, .unset, .unset] [(.int (lcmpW (j8 * j12) (0 : Int64)))])) target → Steps p.tables e below (T0.setTop (mkF m 48 #[.val (.long j0), .second, .val (.long j2), .second, .val (.long j4), .second, .val (.long j6), .second, .val (.long j8), .second, .val (.long j10), .second, .val (.long j12), .second, .unset, .unset, .unset, .unset, .unset, .unset, .unset, .unset] [])) target := by
      intro target kt
      refine pre1 target ?_
      show Steps p.tables e below (T0.setTop (mkF m 67 #[.val (.long j0), .second, .val (.long j2), .second, .val (.long j4), .second, .val (.long j6), .second, .val (.long j8), .second, .val (.long j10), .second, .val (.long j12), .second, .val (.long ((j6 * j12) + (j8 * j10))), .second, .unset, .unset, .unset, .unset, .unset, .unset] [(.int (lcmpW ((j6 * j12) + (j8 * j10)) (2147483648 : Int64)))])) _
      refine XS.ifYes X0.here hx rfl (pc0 := 67) (pc' := 73) rfl (hb hby d2_67) rfl ((if0 _ _).trans (tlt ((lw_lt _ _).mpr hc67)).1) (by decide) (by decide) ?_
      show Steps p.tables e below (T0.setTop (mkF m 73 #[.val (.long j0), .second, .val (.long j2), .second, .val (.long j4), .second, .val (.long j6), .second, .val (.long j8), .second, .val (.long j10), .second, .val (.long j12), .second, .val (.long ((j6 * j12) + (j8 * j10))), .second, .unset, .unset, .unset, .unset, .unset, .unset] [])) _
      refine XS.lload X0.here hx rfl (hb hby d2_73) rfl ?_
      show Steps p.tables e below (T0.setTop (mkF m 75 #[.val (.long j0), .second, .val (.long j2), .second, .val (.long j4), .second, .val (.long j6), .second, .val (.long j8), .second, .val (.long j10), .second, .val (.long j12), .second, .val (.long ((j6 * j12) + (j8 * j10))), .second, .unset, .unset, .unset, .unset, .unset, .unset] [(.long ((j6 * j12) + (j8 * j10)))])) _
      refine XS.bipush X0.here hx rfl (hb hby d2_75) ?_
      show Steps p.tables e below (T0.setTop (mkF m 77 #[.val (.long j0), .second, .val (.long j2), .second, .val (.long j4), .second, .val (.long j6), .second, .val (.long j8), .second, .val (.long j10), .second, .val (.long j12), .second, .val (.long ((j6 * j12) + (j8 * j10))), .second, .unset, .unset, .unset, .unset, .unset, .unset] [(.int (32 : Int32)), (.long ((j6 * j12) + (j8 * j10)))])) _
      refine XS.lshl X0.here hx rfl (hb hby d2_77) rfl ?_
      show Steps p.tables e below (T0.setTop (mkF m 78 #[.val (.long j0), .second, .val (.long j2), .second, .val (.long j4), .second, .val (.long j6), .second, .val (.long j8), .second, .val (.long j10), .second, .val (.long j12), .second, .val (.long ((j6 * j12) + (j8 * j10))), .second, .unset, .unset, .unset, .unset, .unset, .unset] [(.long (((j6 * j12) + (j8 * j10)) <<< ((32 : Int32) &&& 0x3f).toInt64))])) _
      refine XS.lstore X0.here hx rfl (hb hby d2_78) rfl (l' := #[.val (.long j0), .second, .val (.long j2), .second, .val (.long j4), .second, .val (.long j6), .second, .val (.long j8), .second, .val (.long j10), .second, .val (.long j12), .second, .val (.long ((j6 * j12) + (j8 * j10))), .second, .val (.long (((j6 * j12) + (j8 * j10)) <<< ((32 : Int32) &&& 0x3f).toInt64)), .second, .unset, .unset, .unset, .unset]) rfl ?_
      show Steps p.tables e below (T0.setTop (mkF m 80 #[.val (.long j0), .second, .val (.long j2), .second, .val (.long j4), .second, .val (.long j6), .second, .val (.long j8), .second, .val (.long j10), .second, .val (.long j12), .second, .val (.long ((j6 * j12) + (j8 * j10))), .second, .val (.long (((j6 * j12) + (j8 * j10)) <<< ((32 : Int32) &&& 0x3f).toInt64)), .second, .unset, .unset, .unset, .unset] [])) _
      refine XS.lload X0.here hx rfl (hb hby d2_80) rfl ?_
      show Steps p.tables e below (T0.setTop (mkF m 82 #[.val (.long j0), .second, .val (.long j2), .second, .val (.long j4), .second, .val (.long j6), .second, .val (.long j8), .second, .val (.long j10), .second, .val (.long j12), .second, .val (.long ((j6 * j12) + (j8 * j10))), .second, .val (.long (((j6 * j12) + (j8 * j10)) <<< ((32 : Int32) &&& 0x3f).toInt64)), .second, .unset, .unset, .unset, .unset] [(.long j8)])) _
      refine XS.lload X0.here hx rfl (hb hby d2_82) rfl ?_
      show Steps p.tables e below (T0.setTop (mkF m 84 #[.val (.long j0), .second, .val (.long j2), .second, .val (.long j4), .second, .val (.long j6), .second, .val (.long j8), .second, .val (.long j10), .second, .val (.long j12), .second, .val (.long ((j6 * j12) + (j8 * j10))), .second, .val (.long (((j6 * j12) + (j8 * j10)) <<< ((32 : Int32) &&& 0x3f).toInt64)), .second, .unset, .unset, .unset, .unset] [(.long j12), (.long j8)])) _
      refine XS.lmul X0.here hx rfl (hb hby d2_84) rfl ?_
      show Steps p.tables e below (T0.setTop (mkF m 85 #[.val (.long j0), .second, .val (.long j2), .second, .val (.long j4), .second, .val (.long j6), .second, .val (.long j8), .second, .val (.long j10), .second, .val (.long j12), .second, .val (.long ((j6 * j12) + (j8 * j10))), .second, .val (.long (((j6 * j12) + (j8 * j10)) <<< ((32 : Int32) &&& 0x3f).toInt64)), .second, .unset, .unset, .unset, .unset] [(.long (j8 * j12))])) _
      refine XS.lstore X0.here hx rfl (hb hby d2_85) rfl (l' := #[.val (.long j0), .second, .val (.long j2), .second, .val (.long j4), .second, .val (.long j6), .second, .val (.long j8), .second, .val (.long j10), .second, .val (.long j12), .second, .val (.long ((j6 * j12) + (j8 * j10))), .second, .val (.long (((j6 * j12) + (j8 * j10)) <<< ((32 : Int32) &&& 0x3f).toInt64)), .second, .val (.long (j8 * j12)), .second, .unset, .unset]) rfl ?_
      show Steps p.tables e below (T0.setTop (mkF m 87 #[.val (.long j0), .second, .val (.long j2), .second, .val (.long j4), .second, .val (.long j6), .second, .val (.long j8), .second, .val (.long j10), .second, .val (.long j12), .second, .val (.long ((j6 * j12) + (j8 * j10))), .second, .val (.long (((j6 * j12) + (j8 * j10)) <<< ((32 : Int32) &&& 0x3f).toInt64)), .second, .val (.long (j8 * j12)), .second, .unset, .unset] [])) _
      refine XS.lload X0.here hx rfl (hb hby d2_87) rfl ?_
      show Steps p.tables e below (T0.setTop (mkF m 89 #[.val (.long j0), .second, .val (.long j2), .second, .val (.long j4), .second, .val (.long j6), .second, .val (.long j8), .second, .val (.long j10), .second, .val (.long j12), .second, .val (.long ((j6 * j12) + (j8 * j10))), .second, .val (.long (((j6 * j12) + (j8 * j10)) <<< ((32 : Int32) &&& 0x3f).toInt64)), .second, .val (.long (j8 * j12)), .second, .unset, .unset] [(.long (j8 * j12))])) _
      refine XS.lconst X0.here hx rfl (hb hby d2_89) ?_
      show Steps p.tables e below (T0.setTop (mkF m 90 #[.val (.long j0), .second, .val (.long j2), .second, .val (.long j4), .second, .val (.long j6), .second, .val (.long j8), .second, .val (.long j10), .second, .val (.long j12), .second, .val (.long ((j6 * j12) + (j8 * j10))), .second, .val (.long (((j6 * j12) + (j8 * j10)) <<< ((32 : Int32) &&& 0x3f).toInt64)), .second, .val (.long (j8 * j12)), .second, .unset, .unset] [(.long (0 : Int64)), (.long (j8 * j12))])) _
      refine XS.lcmp X0.here hx rfl (hb hby d2_90) rfl ?_
      exact kt
    by_cases hc91 : (j8 * j12) < (0 : Int64)
    · refine ⟨T0, X0, e0, fun fs hr => ?_⟩
      have hv : (own_f2_48 j0 j2 j4 j6 j8 j10 j12) = j4 := by unfold own_f2_48; rw [if_pos hc67, if_pos hc91]
      rw [hv] at hr
      refine pre2 _ ?_
      show Steps p.tables e below (T0.setTop (mkF m 91 #[.val (.long j0), .second, .val (.long j2), .second, .val (.long j4), .second, .val (.long j6), .second, .val (.long j8), .second, .val (.long j10), .second, .val (.long j12), .second, .val (.long ((j6 * j12) + (j8 * j10))), .second, .val (.long (((j6 * j12) + (j8 * j10)) <<< ((32 : Int32) &&& 0x3f).toInt64)), .second, .val (.long (j8 * j12)), .second, .unset, .unset] [(.int (lcmpW (j8 * j12) (0 : Int64)))])) _
      refine XS.ifNo X0.here hx rfl (hb hby d2_91) rfl ((if0 _ _).trans (tlt ((lw_lt _ _).mpr hc91)).2.1) ?_
      show Steps p.tables e below (T0.setTop (mkF m 94 #[.val (.long j0), .second, .val (.long j2), .second, .val (.long j4), .second, .val (.long j6), .second, .val (.long j8), .second, .val (.long j10), .second, .val (.long j12), .second, .val (.long ((j6 * j12) + (j8 * j10))), .second, .val (.long (((j6 * j12) + (j8 * j10)) <<< ((32 : Int32) &&& 0x3f).toInt64)), .second, .val (.long (j8 * j12)), .second, .unset, .unset] [])) _
      refine XS.lload X0.here hx rfl (hb hby d2_94) rfl ?_
      show Steps p.tables e below (T0.setTop (mkF m 96 #[.val (.long j0), .second, .val (.long j2), .second, .val (.long j4), .second, .val (.long j6), .second, .val (.long j8), .second, .val (.long j10), .second, .val (.long j12), .second, .val (.long ((j6 * j12) + (j8 * j10))), .second, .val (.long (((j6 * j12) + (j8 * j10)) <<< ((32 : Int32) &&& 0x3f).toInt64)), .second, .val (.long (j8 * j12)), .second, .unset, .unset] [(.long j4)])) _
      exact X0.lreturnOut hx hret (hb hby d2_96) hr
    · have pre3 : ∀ target, Steps p.tables e below (T0.setTop (mkF m 108 #[.val (.long j0), .second, .val (.long j2), .second, .val (.long j4), .second, .val (.long j6), .second, .val (.long j8), .second, .val (.long j10), .second, .val (.long j12), .second, .val (.long ((j6 * j12) + (j8 * j10))), .second, .val (.long (((j6 * j12) + (j8 * j10)) <<< ((32 : Int32) &&& 0x3f).toInt64)), .second, .val (.long (j8 * j12)), .second, .val (.long ((((j6 * j12) + (j8 * j10)) <<< ((32 : Int32) &&& 0x3f).toInt64) + (j8 * j12))), .second] [(.int (lcmpW ((((j6 * j12) + (j8 * j10)) <<< ((32 : Int32) &&& 0x3f).toInt64) + (j8 * j12)) (0 : Int64)))])) target → Steps p.tables e below (T0.setTop (mkF m 48 #[.val (.long j0), .second, .val (.long j2), .second, .val (.long j4), .second, .val (.long j6), .second, .val (.long j8), .second, .val (.long j10), .second, .val (.long j12), .second, .unset, .unset, .unset, .unset, .unset, .unset, .unset, .unset] [])) target := by
        intro target kt
        refine pre2 target ?_
        show Steps p.tables e below (T0.setTop (mkF m 91 #[.val (.long j0), .second, .val (.long j2), .second, .val (.long j4), .second, .val (.long j6), .second, .val (.long j8), .second, .val (.long j10), .second, .val (.long j12), .second, .val (.long ((j6 * j12) + (j8 * j10))), .second, .val (.long (((j6 * j12) + (j8 * j10)) <<< ((32 : Int32) &&& 0x3f).toInt64)), .second, .val (.long (j8 * j12)), .second, .unset, .unset] [(.int (lcmpW (j8 * j12) (0 : Int64)))])) _
        refine XS.ifYes X0.here hx rfl (pc0 := 91) (pc' := 97) rfl (hb hby d2_91) rfl ((if0 _ _).trans (flt (mt (lw_lt _ _).mp hc91)).2.1) (by decide) (by decide) ?_
        show Steps p.tables e below (T0.setTop (mkF m 97 #[.val (.long j0), .second, .val (.long j2), .second, .val (.long j4), .second, .val (.long j6), .second, .val (.long j8), .second, .val (.long j10), .second, .val (.long j12), .second, .val (.long ((j6 * j12) + (j8 * j10))), .second, .val (.long (((j6 * j12) + (j8 * j10)) <<< ((32 : Int32) &&& 0x3f).toInt64)), .second, .val (.long (j8 * j12)), .second, .unset, .unset] [])) _
        refine XS.lload X0.here hx rfl (hb hby d2_97) rfl ?_
        show Steps p.tables e below (T0.setTop (mkF m 99 #[.val (.long j0), .second, .val (.long j2), .second, .val (.long j4), .second, .val (.long j6), .second, .val (.long j8), .second, .val (.long j10), .second, .val (.long j12), .second, .val (.long ((j6 * j12) + (j8 * j10))), .second, .val (.long (((j6 * j12) + (j8 * j10)) <<< ((32 : Int32) &&& 0x3f).toInt64)), .second, .val (.long (j8 * j12)), .second, .unset, .unset] [(.long (((j6 * j12) + (j8 * j10)) <<< ((32 : Int32) &&& 0x3f).toInt64))])) _
        refine XS.lload X0.here hx rfl (hb hby d2_99) rfl ?_
        show Steps p.tables e below (T0.setTop (mkF m 101 #[.val (.long j0), .second, .val (.long j2), .second, .val (.long j4), .second, .val (.long j6), .second, .val (.long j8), .second, .val (.long j10), .second, .val (.long j12), .second, .val (.long ((j6 * j12) + (j8 * j10))), .second, .val (.long (((j6 * j12) + (j8 * j10)) <<< ((32 : Int32) &&& 0x3f).toInt64)), .second, .val (.long (j8 * j12)), .second, .unset, .unset] [(.long (j8 * j12)), (.long (((j6 * j12) + (j8 * j10)) <<< ((32 : Int32) &&& 0x3f).toInt64))])) _
        refine XS.ladd X0.here hx rfl (hb hby d2_101) rfl ?_
        show Steps p.tables e below (T0.setTop (mkF m 102 #[.val (.long j0), .second, .val (.long j2), .second, .val (.long j4), .second, .val (.long j6), .second, .val (.long j8), .second, .val (.long j10), .second, .val (.long j12), .second, .val (.long ((j6 * j12) + (j8 * j10))), .second, .val (.long (((j6 * j12) + (j8 * j10)) <<< ((32 : Int32) &&& 0x3f).toInt64)), .second, .val (.long (j8 * j12)), .second, .unset, .unset] [(.long ((((j6 * j12) + (j8 * j10)) <<< ((32 : Int32) &&& 0x3f).toInt64) + (j8 * j12)))])) _
        refine XS.lstore X0.here hx rfl (hb hby d2_102) rfl (l' := #[.val (.long j0), .second, .val (.long j2), .second, .val (.long j4), .second, .val (.long j6), .second, .val (.long j8), .second, .val (.long j10), .second, .val (.long j12), .second, .val (.long ((j6 * j12) + (j8 * j10))), .second, .val (.long (((j6 * j12) + (j8 * j10)) <<< ((32 : Int32) &&& 0x3f).toInt64)), .second, .val (.long (j8 * j12)), .second, .val (.long ((((j6 * j12) + (j8 * j10)) <<< ((32 : Int32) &&& 0x3f).toInt64) + (j8 * j12))), .second]) rfl ?_
        show Steps p.tables e below (T0.setTop (mkF m 104 #[.val (.long j0), .second, .val (.long j2), .second, .val (.long j4), .second, .val (.long j6), .second, .val (.long j8), .second, .val (.long j10), .second, .val (.long j12), .second, .val (.long ((j6 * j12) + (j8 * j10))), .second, .val (.long (((j6 * j12) + (j8 * j10)) <<< ((32 : Int32) &&& 0x3f).toInt64)), .second, .val (.long (j8 * j12)), .second, .val (.long ((((j6 * j12) + (j8 * j10)) <<< ((32 : Int32) &&& 0x3f).toInt64) + (j8 * j12))), .second] [])) _
        refine XS.lload X0.here hx rfl (hb hby d2_104) rfl ?_
        show Steps p.tables e below (T0.setTop (mkF m 106 #[.val (.long j0), .second, .val (.long j2), .second, .val (.long j4), .second, .val (.long j6), .second, .val (.long j8), .second, .val (.long j10), .second, .val (.long j12), .second, .val (.long ((j6 * j12) + (j8 * j10))), .second, .val (.long (((j6 * j12) + (j8 * j10)) <<< ((32 : Int32) &&& 0x3f).toInt64)), .second, .val (.long (j8 * j12)), .second, .val (.long ((((j6 * j12) + (j8 * j10)) <<< ((32 : Int32) &&& 0x3f).toInt64) + (j8 * j12))), .second] [(.long ((((j6 * j12) + (j8 * j10)) <<< ((32 : Int32) &&& 0x3f).toInt64) + (j8 * j12)))])) _
        refine XS.lconst X0.here hx rfl (hb hby d2_106) ?_
        show Steps p.tables e below (T0.setTop (mkF m 107 #[.val (.long j0), .second, .val (.long j2), .second, .val (.long j4), .second, .val (.long j6), .second, .val (.long j8), .second, .val (.long j10), .second, .val (.long j12), .second, .val (.long ((j6 * j12) + (j8 * j10))), .second, .val (.long (((j6 * j12) + (j8 * j10)) <<< ((32 : Int32) &&& 0x3f).toInt64)), .second, .val (.long (j8 * j12)), .second, .val (.long ((((j6 * j12) + (j8 * j10)) <<< ((32 : Int32) &&& 0x3f).toInt64) + (j8 * j12))), .second] [(.long (0 : Int64)), (.long ((((j6 * j12) + (j8 * j10)) <<< ((32 : Int32) &&& 0x3f).toInt64) + (j8 * j12)))])) _
        refine XS.lcmp X0.here hx rfl (hb hby d2_107) rfl ?_
        exact kt
      by_cases hc108 : ((((j6 * j12) + (j8 * j10)) <<< ((32 : Int32) &&& 0x3f).toInt64) + (j8 * j12)) < (0 : Int64)
      · refine ⟨T0, X0, e0, fun fs hr => ?_⟩
        have hv : (own_f2_48 j0 j2 j4 j6 j8 j10 j12) = j4 := by unfold own_f2_48; rw [if_pos hc67, if_neg hc91, if_pos hc108]
        rw [hv] at hr
        refine pre3 _ ?_
        show Steps p.tables e below (T0.setTop (mkF m 108 #[.val (.long j0), .second, .val (.long j2), .second, .val (.long j4), .second, .val (.long j6), .second, .val (.long j8), .second, .val (.long j10), .second, .val (.long j12), .second, .val (.long ((j6 * j12) + (j8 * j10))), .second, .val (.long (((j6 * j12) + (j8 * j10)) <<< ((32 : Int32) &&& 0x3f).toInt64)), .second, .val (.long (j8 * j12)), .second, .val (.long ((((j6 * j12) + (j8 * j10)) <<< ((32 : Int32) &&& 0x3f).toInt64) + (j8 * j12))), .second] [(.int (lcmpW ((((j6 * j12) + (j8 * j10)) <<< ((32 : Int32) &&& 0x3f).toInt64) + (j8 * j12)) (0 : Int64)))])) _
        refine XS.ifNo X0.here hx rfl (hb hby d2_108) rfl ((if0 _ _).trans (tlt ((lw_lt _ _).mpr hc108)).2.1) ?_
        show Steps p.tables e below (T0.setTop (mkF m 111 #[.val (.long j0), .second, .val (.long j2), .second, .val (.long j4), .second, .val (.long j6), .second, .val (.long j8), .second, .val (.long j10), .second, .val (.long j12), .second, .val (.long ((j6 * j12) + (j8 * j10))), .second, .val (.long (((j6 * j12) + (j8 * j10)) <<< ((32 : Int32) &&& 0x3f).toInt64)), .second, .val (.long (j8 * j12)), .second, .val (.long ((((j6 * j12) + (j8 * j10)) <<< ((32 : Int32) &&& 0x3f).toInt64) + (j8 * j12))), .second] [])) _
        refine XS.lload X0.here hx rfl (hb hby d2_111) rfl ?_
        show Steps p.tables e below (T0.setTop (mkF m 113 #[.val (.long j0), .second, .val (.long j2), .second, .val (.long j4), .second, .val (.long j6), .second, .val (.long j8), .second, .val (.long j10), .second, .val (.long j12), .second, .val (.long ((j6 * j12) + (j8 * j10))), .second, .val (.long (((j6 * j12) + (j8 * j10)) <<< ((32 : Int32) &&& 0x3f).toInt64)), .second, .val (.long (j8 * j12)), .second, .val (.long ((((j6 * j12) + (j8 * j10)) <<< ((32 : Int32) &&& 0x3f).toInt64) + (j8 * j12))), .second] [(.long j4)])) _
        exact X0.lreturnOut hx hret (hb hby d2_113) hr
      · refine ⟨T0, X0, e0, fun fs hr => ?_⟩
        have hv : (own_f2_48 j0 j2 j4 j6 j8 j10 j12) = ((((j6 * j12) + (j8 * j10)) <<< ((32 : Int32) &&& 0x3f).toInt64) + (j8 * j12)) := by unfold own_f2_48; rw [if_pos hc67, if_neg hc91, if_neg hc108]
        rw [hv] at hr
        refine pre3 _ ?_
        show Steps p.tables e below (T0.setTop (mkF m 108 #[.val (.long j0), .second, .val (.long j2), .second, .val (.long j4), .second, .val (.long j6), .second, .val (.long j8), .second, .val (.long j10), .second, .val (.long j12), .second, .val (.long ((j6 * j12) + (j8 * j10))), .second, .val (.long (((j6 * j12) + (j8 * j10)) <<< ((32 : Int32) &&& 0x3f).toInt64)), .second, .val (.long (j8 * j12)), .second, .val (.long ((((j6 * j12) + (j8 * j10)) <<< ((32 : Int32) &&& 0x3f).toInt64) + (j8 * j12))), .second] [(.int (lcmpW ((((j6 * j12) + (j8 * j10)) <<< ((32 : Int32) &&& 0x3f).toInt64) + (j8 * j12)) (0 : Int64)))])) _
        refine XS.ifYes X0.here hx rfl (pc0 := 108) (pc' := 114) rfl (hb hby d2_108) rfl ((if0 _ _).trans (flt (mt (lw_lt _ _).mp hc108)).2.1) (by decide) (by decide) ?_
        show Steps p.tables e below (T0.setTop (mkF m 114 #[.val (.long j0), .second, .val (.long j2), .second, .val (.long j4), .second, .val (.long j6), .second, .val (.long j8), .second, .val (.long j10), .second, .val (.long j12), .second, .val (.long ((j6 * j12) + (j8 * j10))), .second, .val (.long (((j6 * j12) + (j8 * j10)) <<< ((32 : Int32) &&& 0x3f).toInt64)), .second, .val (.long (j8 * j12)), .second, .val (.long ((((j6 * j12) + (j8 * j10)) <<< ((32 : Int32) &&& 0x3f).toInt64) + (j8 * j12))), .second] [])) _
        refine XS.lload X0.here hx rfl (hb hby d2_114) rfl ?_
        show Steps p.tables e below (T0.setTop (mkF m 116 #[.val (.long j0), .second, .val (.long j2), .second, .val (.long j4), .second, .val (.long j6), .second, .val (.long j8), .second, .val (.long j10), .second, .val (.long j12), .second, .val (.long ((j6 * j12) + (j8 * j10))), .second, .val (.long (((j6 * j12) + (j8 * j10)) <<< ((32 : Int32) &&& 0x3f).toInt64)), .second, .val (.long (j8 * j12)), .second, .val (.long ((((j6 * j12) + (j8 * j10)) <<< ((32 : Int32) &&& 0x3f).toInt64) + (j8 * j12))), .second] [(.long ((((j6 * j12) + (j8 * j10)) <<< ((32 : Int32) &&& 0x3f).toInt64) + (j8 * j12)))])) _
        exact X0.lreturnOut hx hret (hb hby d2_116) hr
  · refine ⟨T0, X0, e0, fun fs hr => ?_⟩
    have hv : (own_f2_48 j0 j2 j4 j6 j8 j10 j12) = j4 := by unfold own_f2_48; rw [if_neg hc67]
    rw [hv] at hr
    refine pre1 _ ?_
    show Steps p.tables e below (T0.setTop (mkF m 67 #[.val (.long j0), .second, .val (.long j2), .second, .val (.long j4), .second, .val (.long j6), .second, .val (.long j8), .second, .val (.long j10), .second, .val (.long j12), .second, .val (.long ((j6 * j12) + (j8 * j10))), .second, .unset, .unset, .unset, .unset, .unset, .unset] [(.int (lcmpW ((j6 * j12) + (j8 * j10)) (2147483648 : Int64)))])) _
    refine XS.ifNo X0.here hx rfl (hb hby d2_67) rfl ((if0 _ _).trans (flt (mt (lw_lt _ _).mp hc67)).1) ?_
    show Steps p.tables e below (T0.setTop (mkF m 70 #[.val (.long j0), .second, .val (.long j2), .second, .val (.long j4), .second, .val (.long j6), .second, .val (.long j8), .second, .val (.long j10), .second, .val (.long j12), .second, .val (.long ((j6 * j12) + (j8 * j10))), .second, .unset, .unset, .unset, .unset, .unset, .unset] [])) _
    refine XS.lload X0.here hx rfl (hb hby d2_70) rfl ?_
    show Steps p.tables e below (T0.setTop (mkF m 72 #[.val (.long j0), .second, .val (.long j2), .second, .val (.long j4), .second, .val (.long j6), .second, .val (.long j8), .second, .val (.long j10), .second, .val (.long j12), .second, .val (.long ((j6 * j12) + (j8 * j10))), .second, .unset, .unset, .unset, .unset, .unset, .unset] [(.long j4)])) _
    exact X0.lreturnOut hx hret (hb hby d2_72) hr
set_option maxRecDepth 65536 in
set_option maxHeartbeats 40000000 in
theorem own_b2_0 {p : Program} {l : Launch} {e : Env} {s : State} {m : MethodId} {args : Array Value} {below : List Frame} {meth : Method} {c : Code} {Z : State} {a0_ : Array Value} (hx : p.tables.exec = Jvm.exec) (hZ : Z.Warmed39 s.vm) (hw : ∀ d ∈ tables_1, d.before a0_ Z = true) (hby : c.code = method_2_code) (hml : c.maxLocals = 22) (hown : s.vm.findClass "com/example/refill/refill/core/TokensProductPinLaw" = some m.cls) (hret : meth.sig.returnType = some .long) {T0 : State} {locs : List Loc} {cells slots : Nat} {h0 : Heap} (j0 : Int64) (j2 : Int64)
    (X0 : Stand p l e ({ frames := 0, cells := 0, slots := 0, locals := 0 } : Room) s m args below meth c T0 locs cells slots) (e0 : T0.heap = h0) (hcl : cells ≤ ({ frames := 0, cells := 0, slots := 0, locals := 0 } : Room).cells) (hsl : slots ≤ ({ frames := 0, cells := 0, slots := 0, locals := 0 } : Room).slots)  :
    ∃ T', Stand p l e ({ frames := 0, cells := 0, slots := 0, locals := 0 } : Room) s m args below meth c T' locs cells slots ∧ T'.heap = h0 ∧ ∀ fs, (∀ (f : JFrame) (acts : List Action), f.method = m → f.locked = none → f.entered = [] → (doReturn e (T'.setTop f) acts (some (.long (own_f2_0 j0 j2)))).1 = T'.setFrames fs) → Steps p.tables e below (T0.setTop (mkF m 0 #[.val (.long j0), .second, .val (.long j2), .second, .unset, .unset, .unset, .unset, .unset, .unset, .unset, .unset, .unset, .unset, .unset, .unset, .unset, .unset, .unset, .unset, .unset, .unset] [])) (T'.setFrames fs) := by
  have pre1 : ∀ target, Steps p.tables e below (T0.setTop (mkF m 35 #[.val (.long j0), .second, .val (.long j2), .second, .val (.long (9223372036854775807 : Int64)), .second, .val (.long ((j0.toUInt64 >>> ((32 : Int32) &&& 0x3f).toInt64.toUInt64).toInt64)), .second, .val (.long (j0 &&& (4294967295 : Int64))), .second, .val (.long ((j2.toUInt64 >>> ((32 : Int32) &&& 0x3f).toInt64.toUInt64).toInt64)), .second, .val (.long (j2 &&& (4294967295 : Int64))), .second, .unset, .unset, .unset, .unset, .unset, .unset, .unset, .unset] [(.int (lcmpW ((j0.toUInt64 >>> ((32 : Int32) &&& 0x3f).toInt64.toUInt64).toInt64) (0 : Int64)))])) target → Steps p.tables e below (T0.setTop (mkF m 0 #[.val (.long j0), .second, .val (.long j2), .second, .unset, .unset, .unset, .unset, .unset, .unset, .unset, .unset, .unset, .unset, .unset, .unset, .unset, .unset, .unset, .unset, .unset, .unset] [])) target := by
    intro target kt
    show Steps p.tables e below (T0.setTop (mkF m 0 #[.val (.long j0), .second, .val (.long j2), .second, .unset, .unset, .unset, .unset, .unset, .unset, .unset, .unset, .unset, .unset, .unset, .unset, .unset, .unset, .unset, .unset, .unset, .unset] [])) _
    refine X0.ldc2Long hx hown (mvT hZ (hw _ (List.mem_of_getElem? (i := 0) rfl))) (g := (mkF m 0 #[.val (.long j0), .second, .val (.long j2), .second, .unset, .unset, .unset, .unset, .unset, .unset, .unset, .unset, .unset, .unset, .unset, .unset, .unset, .unset, .unset, .unset, .unset, .unset] [])) rfl (hb hby d2_0) _ ?_
    show Steps p.tables e below (T0.setTop (mkF m 3 #[.val (.long j0), .second, .val (.long j2), .second, .unset, .unset, .unset, .unset, .unset, .unset, .unset, .unset, .unset, .unset, .unset, .unset, .unset, .unset, .unset, .unset, .unset, .unset] [(.long (9223372036854775807 : Int64))])) _
    refine XS.lstore X0.here hx rfl (hb hby d2_3) rfl (l' := #[.val (.long j0), .second, .val (.long j2), .second, .val (.long (9223372036854775807 : Int64)), .second, .unset, .unset, .unset, .unset, .unset, .unset, .unset, .unset, .unset, .unset, .unset, .unset, .unset, .unset, .unset, .unset]) rfl ?_
    show Steps p.tables e below (T0.setTop (mkF m 5 #[.val (.long j0), .second, .val (.long j2), .second, .val (.long (9223372036854775807 : Int64)), .second, .unset, .unset, .unset, .unset, .unset, .unset, .unset, .unset, .unset, .unset, .unset, .unset, .unset, .unset, .unset, .unset] [])) _
    refine XS.lloadN X0.here hx rfl (hb hby d2_5) rfl ?_
    show Steps p.tables e below (T0.setTop (mkF m 6 #[.val (.long j0), .second, .val (.long j2), .second, .val (.long (9223372036854775807 : Int64)), .second, .unset, .unset, .unset, .unset, .unset, .unset, .unset, .unset, .unset, .unset, .unset, .unset, .unset, .unset, .unset, .unset] [(.long j0)])) _
    refine XS.bipush X0.here hx rfl (hb hby d2_6) ?_
    show Steps p.tables e below (T0.setTop (mkF m 8 #[.val (.long j0), .second, .val (.long j2), .second, .val (.long (9223372036854775807 : Int64)), .second, .unset, .unset, .unset, .unset, .unset, .unset, .unset, .unset, .unset, .unset, .unset, .unset, .unset, .unset, .unset, .unset] [(.int (32 : Int32)), (.long j0)])) _
    refine XS.lushr X0.here hx rfl (hb hby d2_8) rfl ?_
    show Steps p.tables e below (T0.setTop (mkF m 9 #[.val (.long j0), .second, .val (.long j2), .second, .val (.long (9223372036854775807 : Int64)), .second, .unset, .unset, .unset, .unset, .unset, .unset, .unset, .unset, .unset, .unset, .unset, .unset, .unset, .unset, .unset, .unset] [(.long ((j0.toUInt64 >>> ((32 : Int32) &&& 0x3f).toInt64.toUInt64).toInt64))])) _
    refine XS.lstore X0.here hx rfl (hb hby d2_9) rfl (l' := #[.val (.long j0), .second, .val (.long j2), .second, .val (.long (9223372036854775807 : Int64)), .second, .val (.long ((j0.toUInt64 >>> ((32 : Int32) &&& 0x3f).toInt64.toUInt64).toInt64)), .second, .unset, .unset, .unset, .unset, .unset, .unset, .unset, .unset, .unset, .unset, .unset, .unset, .unset, .unset]) rfl ?_
    show Steps p.tables e below (T0.setTop (mkF m 11 #[.val (.long j0), .second, .val (.long j2), .second, .val (.long (9223372036854775807 : Int64)), .second, .val (.long ((j0.toUInt64 >>> ((32 : Int32) &&& 0x3f).toInt64.toUInt64).toInt64)), .second, .unset, .unset, .unset, .unset, .unset, .unset, .unset, .unset, .unset, .unset, .unset, .unset, .unset, .unset] [])) _
    refine XS.lloadN X0.here hx rfl (hb hby d2_11) rfl ?_
    show Steps p.tables e below (T0.setTop (mkF m 12 #[.val (.long j0), .second, .val (.long j2), .second, .val (.long (9223372036854775807 : Int64)), .second, .val (.long ((j0.toUInt64 >>> ((32 : Int32) &&& 0x3f).toInt64.toUInt64).toInt64)), .second, .unset, .unset, .unset, .unset, .unset, .unset, .unset, .unset, .unset, .unset, .unset, .unset, .unset, .unset] [(.long j0)])) _
    refine X0.ldc2Long hx hown (mvT hZ (hw _ (List.mem_of_getElem? (i := 10) rfl))) (g := (mkF m 12 #[.val (.long j0), .second, .val (.long j2), .second, .val (.long (9223372036854775807 : Int64)), .second, .val (.long ((j0.toUInt64 >>> ((32 : Int32) &&& 0x3f).toInt64.toUInt64).toInt64)), .second, .unset, .unset, .unset, .unset, .unset, .unset, .unset, .unset, .unset, .unset, .unset, .unset, .unset, .unset] [(.long j0)])) rfl (hb hby d2_12) _ ?_
    show Steps p.tables e below (T0.setTop (mkF m 15 #[.val (.long j0), .second, .val (.long j2), .second, .val (.long (9223372036854775807 : Int64)), .second, .val (.long ((j0.toUInt64 >>> ((32 : Int32) &&& 0x3f).toInt64.toUInt64).toInt64)), .second, .unset, .unset, .unset, .unset, .unset, .unset, .unset, .unset, .unset, .unset, .unset, .unset, .unset, .unset] [(.long (4294967295 : Int64)), (.long j0)])) _
    refine XS.land X0.here hx rfl (hb hby d2_15) rfl ?_
    show Steps p.tables e below (T0.setTop (mkF m 16 #[.val (.long j0), .second, .val (.long j2), .second, .val (.long (9223372036854775807 : Int64)), .second, .val (.long ((j0.toUInt64 >>> ((32 : Int32) &&& 0x3f).toInt64.toUInt64).toInt64)), .second, .unset, .unset, .unset, .unset, .unset, .unset, .unset, .unset, .unset, .unset, .unset, .unset, .unset, .unset] [(.long (j0 &&& (4294967295 : Int64)))])) _
    refine XS.lstore X0.here hx rfl (hb hby d2_16) rfl (l' := #[.val (.long j0), .second, .val (.long j2), .second, .val (.long (9223372036854775807 : Int64)), .second, .val (.long ((j0.toUInt64 >>> ((32 : Int32) &&& 0x3f).toInt64.toUInt64).toInt64)), .second, .val (.long (j0 &&& (4294967295 : Int64))), .second, .unset, .unset, .unset, .unset, .unset, .unset, .unset, .unset, .unset, .unset, .unset, .unset]) rfl ?_
    show Steps p.tables e below (T0.setTop (mkF m 18 #[.val (.long j0), .second, .val (.long j2), .second, .val (.long (9223372036854775807 : Int64)), .second, .val (.long ((j0.toUInt64 >>> ((32 : Int32) &&& 0x3f).toInt64.toUInt64).toInt64)), .second, .val (.long (j0 &&& (4294967295 : Int64))), .second, .unset, .unset, .unset, .unset, .unset, .unset, .unset, .unset, .unset, .unset, .unset, .unset] [])) _
    refine XS.lloadN X0.here hx rfl (hb hby d2_18) rfl ?_
    show Steps p.tables e below (T0.setTop (mkF m 19 #[.val (.long j0), .second, .val (.long j2), .second, .val (.long (9223372036854775807 : Int64)), .second, .val (.long ((j0.toUInt64 >>> ((32 : Int32) &&& 0x3f).toInt64.toUInt64).toInt64)), .second, .val (.long (j0 &&& (4294967295 : Int64))), .second, .unset, .unset, .unset, .unset, .unset, .unset, .unset, .unset, .unset, .unset, .unset, .unset] [(.long j2)])) _
    refine XS.bipush X0.here hx rfl (hb hby d2_19) ?_
    show Steps p.tables e below (T0.setTop (mkF m 21 #[.val (.long j0), .second, .val (.long j2), .second, .val (.long (9223372036854775807 : Int64)), .second, .val (.long ((j0.toUInt64 >>> ((32 : Int32) &&& 0x3f).toInt64.toUInt64).toInt64)), .second, .val (.long (j0 &&& (4294967295 : Int64))), .second, .unset, .unset, .unset, .unset, .unset, .unset, .unset, .unset, .unset, .unset, .unset, .unset] [(.int (32 : Int32)), (.long j2)])) _
    refine XS.lushr X0.here hx rfl (hb hby d2_21) rfl ?_
    show Steps p.tables e below (T0.setTop (mkF m 22 #[.val (.long j0), .second, .val (.long j2), .second, .val (.long (9223372036854775807 : Int64)), .second, .val (.long ((j0.toUInt64 >>> ((32 : Int32) &&& 0x3f).toInt64.toUInt64).toInt64)), .second, .val (.long (j0 &&& (4294967295 : Int64))), .second, .unset, .unset, .unset, .unset, .unset, .unset, .unset, .unset, .unset, .unset, .unset, .unset] [(.long ((j2.toUInt64 >>> ((32 : Int32) &&& 0x3f).toInt64.toUInt64).toInt64))])) _
    refine XS.lstore X0.here hx rfl (hb hby d2_22) rfl (l' := #[.val (.long j0), .second, .val (.long j2), .second, .val (.long (9223372036854775807 : Int64)), .second, .val (.long ((j0.toUInt64 >>> ((32 : Int32) &&& 0x3f).toInt64.toUInt64).toInt64)), .second, .val (.long (j0 &&& (4294967295 : Int64))), .second, .val (.long ((j2.toUInt64 >>> ((32 : Int32) &&& 0x3f).toInt64.toUInt64).toInt64)), .second, .unset, .unset, .unset, .unset, .unset, .unset, .unset, .unset, .unset, .unset]) rfl ?_
    show Steps p.tables e below (T0.setTop (mkF m 24 #[.val (.long j0), .second, .val (.long j2), .second, .val (.long (9223372036854775807 : Int64)), .second, .val (.long ((j0.toUInt64 >>> ((32 : Int32) &&& 0x3f).toInt64.toUInt64).toInt64)), .second, .val (.long (j0 &&& (4294967295 : Int64))), .second, .val (.long ((j2.toUInt64 >>> ((32 : Int32) &&& 0x3f).toInt64.toUInt64).toInt64)), .second, .unset, .unset, .unset, .unset, .unset, .unset, .unset, .unset, .unset, .unset] [])) _
    refine XS.lloadN X0.here hx rfl (hb hby d2_24) rfl ?_
    show Steps p.tables e below (T0.setTop (mkF m 25 #[.val (.long j0), .second, .val (.long j2), .second, .val (.long (9223372036854775807 : Int64)), .second, .val (.long ((j0.toUInt64 >>> ((32 : Int32) &&& 0x3f).toInt64.toUInt64).toInt64)), .second, .val (.long (j0 &&& (4294967295 : Int64))), .second, .val (.long ((j2.toUInt64 >>> ((32 : Int32) &&& 0x3f).toInt64.toUInt64).toInt64)), .second, .unset, .unset, .unset, .unset, .unset, .unset, .unset, .unset, .unset, .unset] [(.long j2)])) _
    refine X0.ldc2Long hx hown (mvT hZ (hw _ (List.mem_of_getElem? (i := 10) rfl))) (g := (mkF m 25 #[.val (.long j0), .second, .val (.long j2), .second, .val (.long (9223372036854775807 : Int64)), .second, .val (.long ((j0.toUInt64 >>> ((32 : Int32) &&& 0x3f).toInt64.toUInt64).toInt64)), .second, .val (.long (j0 &&& (4294967295 : Int64))), .second, .val (.long ((j2.toUInt64 >>> ((32 : Int32) &&& 0x3f).toInt64.toUInt64).toInt64)), .second, .unset, .unset, .unset, .unset, .unset, .unset, .unset, .unset, .unset, .unset] [(.long j2)])) rfl (hb hby d2_25) _ ?_
    show Steps p.tables e below (T0.setTop (mkF m 28 #[.val (.long j0), .second, .val (.long j2), .second, .val (.long (9223372036854775807 : Int64)), .second, .val (.long ((j0.toUInt64 >>> ((32 : Int32) &&& 0x3f).toInt64.toUInt64).toInt64)), .second, .val (.long (j0 &&& (4294967295 : Int64))), .second, .val (.long ((j2.toUInt64 >>> ((32 : Int32) &&& 0x3f).toInt64.toUInt64).toInt64)), .second, .unset, .unset, .unset, .unset, .unset, .unset, .unset, .unset, .unset, .unset] [(.long (4294967295 : Int64)), (.long j2)])) _
    refine XS.land X0.here hx rfl (hb hby d2_28) rfl ?_
    show Steps p.tables e below (T0.setTop (mkF m 29 #[.val (.long j0), .second, .val (.long j2), .second, .val (.long (9223372036854775807 : Int64)), .second, .val (.long ((j0.toUInt64 >>> ((32 : Int32) &&& 0x3f).toInt64.toUInt64).toInt64)), .second, .val (.long (j0 &&& (4294967295 : Int64))), .second, .val (.long ((j2.toUInt64 >>> ((32 : Int32) &&& 0x3f).toInt64.toUInt64).toInt64)), .second, .unset, .unset, .unset, .unset, .unset, .unset, .unset, .unset, .unset, .unset] [(.long (j2 &&& (4294967295 : Int64)))])) _
    refine XS.lstore X0.here hx rfl (hb hby d2_29) rfl (l' := #[.val (.long j0), .second, .val (.long j2), .second, .val (.long (9223372036854775807 : Int64)), .second, .val (.long ((j0.toUInt64 >>> ((32 : Int32) &&& 0x3f).toInt64.toUInt64).toInt64)), .second, .val (.long (j0 &&& (4294967295 : Int64))), .second, .val (.long ((j2.toUInt64 >>> ((32 : Int32) &&& 0x3f).toInt64.toUInt64).toInt64)), .second, .val (.long (j2 &&& (4294967295 : Int64))), .second, .unset, .unset, .unset, .unset, .unset, .unset, .unset, .unset]) rfl ?_
    show Steps p.tables e below (T0.setTop (mkF m 31 #[.val (.long j0), .second, .val (.long j2), .second, .val (.long (9223372036854775807 : Int64)), .second, .val (.long ((j0.toUInt64 >>> ((32 : Int32) &&& 0x3f).toInt64.toUInt64).toInt64)), .second, .val (.long (j0 &&& (4294967295 : Int64))), .second, .val (.long ((j2.toUInt64 >>> ((32 : Int32) &&& 0x3f).toInt64.toUInt64).toInt64)), .second, .val (.long (j2 &&& (4294967295 : Int64))), .second, .unset, .unset, .unset, .unset, .unset, .unset, .unset, .unset] [])) _
    refine XS.lload X0.here hx rfl (hb hby d2_31) rfl ?_
    show Steps p.tables e below (T0.setTop (mkF m 33 #[.val (.long j0), .second, .val (.long j2), .second, .val (.long (9223372036854775807 : Int64)), .second, .val (.long ((j0.toUInt64 >>> ((32 : Int32) &&& 0x3f).toInt64.toUInt64).toInt64)), .second, .val (.long (j0 &&& (4294967295 : Int64))), .second, .val (.long ((j2.toUInt64 >>> ((32 : Int32) &&& 0x3f).toInt64.toUInt64).toInt64)), .second, .val (.long (j2 &&& (4294967295 : Int64))), .second, .unset, .unset, .unset, .unset, .unset, .unset, .unset, .unset] [(.long ((j0.toUInt64 >>> ((32 : Int32) &&& 0x3f).toInt64.toUInt64).toInt64))])) _
    refine XS.lconst X0.here hx rfl (hb hby d2_33) ?_
    show Steps p.tables e below (T0.setTop (mkF m 34 #[.val (.long j0), .second, .val (.long j2), .second, .val (.long (9223372036854775807 : Int64)), .second, .val (.long ((j0.toUInt64 >>> ((32 : Int32) &&& 0x3f).toInt64.toUInt64).toInt64)), .second, .val (.long (j0 &&& (4294967295 : Int64))), .second, .val (.long ((j2.toUInt64 >>> ((32 : Int32) &&& 0x3f).toInt64.toUInt64).toInt64)), .second, .val (.long (j2 &&& (4294967295 : Int64))), .second, .unset, .unset, .unset, .unset, .unset, .unset, .unset, .unset] [(.long (0 : Int64)), (.long ((j0.toUInt64 >>> ((32 : Int32) &&& 0x3f).toInt64.toUInt64).toInt64))])) _
    refine XS.lcmp X0.here hx rfl (hb hby d2_34) rfl ?_
    exact kt
  by_cases hc35 : ((j0.toUInt64 >>> ((32 : Int32) &&& 0x3f).toInt64.toUInt64).toInt64) = (0 : Int64)
  · have pre2 : ∀ target, Steps p.tables e below (T0.setTop (mkF m 48 #[.val (.long j0), .second, .val (.long j2), .second, .val (.long (9223372036854775807 : Int64)), .second, .val (.long ((j0.toUInt64 >>> ((32 : Int32) &&& 0x3f).toInt64.toUInt64).toInt64)), .second, .val (.long (j0 &&& (4294967295 : Int64))), .second, .val (.long ((j2.toUInt64 >>> ((32 : Int32) &&& 0x3f).toInt64.toUInt64).toInt64)), .second, .val (.long (j2 &&& (4294967295 : Int64))), .second, .unset, .unset, .unset, .unset, .unset, .unset, .unset, .unset] [])) target → Steps p.tables e below (T0.setTop (mkF m 0 #[.val (.long j0), .second, .val (.long j2), .second, .unset, .unset, .unset, .unset, .unset, .unset, .unset, .unset, .unset, .unset, .unset, .unset, .unset, .unset, .unset, .unset, .unset, .unset] [])) target := by
      intro target kt
      refine pre1 target ?_
      show Steps p.tables e below (T0.setTop (mkF m 35 #[.val (.long j0), .second, .val (.long j2), .second, .val (.long (9223372036854775807 : Int64)), .second, .val (.long ((j0.toUInt64 >>> ((32 : Int32) &&& 0x3f).toInt64.toUInt64).toInt64)), .second, .val (.long (j0 &&& (4294967295 : Int64))), .second, .val (.long ((j2.toUInt64 >>> ((32 : Int32) &&& 0x3f).toInt64.toUInt64).toInt64)), .second, .val (.long (j2 &&& (4294967295 : Int64))), .second, .unset, .unset, .unset, .unset, .unset, .unset, .unset, .unset] [(.int (lcmpW ((j0.toUInt64 >>> ((32 : Int32) &&& 0x3f).toInt64.toUInt64).toInt64) (0 : Int64)))])) _
      refine XS.ifYes X0.here hx rfl (pc0 := 35) (pc' := 48) rfl (hb hby d2_35) rfl ((if0 _ _).trans (teq ((lw_eq _ _).mpr hc35)).1) (by decide) (by decide) ?_
      exact kt
    obtain ⟨T3, X3, e3, st3⟩ := own_b2_48 hx hZ hw hby hml hown hret j0 j2 (9223372036854775807 : Int64) ((j0.toUInt64 >>> ((32 : Int32) &&& 0x3f).toInt64.toUInt64).toInt64) (j0 &&& (4294967295 : Int64)) ((j2.toUInt64 >>> ((32 : Int32) &&& 0x3f).toInt64.toUInt64).toInt64) (j2 &&& (4294967295 : Int64))  X0 e0 hcl hsl  
    have hv : (own_f2_0 j0 j2) = (own_f2_48 j0 j2 (9223372036854775807 : Int64) ((j0.toUInt64 >>> ((32 : Int32) &&& 0x3f).toInt64.toUInt64).toInt64) (j0 &&& (4294967295 : Int64)) ((j2.toUInt64 >>> ((32 : Int32) &&& 0x3f).toInt64.toUInt64).toInt64) (j2 &&& (4294967295 : Int64))) := by unfold own_f2_0; rw [if_pos hc35]
    exact ⟨T3, X3, e3, fun fs hr => pre2 _ (st3 fs (by rw [hv] at hr; exact hr))⟩
  · have pre4 : ∀ target, Steps p.tables e below (T0.setTop (mkF m 42 #[.val (.long j0), .second, .val (.long j2), .second, .val (.long (9223372036854775807 : Int64)), .second, .val (.long ((j0.toUInt64 >>> ((32 : Int32) &&& 0x3f).toInt64.toUInt64).toInt64)), .second, .val (.long (j0 &&& (4294967295 : Int64))), .second, .val (.long ((j2.toUInt64 >>> ((32 : Int32) &&& 0x3f).toInt64.toUInt64).toInt64)), .second, .val (.long (j2 &&& (4294967295 : Int64))), .second, .unset, .unset, .unset, .unset, .unset, .unset, .unset, .unset] [(.int (lcmpW ((j2.toUInt64 >>> ((32 : Int32) &&& 0x3f).toInt64.toUInt64).toInt64) (0 : Int64)))])) target → Steps p.tables e below (T0.setTop (mkF m 0 #[.val (.long j0), .second, .val (.long j2), .second, .unset, .unset, .unset, .unset, .unset, .unset, .unset, .unset, .unset, .unset, .unset, .unset, .unset, .unset, .unset, .unset, .unset, .unset] [])) target := by
      intro target kt
      refine pre1 target ?_
      show Steps p.tables e below (T0.setTop (mkF m 35 #[.val (.long j0), .second, .val (.long j2), .second, .val (.long (9223372036854775807 : Int64)), .second, .val (.long ((j0.toUInt64 >>> ((32 : Int32) &&& 0x3f).toInt64.toUInt64).toInt64)), .second, .val (.long (j0 &&& (4294967295 : Int64))), .second, .val (.long ((j2.toUInt64 >>> ((32 : Int32) &&& 0x3f).toInt64.toUInt64).toInt64)), .second, .val (.long (j2 &&& (4294967295 : Int64))), .second, .unset, .unset, .unset, .unset, .unset, .unset, .unset, .unset] [(.int (lcmpW ((j0.toUInt64 >>> ((32 : Int32) &&& 0x3f).toInt64.toUInt64).toInt64) (0 : Int64)))])) _
      refine XS.ifNo X0.here hx rfl (hb hby d2_35) rfl ((if0 _ _).trans (feq (mt (lw_eq _ _).mp hc35)).1) ?_
      show Steps p.tables e below (T0.setTop (mkF m 38 #[.val (.long j0), .second, .val (.long j2), .second, .val (.long (9223372036854775807 : Int64)), .second, .val (.long ((j0.toUInt64 >>> ((32 : Int32) &&& 0x3f).toInt64.toUInt64).toInt64)), .second, .val (.long (j0 &&& (4294967295 : Int64))), .second, .val (.long ((j2.toUInt64 >>> ((32 : Int32) &&& 0x3f).toInt64.toUInt64).toInt64)), .second, .val (.long (j2 &&& (4294967295 : Int64))), .second, .unset, .unset, .unset, .unset, .unset, .unset, .unset, .unset] [])) _
      refine XS.lload X0.here hx rfl (hb hby d2_38) rfl ?_
      show Steps p.tables e below (T0.setTop (mkF m 40 #[.val (.long j0), .second, .val (.long j2), .second, .val (.long (9223372036854775807 : Int64)), .second, .val (.long ((j0.toUInt64 >>> ((32 : Int32) &&& 0x3f).toInt64.toUInt64).toInt64)), .second, .val (.long (j0 &&& (4294967295 : Int64))), .second, .val (.long ((j2.toUInt64 >>> ((32 : Int32) &&& 0x3f).toInt64.toUInt64).toInt64)), .second, .val (.long (j2 &&& (4294967295 : Int64))), .second, .unset, .unset, .unset, .unset, .unset, .unset, .unset, .unset] [(.long ((j2.toUInt64 >>> ((32 : Int32) &&& 0x3f).toInt64.toUInt64).toInt64))])) _
      refine XS.lconst X0.here hx rfl (hb hby d2_40) ?_
      show Steps p.tables e below (T0.setTop (mkF m 41 #[.val (.long j0), .second, .val (.long j2), .second, .val (.long (9223372036854775807 : Int64)), .second, .val (.long ((j0.toUInt64 >>> ((32 : Int32) &&& 0x3f).toInt64.toUInt64).toInt64)), .second, .val (.long (j0 &&& (4294967295 : Int64))), .second, .val (.long ((j2.toUInt64 >>> ((32 : Int32) &&& 0x3f).toInt64.toUInt64).toInt64)), .second, .val (.long (j2 &&& (4294967295 : Int64))), .second, .unset, .unset, .unset, .unset, .unset, .unset, .unset, .unset] [(.long (0 : Int64)), (.long ((j2.toUInt64 >>> ((32 : Int32) &&& 0x3f).toInt64.toUInt64).toInt64))])) _
      refine XS.lcmp X0.here hx rfl (hb hby d2_41) rfl ?_
      exact kt
    by_cases hc42 : ((j2.toUInt64 >>> ((32 : Int32) &&& 0x3f).toInt64.toUInt64).toInt64) = (0 : Int64)
    · have pre5 : ∀ target, Steps p.tables e below (T0.setTop (mkF m 48 #[.val (.long j0), .second, .val (.long j2), .second, .val (.long (9223372036854775807 : Int64)), .second, .val (.long ((j0.toUInt64 >>> ((32 : Int32) &&& 0x3f).toInt64.toUInt64).toInt64)), .second, .val (.long (j0 &&& (4294967295 : Int64))), .second, .val (.long ((j2.toUInt64 >>> ((32 : Int32) &&& 0x3f).toInt64.toUInt64).toInt64)), .second, .val (.long (j2 &&& (4294967295 : Int64))), .second, .unset, .unset, .unset, .unset, .unset, .unset, .unset, .unset] [])) target → Steps p.tables e below (T0.setTop (mkF m 0 #[.val (.long j0), .second, .val (.long j2), .second, .unset, .unset, .unset, .unset, .unset, .unset, .unset, .unset, .unset, .unset, .unset, .unset, .unset, .unset, .unset, .unset, .unset, .unset] [])) target := by
        intro target kt
        refine pre4 target ?_
        show Steps p.tables e below (T0.setTop (mkF m 42 #[.val (.long j0), .second, .val (.long j2), .second, .val (.long (9223372036854775807 : Int64)), .second, .val (.long ((j0.toUInt64 >>> ((32 : Int32) &&& 0x3f).toInt64.toUInt64).toInt64)), .second, .val (.long (j0 &&& (4294967295 : Int64))), .second, .val (.long ((j2.toUInt64 >>> ((32 : Int32) &&& 0x3f).toInt64.toUInt64).toInt64)), .second, .val (.long (j2 &&& (4294967295 : Int64))), .second, .unset, .unset, .unset, .unset, .unset, .unset, .unset, .unset] [(.int (lcmpW ((j2.toUInt64 >>> ((32 : Int32) &&& 0x3f).toInt64.toUInt64).toInt64) (0 : Int64)))])) _
        refine XS.ifYes X0.here hx rfl (pc0 := 42) (pc' := 48) rfl (hb hby d2_42) rfl ((if0 _ _).trans (teq ((lw_eq _ _).mpr hc42)).1) (by decide) (by decide) ?_
        exact kt
      obtain ⟨T6, X6, e6, st6⟩ := own_b2_48 hx hZ hw hby hml hown hret j0 j2 (9223372036854775807 : Int64) ((j0.toUInt64 >>> ((32 : Int32) &&& 0x3f).toInt64.toUInt64).toInt64) (j0 &&& (4294967295 : Int64)) ((j2.toUInt64 >>> ((32 : Int32) &&& 0x3f).toInt64.toUInt64).toInt64) (j2 &&& (4294967295 : Int64))  X0 e0 hcl hsl  
      have hv : (own_f2_0 j0 j2) = (own_f2_48 j0 j2 (9223372036854775807 : Int64) ((j0.toUInt64 >>> ((32 : Int32) &&& 0x3f).toInt64.toUInt64).toInt64) (j0 &&& (4294967295 : Int64)) ((j2.toUInt64 >>> ((32 : Int32) &&& 0x3f).toInt64.toUInt64).toInt64) (j2 &&& (4294967295 : Int64))) := by unfold own_f2_0; rw [if_neg hc35, if_pos hc42]
      exact ⟨T6, X6, e6, fun fs hr => pre5 _ (st6 fs (by rw [hv] at hr; exact hr))⟩
    · refine ⟨T0, X0, e0, fun fs hr => ?_⟩
      have hv : (own_f2_0 j0 j2) = (9223372036854775807 : Int64) := by unfold own_f2_0; rw [if_neg hc35, if_neg hc42]
      rw [hv] at hr
      refine pre4 _ ?_
      show Steps p.tables e below (T0.setTop (mkF m 42 #[.val (.long j0), .second, .val (.long j2), .second, .val (.long (9223372036854775807 : Int64)), .second, .val (.long ((j0.toUInt64 >>> ((32 : Int32) &&& 0x3f).toInt64.toUInt64).toInt64)), .second, .val (.long (j0 &&& (4294967295 : Int64))), .second, .val (.long ((j2.toUInt64 >>> ((32 : Int32) &&& 0x3f).toInt64.toUInt64).toInt64)), .second, .val (.long (j2 &&& (4294967295 : Int64))), .second, .unset, .unset, .unset, .unset, .unset, .unset, .unset, .unset] [(.int (lcmpW ((j2.toUInt64 >>> ((32 : Int32) &&& 0x3f).toInt64.toUInt64).toInt64) (0 : Int64)))])) _
      refine XS.ifNo X0.here hx rfl (hb hby d2_42) rfl ((if0 _ _).trans (feq (mt (lw_eq _ _).mp hc42)).1) ?_
      show Steps p.tables e below (T0.setTop (mkF m 45 #[.val (.long j0), .second, .val (.long j2), .second, .val (.long (9223372036854775807 : Int64)), .second, .val (.long ((j0.toUInt64 >>> ((32 : Int32) &&& 0x3f).toInt64.toUInt64).toInt64)), .second, .val (.long (j0 &&& (4294967295 : Int64))), .second, .val (.long ((j2.toUInt64 >>> ((32 : Int32) &&& 0x3f).toInt64.toUInt64).toInt64)), .second, .val (.long (j2 &&& (4294967295 : Int64))), .second, .unset, .unset, .unset, .unset, .unset, .unset, .unset, .unset] [])) _
      refine XS.lload X0.here hx rfl (hb hby d2_45) rfl ?_
      show Steps p.tables e below (T0.setTop (mkF m 47 #[.val (.long j0), .second, .val (.long j2), .second, .val (.long (9223372036854775807 : Int64)), .second, .val (.long ((j0.toUInt64 >>> ((32 : Int32) &&& 0x3f).toInt64.toUInt64).toInt64)), .second, .val (.long (j0 &&& (4294967295 : Int64))), .second, .val (.long ((j2.toUInt64 >>> ((32 : Int32) &&& 0x3f).toInt64.toUInt64).toInt64)), .second, .val (.long (j2 &&& (4294967295 : Int64))), .second, .unset, .unset, .unset, .unset, .unset, .unset, .unset, .unset] [(.long (9223372036854775807 : Int64))])) _
      exact X0.lreturnOut hx hret (hb hby d2_47) hr
def Q2 (Z : State) (j0 : Int64) (j2 : Int64) (h0 : Heap) (n0 : Nat) (v : Option Value) (h : Heap) (L : List Loc) : Prop := v = some (.long (own_f2_0 j0 j2)) ∧ L = [] ∧ h = h0
set_option maxRecDepth 65536 in
set_option maxHeartbeats 40000000 in
theorem rm2 (l : Launch) (Z : State) (a0_ : Array Value) (hw : ∀ d ∈ tables_1, d.before a0_ Z = true) (ws : List Jvm.Cond) (j0 : Int64) (j2 : Int64) (h0 : Heap) (n0 : Nat) (Z0 : n0 ≤ h0.size)  :
    MetFree l (⟨"com/example/refill/refill/core/TokensProductPinLaw", "reference", "(JJ)J"⟩ : MethodName) (head1 (Jvm.Cond.code (⟨"com/example/refill/refill/core/TokensProductPinLaw", "reference", "(JJ)J"⟩ : MethodName) method_2_code 22 (some .long) :: ws) ({ frames := 0, cells := 0, slots := 0, locals := 0 } : Room)) (fun a U => a = #[(.long j0), (.long j2)] ∧ Z.Warmed39 U.vm ∧ U.heap = h0) (fun _ _ _ _ _ => True) (fun _ U o U' => ∃ v L, o = .returned v ∧ Q2 Z j0 j2 h0 n0 v U'.heap L ∧ FrameEnd U o U' L ({ frames := 0, cells := 0, slots := 0, locals := 0 } : Room).cells ({ frames := 0, cells := 0, slots := 0, locals := 0 } : Room).slots) := by
  refine MetFree.of_bodySF (plainFor_of_name pn_2) hisR ?_
  intro p e s m args below meth c s₁ Bd hml0 hP hK
  obtain ⟨rfl, hZ, hh⟩ := hP
  have hx := Bd.exec
  have hby := Bd.bytes
  have hml : c.maxLocals = 22 := hml0
  have hown : s.vm.findClass "com/example/refill/refill/core/TokensProductPinLaw" = some m.cls := findClass_of_methodNamed Bd.named
  have X0 : Stand p l e ({ frames := 0, cells := 0, slots := 0, locals := 0 } : Room) s m #[(.long j0), (.long j2)] below meth c s₁ [] 0 0 := Stand.of_body Bd
  have e0 : s₁.heap = h0 := by rw [← hh, Bd.state]; rfl
  obtain ⟨T', X', e', st'⟩ := own_b2_0 hx hZ hw hby hml hown Bd.returns  j0 j2 X0 e0 (by decide) (by decide) 
  obtain ⟨fs, hr, hrun, hended, hW, hsame⟩ := X'.leave (v := some (.long (own_f2_0 j0 j2))) (fun h => by rw [Bd.returns] at h; cases h)
  refine ⟨_, _, castTop (ef_2 m j0 j2) (st' fs hr), hrun, hended, _, _, rfl, ?_, ⟨_, rfl⟩, hW, hsame.mono (by decide) (by decide)⟩
  exact ⟨rfl, rfl, e'⟩
theorem pn_0 : plainName "com/example/refill/refill/core/TokensProductPinLaw" = true := by first | (simp [plainName, overriddenIn]; done) | decide +kernel
theorem pd_0_0 : parseMethodDescriptor "(JJ)J" = some ⟨[.long, .long], some .long⟩ := by decide +kernel
theorem ef_0 (m : MethodId) (j0 : Int64) (j2 : Int64) (i4 : Int32) : entryFrame m #[(.long j0), (.long j2), (.int i4)] maxLocals = mkF m 0 #[.val (.long j0), .second, .val (.long j2), .second, .val (.int i4), .unset, .unset, .unset, .unset, .unset, .unset] [] := by first | (simp [entryFrame, mkF, argsToLocals, Value.category, maxLocals]; done) | rfl
def own_f0_0 (j0 : Int64) (j2 : Int64) (i4 : Int32) : Int32 :=
  (if (own_f1_0 (((j0 &&& (9223372036854775807 : Int64)).toUInt64 >>> ((i4 &&& (63 : Int32)) &&& 0x3f).toInt64.toUInt64).toInt64) (((j2 &&& (9223372036854775807 : Int64)).toUInt64 >>> ((((i4.toUInt32 >>> ((6 : Int32) &&& 31).toUInt32).toInt32) &&& (63 : Int32)) &&& 0x3f).toInt64.toUInt64).toInt64)) = (own_f2_0 (((j0 &&& (9223372036854775807 : Int64)).toUInt64 >>> ((i4 &&& (63 : Int32)) &&& 0x3f).toInt64.toUInt64).toInt64) (((j2 &&& (9223372036854775807 : Int64)).toUInt64 >>> ((((i4.toUInt32 >>> ((6 : Int32) &&& 31).toUInt32).toInt32) &&& (63 : Int32)) &&& 0x3f).toInt64.toUInt64).toInt64)) then (1 : Int32) else (0 : Int32))
set_option maxRecDepth 65536 in
set_option maxHeartbeats 40000000 in
theorem own_b0_0 {p : Program} {l : Launch} {e : Env} {s : State} {m : MethodId} {args : Array Value} {below : List Frame} {meth : Method} {c : Code} {Z : State} {a0_ : Array Value} (hx : p.tables.exec = Jvm.exec) (hZ : Z.Warmed39 s.vm) (hw : ∀ d ∈ tables_1, d.before a0_ Z = true) (hby : c.code = code) (hml : c.maxLocals = 11) (hown : s.vm.findClass "com/example/refill/refill/core/TokensProductPinLaw" = some m.cls) (hret : meth.sig.returnType = some .boolean) {T0 : State} {locs : List Loc} {cells slots : Nat} {h0 : Heap} (j0 : Int64) (j2 : Int64) (i4 : Int32)
    (X0 : Stand p l e room_1 s m args below meth c T0 locs cells slots) (e0 : T0.heap = h0) (hcl : cells ≤ room_1.cells) (hsl : slots ≤ room_1.slots)  :
    ∃ T', Stand p l e room_1 s m args below meth c T' locs cells slots ∧ T'.heap = h0 ∧ ∀ fs, (∀ (f : JFrame) (acts : List Action), f.method = m → f.locked = none → f.entered = [] → (doReturn e (T'.setTop f) acts (some (.int (own_f0_0 j0 j2 i4)))).1 = T'.setFrames fs) → Steps p.tables e below (T0.setTop (mkF m 0 #[.val (.long j0), .second, .val (.long j2), .second, .val (.int i4), .unset, .unset, .unset, .unset, .unset, .unset] [])) (T'.setFrames fs) := by
  obtain ⟨_, _, ⟨T1, L1, k1, n1⟩, -, X1, ⟨Lc1, hQ1, l1, y1, z1⟩, st1⟩ := Jvm.LawKit.callS X0 hx (y := (⟨"com/example/refill/refill/core/Tokens", "product", "(JJ)J"⟩ : MethodName)) hown (mvT hZ (hw _ (List.mem_of_getElem? (i := 1) rfl))) (mvT hZ (hw _ (List.mem_of_getElem? (i := 2) rfl))) (mvT hZ (hw _ (List.mem_of_getElem? (i := 3) rfl))) (mvT hZ (hw _ (List.mem_of_getElem? (i := 4) rfl))) (by decide) (backOf (W := 0) (rm1 l Z a0_ hw [] (((j0 &&& (9223372036854775807 : Int64)).toUInt64 >>> ((i4 &&& (63 : Int32)) &&& 0x3f).toInt64.toUInt64).toInt64) (((j2 &&& (9223372036854775807 : Int64)).toUInt64 >>> ((((i4.toUInt32 >>> ((6 : Int32) &&& 31).toUInt32).toInt32) &&& (63 : Int32)) &&& 0x3f).toInt64.toUInt64).toInt64)  h0 0 (Nat.zero_le _) ) hZ (hw _ (List.mem_of_getElem? (i := 4) rfl)) (hw _ (List.mem_of_getElem? (i := 3) rfl)) (by decide) (by decide)) (g := (mkF m 33 #[.val (.long j0), .second, .val (.long j2), .second, .val (.int i4), .val (.long (((j0 &&& (9223372036854775807 : Int64)).toUInt64 >>> ((i4 &&& (63 : Int32)) &&& 0x3f).toInt64.toUInt64).toInt64)), .second, .val (.long (((j2 &&& (9223372036854775807 : Int64)).toUInt64 >>> ((((i4.toUInt32 >>> ((6 : Int32) &&& 31).toUInt32).toInt32) &&& (63 : Int32)) &&& 0x3f).toInt64.toUInt64).toInt64)), .second, .unset, .unset] [(.long (((j2 &&& (9223372036854775807 : Int64)).toUInt64 >>> ((((i4.toUInt32 >>> ((6 : Int32) &&& 31).toUInt32).toInt32) &&& (63 : Int32)) &&& 0x3f).toInt64.toUInt64).toInt64)), (.long (((j0 &&& (9223372036854775807 : Int64)).toUInt64 >>> ((i4 &&& (63 : Int32)) &&& 0x3f).toInt64.toUInt64).toInt64))])) rfl (by rw [hml]; rfl) (argsL := [(.long (((j0 &&& (9223372036854775807 : Int64)).toUInt64 >>> ((i4 &&& (63 : Int32)) &&& 0x3f).toInt64.toUInt64).toInt64)), (.long (((j2 &&& (9223372036854775807 : Int64)).toUInt64 >>> ((((i4.toUInt32 >>> ((6 : Int32) &&& 31).toUInt32).toInt32) &&& (63 : Int32)) &&& 0x3f).toInt64.toUInt64).toInt64))]) (rest := []) (lenOf pd_0_0 rfl) rfl (by show 2 * 0 + _ ≤ _; exact Nat.le_of_eq rfl) (hb hby at_33) (fun _ _ => ⟨rfl, e0, hcl, hsl⟩)
  dsimp only [Pt.U, Pt.locs, Pt.cells, Pt.slots] at X1 l1 y1 z1 st1 hQ1
  subst l1 y1 z1
  obtain ⟨rfl, rfl, e1⟩ := hQ1
  rw [List.append_nil] at X1
  obtain ⟨_, _, ⟨T2, L2, k2, n2⟩, -, X2, ⟨Lc2, hQ2, l2, y2, z2⟩, st2⟩ := Jvm.LawKit.callS X1 hx (y := (⟨"com/example/refill/refill/core/TokensProductPinLaw", "reference", "(JJ)J"⟩ : MethodName)) hown (mvT hZ (hw _ (List.mem_of_getElem? (i := 6) rfl))) (mvT hZ (hw _ (List.mem_of_getElem? (i := 7) rfl))) (mvT hZ (hw _ (List.mem_of_getElem? (i := 8) rfl))) (mvT hZ (hw _ (List.mem_of_getElem? (i := 9) rfl))) (by decide) (backOf (W := 2) (rm2 l Z a0_ hw [] (((j0 &&& (9223372036854775807 : Int64)).toUInt64 >>> ((i4 &&& (63 : Int32)) &&& 0x3f).toInt64.toUInt64).toInt64) (((j2 &&& (9223372036854775807 : Int64)).toUInt64 >>> ((((i4.toUInt32 >>> ((6 : Int32) &&& 31).toUInt32).toInt32) &&& (63 : Int32)) &&& 0x3f).toInt64.toUInt64).toInt64)  h0 0 (Nat.zero_le _) ) hZ (hw _ (List.mem_of_getElem? (i := 9) rfl)) (hw _ (List.mem_of_getElem? (i := 8) rfl)) (by decide) (by decide)) (g := (mkF m 44 #[.val (.long j0), .second, .val (.long j2), .second, .val (.int i4), .val (.long (((j0 &&& (9223372036854775807 : Int64)).toUInt64 >>> ((i4 &&& (63 : Int32)) &&& 0x3f).toInt64.toUInt64).toInt64)), .second, .val (.long (((j2 &&& (9223372036854775807 : Int64)).toUInt64 >>> ((((i4.toUInt32 >>> ((6 : Int32) &&& 31).toUInt32).toInt32) &&& (63 : Int32)) &&& 0x3f).toInt64.toUInt64).toInt64)), .second, .val (.long (own_f1_0 (((j0 &&& (9223372036854775807 : Int64)).toUInt64 >>> ((i4 &&& (63 : Int32)) &&& 0x3f).toInt64.toUInt64).toInt64) (((j2 &&& (9223372036854775807 : Int64)).toUInt64 >>> ((((i4.toUInt32 >>> ((6 : Int32) &&& 31).toUInt32).toInt32) &&& (63 : Int32)) &&& 0x3f).toInt64.toUInt64).toInt64))), .second] [(.long (((j2 &&& (9223372036854775807 : Int64)).toUInt64 >>> ((((i4.toUInt32 >>> ((6 : Int32) &&& 31).toUInt32).toInt32) &&& (63 : Int32)) &&& 0x3f).toInt64.toUInt64).toInt64)), (.long (((j0 &&& (9223372036854775807 : Int64)).toUInt64 >>> ((i4 &&& (63 : Int32)) &&& 0x3f).toInt64.toUInt64).toInt64)), (.long (own_f1_0 (((j0 &&& (9223372036854775807 : Int64)).toUInt64 >>> ((i4 &&& (63 : Int32)) &&& 0x3f).toInt64.toUInt64).toInt64) (((j2 &&& (9223372036854775807 : Int64)).toUInt64 >>> ((((i4.toUInt32 >>> ((6 : Int32) &&& 31).toUInt32).toInt32) &&& (63 : Int32)) &&& 0x3f).toInt64.toUInt64).toInt64)))])) rfl (by rw [hml]; rfl) (argsL := [(.long (((j0 &&& (9223372036854775807 : Int64)).toUInt64 >>> ((i4 &&& (63 : Int32)) &&& 0x3f).toInt64.toUInt64).toInt64)), (.long (((j2 &&& (9223372036854775807 : Int64)).toUInt64 >>> ((((i4.toUInt32 >>> ((6 : Int32) &&& 31).toUInt32).toInt32) &&& (63 : Int32)) &&& 0x3f).toInt64.toUInt64).toInt64))]) (rest := [(.long (own_f1_0 (((j0 &&& (9223372036854775807 : Int64)).toUInt64 >>> ((i4 &&& (63 : Int32)) &&& 0x3f).toInt64.toUInt64).toInt64) (((j2 &&& (9223372036854775807 : Int64)).toUInt64 >>> ((((i4.toUInt32 >>> ((6 : Int32) &&& 31).toUInt32).toInt32) &&& (63 : Int32)) &&& 0x3f).toInt64.toUInt64).toInt64)))]) (lenOf pd_0_0 rfl) rfl (by show 2 * 0 + _ ≤ _; exact Nat.le_of_eq rfl) (hb hby at_44) (fun _ _ => ⟨rfl, e1, hcl, hsl⟩)
  dsimp only [Pt.U, Pt.locs, Pt.cells, Pt.slots] at X2 l2 y2 z2 st2 hQ2
  subst l2 y2 z2
  obtain ⟨rfl, rfl, e2⟩ := hQ2
  rw [List.append_nil] at X2
  have pre3 : ∀ target, Steps p.tables e below (T2.setTop (mkF m 48 #[.val (.long j0), .second, .val (.long j2), .second, .val (.int i4), .val (.long (((j0 &&& (9223372036854775807 : Int64)).toUInt64 >>> ((i4 &&& (63 : Int32)) &&& 0x3f).toInt64.toUInt64).toInt64)), .second, .val (.long (((j2 &&& (9223372036854775807 : Int64)).toUInt64 >>> ((((i4.toUInt32 >>> ((6 : Int32) &&& 31).toUInt32).toInt32) &&& (63 : Int32)) &&& 0x3f).toInt64.toUInt64).toInt64)), .second, .val (.long (own_f1_0 (((j0 &&& (9223372036854775807 : Int64)).toUInt64 >>> ((i4 &&& (63 : Int32)) &&& 0x3f).toInt64.toUInt64).toInt64) (((j2 &&& (9223372036854775807 : Int64)).toUInt64 >>> ((((i4.toUInt32 >>> ((6 : Int32) &&& 31).toUInt32).toInt32) &&& (63 : Int32)) &&& 0x3f).toInt64.toUInt64).toInt64))), .second] [(.int (lcmpW (own_f1_0 (((j0 &&& (9223372036854775807 : Int64)).toUInt64 >>> ((i4 &&& (63 : Int32)) &&& 0x3f).toInt64.toUInt64).toInt64) (((j2 &&& (9223372036854775807 : Int64)).toUInt64 >>> ((((i4.toUInt32 >>> ((6 : Int32) &&& 31).toUInt32).toInt32) &&& (63 : Int32)) &&& 0x3f).toInt64.toUInt64).toInt64)) (own_f2_0 (((j0 &&& (9223372036854775807 : Int64)).toUInt64 >>> ((i4 &&& (63 : Int32)) &&& 0x3f).toInt64.toUInt64).toInt64) (((j2 &&& (9223372036854775807 : Int64)).toUInt64 >>> ((((i4.toUInt32 >>> ((6 : Int32) &&& 31).toUInt32).toInt32) &&& (63 : Int32)) &&& 0x3f).toInt64.toUInt64).toInt64))))])) target → Steps p.tables e below (T0.setTop (mkF m 0 #[.val (.long j0), .second, .val (.long j2), .second, .val (.int i4), .unset, .unset, .unset, .unset, .unset, .unset] [])) target := by
    intro target kt
    show Steps p.tables e below (T0.setTop (mkF m 0 #[.val (.long j0), .second, .val (.long j2), .second, .val (.int i4), .unset, .unset, .unset, .unset, .unset, .unset] [])) _
    refine XS.lloadN X0.here hx rfl (hb hby at_0) rfl ?_
    show Steps p.tables e below (T0.setTop (mkF m 1 #[.val (.long j0), .second, .val (.long j2), .second, .val (.int i4), .unset, .unset, .unset, .unset, .unset, .unset] [(.long j0)])) _
    refine X0.ldc2Long hx hown (mvT hZ (hw _ (List.mem_of_getElem? (i := 0) rfl))) (g := (mkF m 1 #[.val (.long j0), .second, .val (.long j2), .second, .val (.int i4), .unset, .unset, .unset, .unset, .unset, .unset] [(.long j0)])) rfl (hb hby at_1) _ ?_
    show Steps p.tables e below (T0.setTop (mkF m 4 #[.val (.long j0), .second, .val (.long j2), .second, .val (.int i4), .unset, .unset, .unset, .unset, .unset, .unset] [(.long (9223372036854775807 : Int64)), (.long j0)])) _
    refine XS.land X0.here hx rfl (hb hby at_4) rfl ?_
    show Steps p.tables e below (T0.setTop (mkF m 5 #[.val (.long j0), .second, .val (.long j2), .second, .val (.int i4), .unset, .unset, .unset, .unset, .unset, .unset] [(.long (j0 &&& (9223372036854775807 : Int64)))])) _
    refine XS.iload X0.here hx rfl (hb hby at_5) rfl ?_
    show Steps p.tables e below (T0.setTop (mkF m 7 #[.val (.long j0), .second, .val (.long j2), .second, .val (.int i4), .unset, .unset, .unset, .unset, .unset, .unset] [(.int i4), (.long (j0 &&& (9223372036854775807 : Int64)))])) _
    refine XS.bipush X0.here hx rfl (hb hby at_7) ?_
    show Steps p.tables e below (T0.setTop (mkF m 9 #[.val (.long j0), .second, .val (.long j2), .second, .val (.int i4), .unset, .unset, .unset, .unset, .unset, .unset] [(.int (63 : Int32)), (.int i4), (.long (j0 &&& (9223372036854775807 : Int64)))])) _
    refine XS.iand X0.here hx rfl (hb hby at_9) rfl ?_
    show Steps p.tables e below (T0.setTop (mkF m 10 #[.val (.long j0), .second, .val (.long j2), .second, .val (.int i4), .unset, .unset, .unset, .unset, .unset, .unset] [(.int (i4 &&& (63 : Int32))), (.long (j0 &&& (9223372036854775807 : Int64)))])) _
    refine XS.lushr X0.here hx rfl (hb hby at_10) rfl ?_
    show Steps p.tables e below (T0.setTop (mkF m 11 #[.val (.long j0), .second, .val (.long j2), .second, .val (.int i4), .unset, .unset, .unset, .unset, .unset, .unset] [(.long (((j0 &&& (9223372036854775807 : Int64)).toUInt64 >>> ((i4 &&& (63 : Int32)) &&& 0x3f).toInt64.toUInt64).toInt64))])) _
    refine XS.lstore X0.here hx rfl (hb hby at_11) rfl (l' := #[.val (.long j0), .second, .val (.long j2), .second, .val (.int i4), .val (.long (((j0 &&& (9223372036854775807 : Int64)).toUInt64 >>> ((i4 &&& (63 : Int32)) &&& 0x3f).toInt64.toUInt64).toInt64)), .second, .unset, .unset, .unset, .unset]) rfl ?_
    show Steps p.tables e below (T0.setTop (mkF m 13 #[.val (.long j0), .second, .val (.long j2), .second, .val (.int i4), .val (.long (((j0 &&& (9223372036854775807 : Int64)).toUInt64 >>> ((i4 &&& (63 : Int32)) &&& 0x3f).toInt64.toUInt64).toInt64)), .second, .unset, .unset, .unset, .unset] [])) _
    refine XS.lloadN X0.here hx rfl (hb hby at_13) rfl ?_
    show Steps p.tables e below (T0.setTop (mkF m 14 #[.val (.long j0), .second, .val (.long j2), .second, .val (.int i4), .val (.long (((j0 &&& (9223372036854775807 : Int64)).toUInt64 >>> ((i4 &&& (63 : Int32)) &&& 0x3f).toInt64.toUInt64).toInt64)), .second, .unset, .unset, .unset, .unset] [(.long j2)])) _
    refine X0.ldc2Long hx hown (mvT hZ (hw _ (List.mem_of_getElem? (i := 0) rfl))) (g := (mkF m 14 #[.val (.long j0), .second, .val (.long j2), .second, .val (.int i4), .val (.long (((j0 &&& (9223372036854775807 : Int64)).toUInt64 >>> ((i4 &&& (63 : Int32)) &&& 0x3f).toInt64.toUInt64).toInt64)), .second, .unset, .unset, .unset, .unset] [(.long j2)])) rfl (hb hby at_14) _ ?_
    show Steps p.tables e below (T0.setTop (mkF m 17 #[.val (.long j0), .second, .val (.long j2), .second, .val (.int i4), .val (.long (((j0 &&& (9223372036854775807 : Int64)).toUInt64 >>> ((i4 &&& (63 : Int32)) &&& 0x3f).toInt64.toUInt64).toInt64)), .second, .unset, .unset, .unset, .unset] [(.long (9223372036854775807 : Int64)), (.long j2)])) _
    refine XS.land X0.here hx rfl (hb hby at_17) rfl ?_
    show Steps p.tables e below (T0.setTop (mkF m 18 #[.val (.long j0), .second, .val (.long j2), .second, .val (.int i4), .val (.long (((j0 &&& (9223372036854775807 : Int64)).toUInt64 >>> ((i4 &&& (63 : Int32)) &&& 0x3f).toInt64.toUInt64).toInt64)), .second, .unset, .unset, .unset, .unset] [(.long (j2 &&& (9223372036854775807 : Int64)))])) _
    refine XS.iload X0.here hx rfl (hb hby at_18) rfl ?_
    show Steps p.tables e below (T0.setTop (mkF m 20 #[.val (.long j0), .second, .val (.long j2), .second, .val (.int i4), .val (.long (((j0 &&& (9223372036854775807 : Int64)).toUInt64 >>> ((i4 &&& (63 : Int32)) &&& 0x3f).toInt64.toUInt64).toInt64)), .second, .unset, .unset, .unset, .unset] [(.int i4), (.long (j2 &&& (9223372036854775807 : Int64)))])) _
    refine XS.bipush X0.here hx rfl (hb hby at_20) ?_
    show Steps p.tables e below (T0.setTop (mkF m 22 #[.val (.long j0), .second, .val (.long j2), .second, .val (.int i4), .val (.long (((j0 &&& (9223372036854775807 : Int64)).toUInt64 >>> ((i4 &&& (63 : Int32)) &&& 0x3f).toInt64.toUInt64).toInt64)), .second, .unset, .unset, .unset, .unset] [(.int (6 : Int32)), (.int i4), (.long (j2 &&& (9223372036854775807 : Int64)))])) _
    refine XS.iushr X0.here hx rfl (hb hby at_22) rfl ?_
    show Steps p.tables e below (T0.setTop (mkF m 23 #[.val (.long j0), .second, .val (.long j2), .second, .val (.int i4), .val (.long (((j0 &&& (9223372036854775807 : Int64)).toUInt64 >>> ((i4 &&& (63 : Int32)) &&& 0x3f).toInt64.toUInt64).toInt64)), .second, .unset, .unset, .unset, .unset] [(.int ((i4.toUInt32 >>> ((6 : Int32) &&& 31).toUInt32).toInt32)), (.long (j2 &&& (9223372036854775807 : Int64)))])) _
    refine XS.bipush X0.here hx rfl (hb hby at_23) ?_
    show Steps p.tables e below (T0.setTop (mkF m 25 #[.val (.long j0), .second, .val (.long j2), .second, .val (.int i4), .val (.long (((j0 &&& (9223372036854775807 : Int64)).toUInt64 >>> ((i4 &&& (63 : Int32)) &&& 0x3f).toInt64.toUInt64).toInt64)), .second, .unset, .unset, .unset, .unset] [(.int (63 : Int32)), (.int ((i4.toUInt32 >>> ((6 : Int32) &&& 31).toUInt32).toInt32)), (.long (j2 &&& (9223372036854775807 : Int64)))])) _
    refine XS.iand X0.here hx rfl (hb hby at_25) rfl ?_
    show Steps p.tables e below (T0.setTop (mkF m 26 #[.val (.long j0), .second, .val (.long j2), .second, .val (.int i4), .val (.long (((j0 &&& (9223372036854775807 : Int64)).toUInt64 >>> ((i4 &&& (63 : Int32)) &&& 0x3f).toInt64.toUInt64).toInt64)), .second, .unset, .unset, .unset, .unset] [(.int (((i4.toUInt32 >>> ((6 : Int32) &&& 31).toUInt32).toInt32) &&& (63 : Int32))), (.long (j2 &&& (9223372036854775807 : Int64)))])) _
    refine XS.lushr X0.here hx rfl (hb hby at_26) rfl ?_
    show Steps p.tables e below (T0.setTop (mkF m 27 #[.val (.long j0), .second, .val (.long j2), .second, .val (.int i4), .val (.long (((j0 &&& (9223372036854775807 : Int64)).toUInt64 >>> ((i4 &&& (63 : Int32)) &&& 0x3f).toInt64.toUInt64).toInt64)), .second, .unset, .unset, .unset, .unset] [(.long (((j2 &&& (9223372036854775807 : Int64)).toUInt64 >>> ((((i4.toUInt32 >>> ((6 : Int32) &&& 31).toUInt32).toInt32) &&& (63 : Int32)) &&& 0x3f).toInt64.toUInt64).toInt64))])) _
    refine XS.lstore X0.here hx rfl (hb hby at_27) rfl (l' := #[.val (.long j0), .second, .val (.long j2), .second, .val (.int i4), .val (.long (((j0 &&& (9223372036854775807 : Int64)).toUInt64 >>> ((i4 &&& (63 : Int32)) &&& 0x3f).toInt64.toUInt64).toInt64)), .second, .val (.long (((j2 &&& (9223372036854775807 : Int64)).toUInt64 >>> ((((i4.toUInt32 >>> ((6 : Int32) &&& 31).toUInt32).toInt32) &&& (63 : Int32)) &&& 0x3f).toInt64.toUInt64).toInt64)), .second, .unset, .unset]) rfl ?_
    show Steps p.tables e below (T0.setTop (mkF m 29 #[.val (.long j0), .second, .val (.long j2), .second, .val (.int i4), .val (.long (((j0 &&& (9223372036854775807 : Int64)).toUInt64 >>> ((i4 &&& (63 : Int32)) &&& 0x3f).toInt64.toUInt64).toInt64)), .second, .val (.long (((j2 &&& (9223372036854775807 : Int64)).toUInt64 >>> ((((i4.toUInt32 >>> ((6 : Int32) &&& 31).toUInt32).toInt32) &&& (63 : Int32)) &&& 0x3f).toInt64.toUInt64).toInt64)), .second, .unset, .unset] [])) _
    refine XS.lload X0.here hx rfl (hb hby at_29) rfl ?_
    show Steps p.tables e below (T0.setTop (mkF m 31 #[.val (.long j0), .second, .val (.long j2), .second, .val (.int i4), .val (.long (((j0 &&& (9223372036854775807 : Int64)).toUInt64 >>> ((i4 &&& (63 : Int32)) &&& 0x3f).toInt64.toUInt64).toInt64)), .second, .val (.long (((j2 &&& (9223372036854775807 : Int64)).toUInt64 >>> ((((i4.toUInt32 >>> ((6 : Int32) &&& 31).toUInt32).toInt32) &&& (63 : Int32)) &&& 0x3f).toInt64.toUInt64).toInt64)), .second, .unset, .unset] [(.long (((j0 &&& (9223372036854775807 : Int64)).toUInt64 >>> ((i4 &&& (63 : Int32)) &&& 0x3f).toInt64.toUInt64).toInt64))])) _
    refine XS.lload X0.here hx rfl (hb hby at_31) rfl ?_
    show Steps p.tables e below (T0.setTop (mkF m 33 #[.val (.long j0), .second, .val (.long j2), .second, .val (.int i4), .val (.long (((j0 &&& (9223372036854775807 : Int64)).toUInt64 >>> ((i4 &&& (63 : Int32)) &&& 0x3f).toInt64.toUInt64).toInt64)), .second, .val (.long (((j2 &&& (9223372036854775807 : Int64)).toUInt64 >>> ((((i4.toUInt32 >>> ((6 : Int32) &&& 31).toUInt32).toInt32) &&& (63 : Int32)) &&& 0x3f).toInt64.toUInt64).toInt64)), .second, .unset, .unset] [(.long (((j2 &&& (9223372036854775807 : Int64)).toUInt64 >>> ((((i4.toUInt32 >>> ((6 : Int32) &&& 31).toUInt32).toInt32) &&& (63 : Int32)) &&& 0x3f).toInt64.toUInt64).toInt64)), (.long (((j0 &&& (9223372036854775807 : Int64)).toUInt64 >>> ((i4 &&& (63 : Int32)) &&& 0x3f).toInt64.toUInt64).toInt64))])) _
    refine st1 _ ?_
    show Steps p.tables e below (T1.setTop (mkF m 36 #[.val (.long j0), .second, .val (.long j2), .second, .val (.int i4), .val (.long (((j0 &&& (9223372036854775807 : Int64)).toUInt64 >>> ((i4 &&& (63 : Int32)) &&& 0x3f).toInt64.toUInt64).toInt64)), .second, .val (.long (((j2 &&& (9223372036854775807 : Int64)).toUInt64 >>> ((((i4.toUInt32 >>> ((6 : Int32) &&& 31).toUInt32).toInt32) &&& (63 : Int32)) &&& 0x3f).toInt64.toUInt64).toInt64)), .second, .unset, .unset] [(.long (own_f1_0 (((j0 &&& (9223372036854775807 : Int64)).toUInt64 >>> ((i4 &&& (63 : Int32)) &&& 0x3f).toInt64.toUInt64).toInt64) (((j2 &&& (9223372036854775807 : Int64)).toUInt64 >>> ((((i4.toUInt32 >>> ((6 : Int32) &&& 31).toUInt32).toInt32) &&& (63 : Int32)) &&& 0x3f).toInt64.toUInt64).toInt64)))])) _
    refine XS.lstore X1.here hx rfl (hb hby at_36) rfl (l' := #[.val (.long j0), .second, .val (.long j2), .second, .val (.int i4), .val (.long (((j0 &&& (9223372036854775807 : Int64)).toUInt64 >>> ((i4 &&& (63 : Int32)) &&& 0x3f).toInt64.toUInt64).toInt64)), .second, .val (.long (((j2 &&& (9223372036854775807 : Int64)).toUInt64 >>> ((((i4.toUInt32 >>> ((6 : Int32) &&& 31).toUInt32).toInt32) &&& (63 : Int32)) &&& 0x3f).toInt64.toUInt64).toInt64)), .second, .val (.long (own_f1_0 (((j0 &&& (9223372036854775807 : Int64)).toUInt64 >>> ((i4 &&& (63 : Int32)) &&& 0x3f).toInt64.toUInt64).toInt64) (((j2 &&& (9223372036854775807 : Int64)).toUInt64 >>> ((((i4.toUInt32 >>> ((6 : Int32) &&& 31).toUInt32).toInt32) &&& (63 : Int32)) &&& 0x3f).toInt64.toUInt64).toInt64))), .second]) rfl ?_
    show Steps p.tables e below (T1.setTop (mkF m 38 #[.val (.long j0), .second, .val (.long j2), .second, .val (.int i4), .val (.long (((j0 &&& (9223372036854775807 : Int64)).toUInt64 >>> ((i4 &&& (63 : Int32)) &&& 0x3f).toInt64.toUInt64).toInt64)), .second, .val (.long (((j2 &&& (9223372036854775807 : Int64)).toUInt64 >>> ((((i4.toUInt32 >>> ((6 : Int32) &&& 31).toUInt32).toInt32) &&& (63 : Int32)) &&& 0x3f).toInt64.toUInt64).toInt64)), .second, .val (.long (own_f1_0 (((j0 &&& (9223372036854775807 : Int64)).toUInt64 >>> ((i4 &&& (63 : Int32)) &&& 0x3f).toInt64.toUInt64).toInt64) (((j2 &&& (9223372036854775807 : Int64)).toUInt64 >>> ((((i4.toUInt32 >>> ((6 : Int32) &&& 31).toUInt32).toInt32) &&& (63 : Int32)) &&& 0x3f).toInt64.toUInt64).toInt64))), .second] [])) _
    refine XS.lload X1.here hx rfl (hb hby at_38) rfl ?_
    show Steps p.tables e below (T1.setTop (mkF m 40 #[.val (.long j0), .second, .val (.long j2), .second, .val (.int i4), .val (.long (((j0 &&& (9223372036854775807 : Int64)).toUInt64 >>> ((i4 &&& (63 : Int32)) &&& 0x3f).toInt64.toUInt64).toInt64)), .second, .val (.long (((j2 &&& (9223372036854775807 : Int64)).toUInt64 >>> ((((i4.toUInt32 >>> ((6 : Int32) &&& 31).toUInt32).toInt32) &&& (63 : Int32)) &&& 0x3f).toInt64.toUInt64).toInt64)), .second, .val (.long (own_f1_0 (((j0 &&& (9223372036854775807 : Int64)).toUInt64 >>> ((i4 &&& (63 : Int32)) &&& 0x3f).toInt64.toUInt64).toInt64) (((j2 &&& (9223372036854775807 : Int64)).toUInt64 >>> ((((i4.toUInt32 >>> ((6 : Int32) &&& 31).toUInt32).toInt32) &&& (63 : Int32)) &&& 0x3f).toInt64.toUInt64).toInt64))), .second] [(.long (own_f1_0 (((j0 &&& (9223372036854775807 : Int64)).toUInt64 >>> ((i4 &&& (63 : Int32)) &&& 0x3f).toInt64.toUInt64).toInt64) (((j2 &&& (9223372036854775807 : Int64)).toUInt64 >>> ((((i4.toUInt32 >>> ((6 : Int32) &&& 31).toUInt32).toInt32) &&& (63 : Int32)) &&& 0x3f).toInt64.toUInt64).toInt64)))])) _
    refine XS.lload X1.here hx rfl (hb hby at_40) rfl ?_
    show Steps p.tables e below (T1.setTop (mkF m 42 #[.val (.long j0), .second, .val (.long j2), .second, .val (.int i4), .val (.long (((j0 &&& (9223372036854775807 : Int64)).toUInt64 >>> ((i4 &&& (63 : Int32)) &&& 0x3f).toInt64.toUInt64).toInt64)), .second, .val (.long (((j2 &&& (9223372036854775807 : Int64)).toUInt64 >>> ((((i4.toUInt32 >>> ((6 : Int32) &&& 31).toUInt32).toInt32) &&& (63 : Int32)) &&& 0x3f).toInt64.toUInt64).toInt64)), .second, .val (.long (own_f1_0 (((j0 &&& (9223372036854775807 : Int64)).toUInt64 >>> ((i4 &&& (63 : Int32)) &&& 0x3f).toInt64.toUInt64).toInt64) (((j2 &&& (9223372036854775807 : Int64)).toUInt64 >>> ((((i4.toUInt32 >>> ((6 : Int32) &&& 31).toUInt32).toInt32) &&& (63 : Int32)) &&& 0x3f).toInt64.toUInt64).toInt64))), .second] [(.long (((j0 &&& (9223372036854775807 : Int64)).toUInt64 >>> ((i4 &&& (63 : Int32)) &&& 0x3f).toInt64.toUInt64).toInt64)), (.long (own_f1_0 (((j0 &&& (9223372036854775807 : Int64)).toUInt64 >>> ((i4 &&& (63 : Int32)) &&& 0x3f).toInt64.toUInt64).toInt64) (((j2 &&& (9223372036854775807 : Int64)).toUInt64 >>> ((((i4.toUInt32 >>> ((6 : Int32) &&& 31).toUInt32).toInt32) &&& (63 : Int32)) &&& 0x3f).toInt64.toUInt64).toInt64)))])) _
    refine XS.lload X1.here hx rfl (hb hby at_42) rfl ?_
    show Steps p.tables e below (T1.setTop (mkF m 44 #[.val (.long j0), .second, .val (.long j2), .second, .val (.int i4), .val (.long (((j0 &&& (9223372036854775807 : Int64)).toUInt64 >>> ((i4 &&& (63 : Int32)) &&& 0x3f).toInt64.toUInt64).toInt64)), .second, .val (.long (((j2 &&& (9223372036854775807 : Int64)).toUInt64 >>> ((((i4.toUInt32 >>> ((6 : Int32) &&& 31).toUInt32).toInt32) &&& (63 : Int32)) &&& 0x3f).toInt64.toUInt64).toInt64)), .second, .val (.long (own_f1_0 (((j0 &&& (9223372036854775807 : Int64)).toUInt64 >>> ((i4 &&& (63 : Int32)) &&& 0x3f).toInt64.toUInt64).toInt64) (((j2 &&& (9223372036854775807 : Int64)).toUInt64 >>> ((((i4.toUInt32 >>> ((6 : Int32) &&& 31).toUInt32).toInt32) &&& (63 : Int32)) &&& 0x3f).toInt64.toUInt64).toInt64))), .second] [(.long (((j2 &&& (9223372036854775807 : Int64)).toUInt64 >>> ((((i4.toUInt32 >>> ((6 : Int32) &&& 31).toUInt32).toInt32) &&& (63 : Int32)) &&& 0x3f).toInt64.toUInt64).toInt64)), (.long (((j0 &&& (9223372036854775807 : Int64)).toUInt64 >>> ((i4 &&& (63 : Int32)) &&& 0x3f).toInt64.toUInt64).toInt64)), (.long (own_f1_0 (((j0 &&& (9223372036854775807 : Int64)).toUInt64 >>> ((i4 &&& (63 : Int32)) &&& 0x3f).toInt64.toUInt64).toInt64) (((j2 &&& (9223372036854775807 : Int64)).toUInt64 >>> ((((i4.toUInt32 >>> ((6 : Int32) &&& 31).toUInt32).toInt32) &&& (63 : Int32)) &&& 0x3f).toInt64.toUInt64).toInt64)))])) _
    refine st2 _ ?_
    show Steps p.tables e below (T2.setTop (mkF m 47 #[.val (.long j0), .second, .val (.long j2), .second, .val (.int i4), .val (.long (((j0 &&& (9223372036854775807 : Int64)).toUInt64 >>> ((i4 &&& (63 : Int32)) &&& 0x3f).toInt64.toUInt64).toInt64)), .second, .val (.long (((j2 &&& (9223372036854775807 : Int64)).toUInt64 >>> ((((i4.toUInt32 >>> ((6 : Int32) &&& 31).toUInt32).toInt32) &&& (63 : Int32)) &&& 0x3f).toInt64.toUInt64).toInt64)), .second, .val (.long (own_f1_0 (((j0 &&& (9223372036854775807 : Int64)).toUInt64 >>> ((i4 &&& (63 : Int32)) &&& 0x3f).toInt64.toUInt64).toInt64) (((j2 &&& (9223372036854775807 : Int64)).toUInt64 >>> ((((i4.toUInt32 >>> ((6 : Int32) &&& 31).toUInt32).toInt32) &&& (63 : Int32)) &&& 0x3f).toInt64.toUInt64).toInt64))), .second] [(.long (own_f2_0 (((j0 &&& (9223372036854775807 : Int64)).toUInt64 >>> ((i4 &&& (63 : Int32)) &&& 0x3f).toInt64.toUInt64).toInt64) (((j2 &&& (9223372036854775807 : Int64)).toUInt64 >>> ((((i4.toUInt32 >>> ((6 : Int32) &&& 31).toUInt32).toInt32) &&& (63 : Int32)) &&& 0x3f).toInt64.toUInt64).toInt64))), (.long (own_f1_0 (((j0 &&& (9223372036854775807 : Int64)).toUInt64 >>> ((i4 &&& (63 : Int32)) &&& 0x3f).toInt64.toUInt64).toInt64) (((j2 &&& (9223372036854775807 : Int64)).toUInt64 >>> ((((i4.toUInt32 >>> ((6 : Int32) &&& 31).toUInt32).toInt32) &&& (63 : Int32)) &&& 0x3f).toInt64.toUInt64).toInt64)))])) _
    refine XS.lcmp X2.here hx rfl (hb hby at_47) rfl ?_
    exact kt
  by_cases hc48 : (own_f1_0 (((j0 &&& (9223372036854775807 : Int64)).toUInt64 >>> ((i4 &&& (63 : Int32)) &&& 0x3f).toInt64.toUInt64).toInt64) (((j2 &&& (9223372036854775807 : Int64)).toUInt64 >>> ((((i4.toUInt32 >>> ((6 : Int32) &&& 31).toUInt32).toInt32) &&& (63 : Int32)) &&& 0x3f).toInt64.toUInt64).toInt64)) = (own_f2_0 (((j0 &&& (9223372036854775807 : Int64)).toUInt64 >>> ((i4 &&& (63 : Int32)) &&& 0x3f).toInt64.toUInt64).toInt64) (((j2 &&& (9223372036854775807 : Int64)).toUInt64 >>> ((((i4.toUInt32 >>> ((6 : Int32) &&& 31).toUInt32).toInt32) &&& (63 : Int32)) &&& 0x3f).toInt64.toUInt64).toInt64))
  · refine ⟨T2, X2, e2, fun fs hr => ?_⟩
    have hv : (own_f0_0 j0 j2 i4) = (1 : Int32) := by unfold own_f0_0; rw [if_pos hc48]
    rw [hv] at hr
    refine pre3 _ ?_
    show Steps p.tables e below (T2.setTop (mkF m 48 #[.val (.long j0), .second, .val (.long j2), .second, .val (.int i4), .val (.long (((j0 &&& (9223372036854775807 : Int64)).toUInt64 >>> ((i4 &&& (63 : Int32)) &&& 0x3f).toInt64.toUInt64).toInt64)), .second, .val (.long (((j2 &&& (9223372036854775807 : Int64)).toUInt64 >>> ((((i4.toUInt32 >>> ((6 : Int32) &&& 31).toUInt32).toInt32) &&& (63 : Int32)) &&& 0x3f).toInt64.toUInt64).toInt64)), .second, .val (.long (own_f1_0 (((j0 &&& (9223372036854775807 : Int64)).toUInt64 >>> ((i4 &&& (63 : Int32)) &&& 0x3f).toInt64.toUInt64).toInt64) (((j2 &&& (9223372036854775807 : Int64)).toUInt64 >>> ((((i4.toUInt32 >>> ((6 : Int32) &&& 31).toUInt32).toInt32) &&& (63 : Int32)) &&& 0x3f).toInt64.toUInt64).toInt64))), .second] [(.int (lcmpW (own_f1_0 (((j0 &&& (9223372036854775807 : Int64)).toUInt64 >>> ((i4 &&& (63 : Int32)) &&& 0x3f).toInt64.toUInt64).toInt64) (((j2 &&& (9223372036854775807 : Int64)).toUInt64 >>> ((((i4.toUInt32 >>> ((6 : Int32) &&& 31).toUInt32).toInt32) &&& (63 : Int32)) &&& 0x3f).toInt64.toUInt64).toInt64)) (own_f2_0 (((j0 &&& (9223372036854775807 : Int64)).toUInt64 >>> ((i4 &&& (63 : Int32)) &&& 0x3f).toInt64.toUInt64).toInt64) (((j2 &&& (9223372036854775807 : Int64)).toUInt64 >>> ((((i4.toUInt32 >>> ((6 : Int32) &&& 31).toUInt32).toInt32) &&& (63 : Int32)) &&& 0x3f).toInt64.toUInt64).toInt64))))])) _
    refine XS.ifNo X2.here hx rfl (hb hby at_48) rfl ((if0 _ _).trans (teq ((lw_eq _ _).mpr hc48)).2) ?_
    show Steps p.tables e below (T2.setTop (mkF m 51 #[.val (.long j0), .second, .val (.long j2), .second, .val (.int i4), .val (.long (((j0 &&& (9223372036854775807 : Int64)).toUInt64 >>> ((i4 &&& (63 : Int32)) &&& 0x3f).toInt64.toUInt64).toInt64)), .second, .val (.long (((j2 &&& (9223372036854775807 : Int64)).toUInt64 >>> ((((i4.toUInt32 >>> ((6 : Int32) &&& 31).toUInt32).toInt32) &&& (63 : Int32)) &&& 0x3f).toInt64.toUInt64).toInt64)), .second, .val (.long (own_f1_0 (((j0 &&& (9223372036854775807 : Int64)).toUInt64 >>> ((i4 &&& (63 : Int32)) &&& 0x3f).toInt64.toUInt64).toInt64) (((j2 &&& (9223372036854775807 : Int64)).toUInt64 >>> ((((i4.toUInt32 >>> ((6 : Int32) &&& 31).toUInt32).toInt32) &&& (63 : Int32)) &&& 0x3f).toInt64.toUInt64).toInt64))), .second] [])) _
    refine XS.iconst X2.here hx rfl (hb hby at_51) ?_
    show Steps p.tables e below (T2.setTop (mkF m 52 #[.val (.long j0), .second, .val (.long j2), .second, .val (.int i4), .val (.long (((j0 &&& (9223372036854775807 : Int64)).toUInt64 >>> ((i4 &&& (63 : Int32)) &&& 0x3f).toInt64.toUInt64).toInt64)), .second, .val (.long (((j2 &&& (9223372036854775807 : Int64)).toUInt64 >>> ((((i4.toUInt32 >>> ((6 : Int32) &&& 31).toUInt32).toInt32) &&& (63 : Int32)) &&& 0x3f).toInt64.toUInt64).toInt64)), .second, .val (.long (own_f1_0 (((j0 &&& (9223372036854775807 : Int64)).toUInt64 >>> ((i4 &&& (63 : Int32)) &&& 0x3f).toInt64.toUInt64).toInt64) (((j2 &&& (9223372036854775807 : Int64)).toUInt64 >>> ((((i4.toUInt32 >>> ((6 : Int32) &&& 31).toUInt32).toInt32) &&& (63 : Int32)) &&& 0x3f).toInt64.toUInt64).toInt64))), .second] [(.int (1 : Int32))])) _
    refine XS.goto X2.here hx rfl (pc0 := 52) (pc' := 56) rfl (hb hby at_52) (by decide) (by decide) ?_
    show Steps p.tables e below (T2.setTop (mkF m 56 #[.val (.long j0), .second, .val (.long j2), .second, .val (.int i4), .val (.long (((j0 &&& (9223372036854775807 : Int64)).toUInt64 >>> ((i4 &&& (63 : Int32)) &&& 0x3f).toInt64.toUInt64).toInt64)), .second, .val (.long (((j2 &&& (9223372036854775807 : Int64)).toUInt64 >>> ((((i4.toUInt32 >>> ((6 : Int32) &&& 31).toUInt32).toInt32) &&& (63 : Int32)) &&& 0x3f).toInt64.toUInt64).toInt64)), .second, .val (.long (own_f1_0 (((j0 &&& (9223372036854775807 : Int64)).toUInt64 >>> ((i4 &&& (63 : Int32)) &&& 0x3f).toInt64.toUInt64).toInt64) (((j2 &&& (9223372036854775807 : Int64)).toUInt64 >>> ((((i4.toUInt32 >>> ((6 : Int32) &&& 31).toUInt32).toInt32) &&& (63 : Int32)) &&& 0x3f).toInt64.toUInt64).toInt64))), .second] [(.int (1 : Int32))])) _
    exact retN X2 hx (t := .boolean) hret (by simp) (hb hby at_56) hr
  · refine ⟨T2, X2, e2, fun fs hr => ?_⟩
    have hv : (own_f0_0 j0 j2 i4) = (0 : Int32) := by unfold own_f0_0; rw [if_neg hc48]
    rw [hv] at hr
    refine pre3 _ ?_
    show Steps p.tables e below (T2.setTop (mkF m 48 #[.val (.long j0), .second, .val (.long j2), .second, .val (.int i4), .val (.long (((j0 &&& (9223372036854775807 : Int64)).toUInt64 >>> ((i4 &&& (63 : Int32)) &&& 0x3f).toInt64.toUInt64).toInt64)), .second, .val (.long (((j2 &&& (9223372036854775807 : Int64)).toUInt64 >>> ((((i4.toUInt32 >>> ((6 : Int32) &&& 31).toUInt32).toInt32) &&& (63 : Int32)) &&& 0x3f).toInt64.toUInt64).toInt64)), .second, .val (.long (own_f1_0 (((j0 &&& (9223372036854775807 : Int64)).toUInt64 >>> ((i4 &&& (63 : Int32)) &&& 0x3f).toInt64.toUInt64).toInt64) (((j2 &&& (9223372036854775807 : Int64)).toUInt64 >>> ((((i4.toUInt32 >>> ((6 : Int32) &&& 31).toUInt32).toInt32) &&& (63 : Int32)) &&& 0x3f).toInt64.toUInt64).toInt64))), .second] [(.int (lcmpW (own_f1_0 (((j0 &&& (9223372036854775807 : Int64)).toUInt64 >>> ((i4 &&& (63 : Int32)) &&& 0x3f).toInt64.toUInt64).toInt64) (((j2 &&& (9223372036854775807 : Int64)).toUInt64 >>> ((((i4.toUInt32 >>> ((6 : Int32) &&& 31).toUInt32).toInt32) &&& (63 : Int32)) &&& 0x3f).toInt64.toUInt64).toInt64)) (own_f2_0 (((j0 &&& (9223372036854775807 : Int64)).toUInt64 >>> ((i4 &&& (63 : Int32)) &&& 0x3f).toInt64.toUInt64).toInt64) (((j2 &&& (9223372036854775807 : Int64)).toUInt64 >>> ((((i4.toUInt32 >>> ((6 : Int32) &&& 31).toUInt32).toInt32) &&& (63 : Int32)) &&& 0x3f).toInt64.toUInt64).toInt64))))])) _
    refine XS.ifYes X2.here hx rfl (pc0 := 48) (pc' := 55) rfl (hb hby at_48) rfl ((if0 _ _).trans (feq (mt (lw_eq _ _).mp hc48)).2) (by decide) (by decide) ?_
    show Steps p.tables e below (T2.setTop (mkF m 55 #[.val (.long j0), .second, .val (.long j2), .second, .val (.int i4), .val (.long (((j0 &&& (9223372036854775807 : Int64)).toUInt64 >>> ((i4 &&& (63 : Int32)) &&& 0x3f).toInt64.toUInt64).toInt64)), .second, .val (.long (((j2 &&& (9223372036854775807 : Int64)).toUInt64 >>> ((((i4.toUInt32 >>> ((6 : Int32) &&& 31).toUInt32).toInt32) &&& (63 : Int32)) &&& 0x3f).toInt64.toUInt64).toInt64)), .second, .val (.long (own_f1_0 (((j0 &&& (9223372036854775807 : Int64)).toUInt64 >>> ((i4 &&& (63 : Int32)) &&& 0x3f).toInt64.toUInt64).toInt64) (((j2 &&& (9223372036854775807 : Int64)).toUInt64 >>> ((((i4.toUInt32 >>> ((6 : Int32) &&& 31).toUInt32).toInt32) &&& (63 : Int32)) &&& 0x3f).toInt64.toUInt64).toInt64))), .second] [])) _
    refine XS.iconst X2.here hx rfl (hb hby at_55) ?_
    show Steps p.tables e below (T2.setTop (mkF m 56 #[.val (.long j0), .second, .val (.long j2), .second, .val (.int i4), .val (.long (((j0 &&& (9223372036854775807 : Int64)).toUInt64 >>> ((i4 &&& (63 : Int32)) &&& 0x3f).toInt64.toUInt64).toInt64)), .second, .val (.long (((j2 &&& (9223372036854775807 : Int64)).toUInt64 >>> ((((i4.toUInt32 >>> ((6 : Int32) &&& 31).toUInt32).toInt32) &&& (63 : Int32)) &&& 0x3f).toInt64.toUInt64).toInt64)), .second, .val (.long (own_f1_0 (((j0 &&& (9223372036854775807 : Int64)).toUInt64 >>> ((i4 &&& (63 : Int32)) &&& 0x3f).toInt64.toUInt64).toInt64) (((j2 &&& (9223372036854775807 : Int64)).toUInt64 >>> ((((i4.toUInt32 >>> ((6 : Int32) &&& 31).toUInt32).toInt32) &&& (63 : Int32)) &&& 0x3f).toInt64.toUInt64).toInt64))), .second] [(.int (0 : Int32))])) _
    exact retN X2 hx (t := .boolean) hret (by simp) (hb hby at_56) hr
def Q0 (Z : State) (j0 : Int64) (j2 : Int64) (i4 : Int32) (h0 : Heap) (n0 : Nat) (v : Option Value) (h : Heap) (L : List Loc) : Prop := v = some (.int (own_f0_0 j0 j2 i4)) ∧ L = [] ∧ h = h0
set_option maxRecDepth 65536 in
set_option maxHeartbeats 40000000 in
theorem rm0 (l : Launch) (Z : State) (a0_ : Array Value) (hw : ∀ d ∈ tables_1, d.before a0_ Z = true) (ws : List Jvm.Cond) (j0 : Int64) (j2 : Int64) (i4 : Int32) (h0 : Heap) (n0 : Nat) (Z0 : n0 ≤ h0.size)  :
    MetFree l x (head1 (Jvm.Cond.code x code maxLocals ret :: ws) room_1) (fun a U => a = #[(.long j0), (.long j2), (.int i4)] ∧ Z.Warmed39 U.vm ∧ U.heap = h0) (fun _ _ _ _ _ => True) (fun _ U o U' => ∃ v L, o = .returned v ∧ Q0 Z j0 j2 i4 h0 n0 v U'.heap L ∧ FrameEnd U o U' L room_1.cells room_1.slots) := by
  refine MetFree.of_bodySF (plainFor_of_name pn_0) hisR ?_
  intro p e s m args below meth c s₁ Bd hml0 hP hK
  obtain ⟨rfl, hZ, hh⟩ := hP
  have hx := Bd.exec
  have hby := Bd.bytes
  have hml : c.maxLocals = 11 := hml0
  have hown : s.vm.findClass "com/example/refill/refill/core/TokensProductPinLaw" = some m.cls := findClass_of_methodNamed Bd.named
  have X0 : Stand p l e room_1 s m #[(.long j0), (.long j2), (.int i4)] below meth c s₁ [] 0 0 := Stand.of_body Bd
  have e0 : s₁.heap = h0 := by rw [← hh, Bd.state]; rfl
  obtain ⟨T', X', e', st'⟩ := own_b0_0 hx hZ hw hby hml hown Bd.returns  j0 j2 i4 X0 e0 (by decide) (by decide) 
  obtain ⟨fs, hr, hrun, hended, hW, hsame⟩ := X'.leave (v := some (.int (own_f0_0 j0 j2 i4))) (fun h => by rw [Bd.returns] at h; cases h)
  refine ⟨_, _, castTop (ef_0 m j0 j2 i4) (st' fs hr), hrun, hended, _, _, rfl, ?_, ⟨_, rfl⟩, hW, hsame.mono (by decide) (by decide)⟩
  exact ⟨rfl, rfl, e'⟩
theorem own_l1 (a b : Int64) (ha : 0 ≤ a.toInt) (hb : 0 ≤ b.toInt) : own_f1_0 a b = if a.toInt * b.toInt ≤ 9223372036854775807 then a * b else 9223372036854775807 := by
  have l0 : (0 : Int64).toInt = 0 := by decide +kernel
  have lM : (9223372036854775807 : Int64).toInt = 9223372036854775807 := by decide +kernel
  unfold own_f1_0 own_f1_21
  by_cases h : a = 0
  · subst h
    rw [if_pos rfl, l0, Int.zero_mul, if_pos (by decide +kernel)]
  · rw [if_neg h]
    have hp : 0 < a.toInt := by
      have : ¬ a.toInt = 0 := fun z => h (Int64.toInt_inj.mp (by rw [z, l0]))
      omega
    have n1 : a ≠ -1 := fun z => by
      have : (-1 : Int64).toInt = -1 := by decide +kernel
      rw [z, this] at ha
      omega
    have d := (c_ldiv (9223372036854775807 : Int64) a a.toInt rfl n1).1 (by rw [lM]; decide +kernel)
    rw [lM] at d
    have k : (9223372036854775807 : Int) / a.toInt < b.toInt ↔ 9223372036854775807 < b.toInt * a.toInt := Int.ediv_lt_iff_lt_mul hp
    by_cases c : ((9223372036854775807 : Int64) / a) < b
    · rw [if_pos c]
      rw [Int64.lt_iff_toInt_lt, d, k, Int.mul_comm] at c
      rw [if_neg (by omega)]
    · rw [if_neg c]
      rw [Int64.lt_iff_toInt_lt, d, k, Int.mul_comm] at c
      rw [if_pos (by omega)]
theorem own_bd (x y hx hy : Int) (h0 : 0 ≤ x) (h1 : x ≤ hx) (h2 : 0 ≤ y) (h3 : y ≤ hy) : 0 ≤ x * y ∧ x * y ≤ hx * hy := ⟨Int.mul_nonneg h0 h2, Int.mul_le_mul h1 h3 h2 (Int.le_trans h0 h1)⟩
theorem own_l2 (a b ah al bh bl : Int64) (ha : 0 ≤ a.toInt) (hb : 0 ≤ b.toInt) (e1 : ah.toInt = a.toInt / 4294967296) (e2 : al.toInt = a.toInt % 4294967296) (e3 : bh.toInt = b.toInt / 4294967296) (e4 : bl.toInt = b.toInt % 4294967296) (h : ah.toInt = 0 ∨ bh.toInt = 0) :
    own_f2_48 a b 9223372036854775807 ah al bh bl = if a.toInt * b.toInt ≤ 9223372036854775807 then a * b else 9223372036854775807 := by
  have l0 : (0 : Int64).toInt = 0 := by decide +kernel
  have lK : (2147483648 : Int64).toInt = 2147483648 := by decide +kernel
  have ra := rng64 a
  have rb := rng64 b
  have q1 := own_bd ah.toInt bl.toInt 2147483647 4294967295 (by omega) (by omega) (by omega) (by omega)
  have q2 := own_bd al.toInt bh.toInt 4294967295 2147483647 (by omega) (by omega) (by omega) (by omega)
  have q3 := own_bd al.toInt bl.toInt 4294967295 4294967295 (by omega) (by omega) (by omega) (by omega)
  have P : a.toInt * b.toInt = ah.toInt * bh.toInt * 18446744073709551616 + (ah.toInt * bl.toInt + al.toInt * bh.toInt) * 4294967296 + al.toInt * bl.toInt := by
    have ea : a.toInt = ah.toInt * 4294967296 + al.toInt := by omega
    have eb : b.toInt = bh.toInt * 4294967296 + bl.toInt := by omega
    rw [ea, eb]
    generalize ah.toInt = x
    generalize al.toInt = y
    generalize bh.toInt = z
    generalize bl.toInt = w
    grind
  have z1 : ah.toInt * bh.toInt = 0 := by rcases h with h | h <;> rw [h] <;> simp
  have z2 : ah.toInt * bl.toInt = 0 ∨ al.toInt * bh.toInt = 0 := by
    rcases h with h | h
    · left; rw [h]; simp
    · right; rw [h]; simp
  rw [z1] at P
  have m1 := c_lmul ah bl
  have m2 := c_lmul al bh
  have m3 := c_lmul al bl
  have m4 := c_lmul a b
  have r1 := rng64 (ah * bl)
  have r2 := rng64 (al * bh)
  have r3 := rng64 (al * bl)
  have r4 := rng64 (a * b)
  have s1 := c_ladd (ah * bl) (al * bh)
  have t1 := rng64 (ah * bl + al * bh)
  have s2 := c_lshl (ah * bl + al * bh) 32 32 (by decide +kernel)
  have t2 := rng64 ((ah * bl + al * bh) <<< ((32 : Int32) &&& 0x3f).toInt64)
  have s3 := c_ladd ((ah * bl + al * bh) <<< ((32 : Int32) &&& 0x3f).toInt64) (al * bl)
  have t3 := rng64 ((ah * bl + al * bh) <<< ((32 : Int32) &&& 0x3f).toInt64 + al * bl)
  have w32 : ((2 ^ 32 : Nat) : Int) = 4294967296 := by decide +kernel
  rw [w32] at s2
  have key : ∀ {u v : Int64}, u.toInt = v.toInt → u = v := fun z => Int64.toInt_inj.mp z
  unfold own_f2_48
  simp only [Int64.lt_iff_toInt_lt, l0, lK]
  generalize hS : ((ah * bl + al * bh) <<< ((32 : Int32) &&& 0x3f).toInt64 + al * bl) = S at *
  generalize ((ah * bl + al * bh) <<< ((32 : Int32) &&& 0x3f).toInt64) = H at *
  generalize (ah * bl + al * bh) = C at *
  generalize (ah * bl) = U1 at *
  generalize (al * bh) = U2 at *
  generalize (al * bl) = U3 at *
  generalize (a * b) = U4 at *
  generalize ah.toInt * bl.toInt = X1 at *
  generalize al.toInt * bh.toInt = X2 at *
  generalize al.toInt * bl.toInt = X3 at *
  generalize a.toInt * b.toInt = X0 at *
  clear e1 e2 e3 e4 h ra rb ha hb z1 hS
  generalize kS : S.toInt = vS at *
  generalize kH : H.toInt = vH at *
  generalize kC : C.toInt = vC at *
  generalize k1 : U1.toInt = v1 at *
  generalize k2 : U2.toInt = v2 at *
  generalize k3 : U3.toInt = v3 at *
  generalize k4 : U4.toInt = v4 at *
  by_cases c1 : vC < 2147483648
  · rw [if_pos c1]
    by_cases c2 : v3 < 0
    · rw [if_pos c2, if_neg (by omega)]
    · rw [if_neg c2]
      by_cases c3 : vS < 0
      · rw [if_pos c3, if_neg (by omega)]
      · rw [if_neg c3, if_pos (by omega)]
        exact key (by rw [kS, k4]; omega)
  · rw [if_neg c1, if_neg (by omega)]
theorem own_same (a b : Int64) (ha : 0 ≤ a.toInt) (hb : 0 ≤ b.toInt) : own_f1_0 a b = own_f2_0 a b := by
  have l0 : (0 : Int64).toInt = 0 := by decide +kernel
  have ra := rng64 a
  have rb := rng64 b
  have e1 := c_lushr a 32 32 (by decide +kernel) (by decide +kernel)
  have e2 := c_maskL a 4294967295 32 (by decide +kernel) (by decide +kernel)
  have e3 := c_lushr b 32 32 (by decide +kernel) (by decide +kernel)
  have e4 := c_maskL b 4294967295 32 (by decide +kernel) (by decide +kernel)
  rw [own_l1 a b ha hb]
  unfold own_f2_0
  generalize ((a.toUInt64 >>> ((32 : Int32) &&& 0x3f).toInt64.toUInt64).toInt64) = ah at *
  generalize (a &&& (4294967295 : Int64)) = al at *
  generalize ((b.toUInt64 >>> ((32 : Int32) &&& 0x3f).toInt64.toUInt64).toInt64) = bh at *
  generalize (b &&& (4294967295 : Int64)) = bl at *
  have w32 : ((2 ^ 32 : Nat) : Int) = 4294967296 := by decide +kernel
  rw [w32] at e1 e2 e3 e4
  have f1 : ah.toInt = a.toInt / 4294967296 := by rw [e1, Int.emod_eq_of_lt ha (by omega)]
  have f3 : bh.toInt = b.toInt / 4294967296 := by rw [e3, Int.emod_eq_of_lt hb (by omega)]
  have f2 := e2
  have f4 := e4
  clear e1 e2 e3 e4
  by_cases h1 : ah = 0
  · rw [if_pos h1]
    exact (own_l2 a b ah al bh bl ha hb f1 f2 f3 f4 (Or.inl (by rw [h1, l0]))).symm
  · rw [if_neg h1]
    by_cases h2 : bh = 0
    · rw [if_pos h2]
      exact (own_l2 a b ah al bh bl ha hb f1 f2 f3 f4 (Or.inr (by rw [h2, l0]))).symm
    · rw [if_neg h2]
      have g1 : ¬ ah.toInt = 0 := fun z => h1 (Int64.toInt_inj.mp (by rw [z, l0]))
      have g2 : ¬ bh.toInt = 0 := fun z => h2 (Int64.toInt_inj.mp (by rw [z, l0]))
      have q := mc (a := a.toInt) (b := b.toInt) (l1 := 4294967296) (h1 := 9223372036854775807) (l2 := 4294967296) (h2 := 9223372036854775807) (by omega) (by omega) (by omega) (by omega)
      generalize a.toInt * b.toInt = X0 at *
      rw [if_neg (by omega)]
theorem own_pos (x : Int64) (q : Int32) : 0 ≤ (((x &&& (9223372036854775807 : Int64)).toUInt64 >>> (q &&& 0x3f).toInt64.toUInt64).toInt64).toInt := by
  have m := c_maskL x 9223372036854775807 63 (by decide +kernel) (by decide +kernel)
  by_cases h : q.toBitVec.toNat % 64 = 0
  · have e := (sm64 q 0 h).1
    have f : ((x &&& (9223372036854775807 : Int64)).toUInt64 >>> (q &&& 0x3f).toInt64.toUInt64).toInt64 = (x &&& (9223372036854775807 : Int64)) := by
      apply Int64.toBitVec_inj.mp
      show (x &&& (9223372036854775807 : Int64)).toBitVec >>> ((q &&& 0x3f).toInt64.toBitVec % 64) = (x &&& (9223372036854775807 : Int64)).toBitVec
      rw [e]
      simp
    rw [f]
    omega
  · have c := c_lushr (x &&& (9223372036854775807 : Int64)) q _ rfl (by omega)
    rw [c]
    have : (0 : Int) ≤ (x &&& (9223372036854775807 : Int64)).toInt % 18446744073709551616 := by omega
    exact Int.ediv_nonneg this (Int.natCast_nonneg _)
theorem own_law (j0 : Int64) (j2 : Int64) (i4 : Int32) : own_f0_0 j0 j2 i4 = 1 := by
  unfold own_f0_0
  rw [own_same _ _ (own_pos _ _) (own_pos _ _), if_pos rfl]
set_option maxRecDepth 65536 in
set_option maxHeartbeats 40000000 in
theorem comes_1 {Post : Tables → Env → Array Value → State → Outcome → State → Prop} (hpost : ∀ tb e args s v u, (limb_1_1.after args s (.returned v) u = true ∧ limb_1_2.after args s (.returned v) u = true ∧ True) → FrameEnd s (.returned v) u (Jvm.fieldLocs frame_1_writes args s ++ Jvm.arrayLocs frame_1_arrays args s ++ Jvm.staticLocs frame_1_statics s) 0 0 → Post tb e args s (.returned v) u) :
    ArmFor flags0 classFile x code maxLocals ret World_1 tables_1 room_1 Calls_1 rest_1 Pre_1 Post := by
  intro l hfl _ _ p e ha hc hk s m args below hf hA hF happ hP
  obtain ⟨hcalls, hrest, hpre⟩ := hP
  obtain ⟨-, -, -, hnamed, -, -, -, hat⟩ := (Spec.applies_iff hf).mp happ
  obtain ⟨hg, hn⟩ := and_e (Cond.before_iff.mp (show (Jvm.Cond.and given_1 narrow_1).before args s = true from hpre))
  obtain ⟨hcount, hg⟩ := and_e hg
  obtain ⟨g0, hg⟩ := and_e hg
  obtain ⟨g1, hg⟩ := and_e hg
  have g2 := hg
  obtain ⟨w0, w1, w2, rfl⟩ : ∃ w0 w1 w2 : Value, args = #[w0, w1, w2] := by
    have hs : args.size = 3 := by simpa [Cond.value, given_1] using hcount
    obtain ⟨L⟩ := args
    match L, hs with
    | [w0, w1, w2], _ => exact ⟨w0, w1, w2, rfl⟩
  have hw := fun d (hd : d ∈ tables_1) => atoms_spec (ws := Jvm.Cond.code x code maxLocals ret :: tables_1) hat d (List.mem_cons_of_mem _ hd)
  obtain ⟨i0, ei0⟩ := isL_v g0
  obtain rfl : w0 = (.long i0) := Option.some.inj ei0
  obtain ⟨i1, ei1⟩ := isL_v g1
  obtain rfl : w1 = (.long i1) := Option.some.inj ei1
  obtain ⟨i2, ei2⟩ := is_v g2
  obtain rfl : w2 = (.int i2) := Option.some.inj ei2
  obtain ⟨n, o, h1, h2, h3, _, L, rfl, ⟨rfl, rfl, N⟩, hq⟩ := rm0 l s _ hw tables_1 i0 i1 i2 s.heap s.heap.size (Nat.le_refl _) p e ha hc hk s m _ below hf ((Spec.applies_iff_loose hf).mp happ).1 ⟨rfl, State.Warmed39.refl s, rfl⟩ trivial
  rw [own_law i0 i1 i2] at h3 hq
  refine ⟨n, _, h1, h2, h3, hpost _ _ _ _ _ _ ⟨Cond.after_iff.mpr rfl, Cond.after_iff.mpr (eq_i res_at (Term.int_eval (1)) rfl), trivial⟩ ⟨hq.1, hq.2.1, (hq.2.2.sift fun y hy => nomatch hy).mono (by decide) (by decide)⟩⟩
theorem main_1_1 : Claimed_1_1 := comes_1 fun _ _ _ _ _ _ h hF => ⟨h.1, hF⟩
theorem main_1_2 : Claimed_1_2 := comes_1 fun _ _ _ _ _ _ h hF => ⟨h.2.1, hF⟩
end Jvm.Pilot.@@N@@
namespace Jvm.Pilot.@@N@@
open Jvm Jvm.ClassFile Sem Op Lib Jvm.Free Jvm.Stand Jvm.Pilot.@@N@@.Jvm.D
/-! MADE BY PROGRAM (witnessworld.py) out of the Statement's table words and the real class files: 9 classes; the members and pool entries that the words name. The judged class is class 1, her method 2. -/
namespace start1
open Jvm.ClassFile
def u (s : String) : CpInfo := .utf8 (stringToUtf16 s)
/-- a pool by its gaps: so many unusable entries, then the entry; so many at the end -/
def gap : Nat → List CpInfo → List CpInfo
  | 0, r => r
  | n + 1, r => .unusable :: gap n r
def poolList (es : List (Nat × CpInfo)) (last : Nat) : List CpInfo := es.foldr (fun e r => gap e.1 (e.2 :: r)) (gap last [])
def pool (es : List (Nat × CpInfo)) (last : Nat) : Array CpInfo := ⟨poolList es last⟩
def fileOf (pool : Array CpInfo) (this : Nat) (attrs : Array Attribute := #[]) (ms : Array MethodInfo := #[]) (fl : Nat := 33) (sup : Nat := 0) (ifs : Array Nat := #[]) (fds : Array FieldInfo := #[]) : ClassFile where
  minorVersion := 0
  majorVersion := 65
  constantPool := pool
  accessFlags := fl
  thisClass := this
  superClass := sup
  interfaces := ifs
  fields := fds
  methods := ms
  attributes := attrs
def plain (name : String) (sup : Option ClassId) : Class where
  name := name
  kind := .ordinary
  loader := none
  accessFlags := 33
  super := sup
  interfaces := #[]
  cf := none
  fields := #[]
  methods := #[]
  instanceTypes := #[]
  staticTypes := #[]
  resolved := #[]
  callSites := []
  init := .initialized
  statics := none
  mirror := none

def pool0 : Array CpInfo := pool [(5, u "<init>"), (0, u "()V"), (1, .class_ 10), (1, u "java/lang/Object")] 113

def k0m0 : Method := { name := "<init>", desc := "()V", sig := { parameters := [], returnType := none }, accessFlags := 1, code := none }
/-- java/lang/Object -/
def k0 : Class := { plain "java/lang/Object" none with
  accessFlags := 33
  interfaces := #[]
  cf := some (fileOf pool0 8 #[] #[{ accessFlags := 1, nameIndex := 5, descriptorIndex := 6, attributes := #[] }] 33 0 #[] #[])
  fields := #[]
  methods := #[k0m0]
  instanceTypes := #[]
  staticTypes := #[]
  resolved := Array.replicate 124 none
  statics := none }

def pool1 : Array CpInfo := pool [(2, .class_ 4), (1, u "java/lang/Object"), (0, u "<init>"), (0, u "()V"), (2, .long 9223372036854775807), (1, .long 4294967295), (1, .long 2147483648), (1, .methodref 16 17), (0, .class_ 18), (0, .nameAndType 19 20), (0, u "com/example/refill/refill/core/Tokens"), (0, u "product"), (0, u "(JJ)J"), (0, .methodref 22 23), (0, .class_ 24), (0, .nameAndType 25 20), (0, u "com/example/refill/refill/core/TokensProductPinLaw"), (0, u "reference"), (3, u "law"), (0, u "(JJI)Z")] 2

def k1m0 : Method := { name := "<init>", desc := "()V", sig := { parameters := [], returnType := none }, accessFlags := 2, code := none }
def k1c1 : Code := { maxStack := 6, maxLocals := 22, code := method_2_code, exceptionTable := #[], attributes := #[] }
def k1m1 : Method := { name := "reference", desc := "(JJ)J", sig := { parameters := [.long, .long], returnType := some .long }, accessFlags := 10, code := some k1c1 }
def k1c2 : Code := { maxStack := 6, maxLocals := 11, code := code, exceptionTable := #[], attributes := #[] }
def k1m2 : Method := { name := "law", desc := "(JJI)Z", sig := { parameters := [.long, .long, .int], returnType := some .boolean }, accessFlags := 9, code := some k1c2 }
/-- com/example/refill/refill/core/TokensProductPinLaw -/
def k1 : Class := { plain "com/example/refill/refill/core/TokensProductPinLaw" (some 0) with
  accessFlags := 49
  interfaces := #[]
  cf := some (fileOf pool1 22 #[] #[{ accessFlags := 2, nameIndex := 5, descriptorIndex := 6, attributes := #[] }, { accessFlags := 10, nameIndex := 25, descriptorIndex := 20, attributes := #[] }, { accessFlags := 9, nameIndex := 29, descriptorIndex := 30, attributes := #[] }] 49 2 #[] #[])
  fields := #[]
  methods := #[k1m0, k1m1, k1m2]
  instanceTypes := #[]
  staticTypes := #[]
  resolved := Array.replicate 33 none
  statics := none }

def pool2 : Array CpInfo := pool [(2, .class_ 4), (1, u "java/lang/Object"), (0, u "<init>"), (0, u "()V"), (2, .long 9223372036854775807), (1, .class_ 12), (0, u "com/example/refill/refill/core/Tokens"), (3, u "(JJ)J"), (1, u "product")] 2

def k2m0 : Method := { name := "<init>", desc := "()V", sig := { parameters := [], returnType := none }, accessFlags := 2, code := none }
def k2c1 : Code := { maxStack := 6, maxLocals := 6, code := prog_14_method_3_code, exceptionTable := #[], attributes := #[] }
def k2m1 : Method := { name := "product", desc := "(JJ)J", sig := { parameters := [.long, .long], returnType := some .long }, accessFlags := 9, code := some k2c1 }
/-- com/example/refill/refill/core/Tokens -/
def k2 : Class := { plain "com/example/refill/refill/core/Tokens" (some 0) with
  accessFlags := 49
  interfaces := #[]
  cf := some (fileOf pool2 11 #[] #[{ accessFlags := 2, nameIndex := 5, descriptorIndex := 6, attributes := #[] }, { accessFlags := 9, nameIndex := 18, descriptorIndex := 16, attributes := #[] }] 49 2 #[] #[])
  fields := #[]
  methods := #[k2m0, k2m1]
  instanceTypes := #[]
  staticTypes := #[]
  resolved := Array.replicate 21 none
  statics := none }

def pool3 : Array CpInfo := pool [(1, u "java/lang/Cloneable"), (0, .class_ 1), (0, u "java/lang/Object"), (0, .class_ 3)] 3

/-- java/lang/Cloneable -/
def k3 : Class := { plain "java/lang/Cloneable" (some 0) with
  accessFlags := 1537
  interfaces := #[]
  cf := some (fileOf pool3 2 #[] #[] 1537 4 #[] #[])
  fields := #[]
  methods := #[]
  instanceTypes := #[]
  staticTypes := #[]
  resolved := Array.replicate 8 none
  statics := none }

def pool4 : Array CpInfo := pool [(1, u "java/io/Serializable"), (0, .class_ 1), (0, u "java/lang/Object"), (0, .class_ 3)] 3

/-- java/io/Serializable -/
def k4 : Class := { plain "java/io/Serializable" (some 0) with
  accessFlags := 1537
  interfaces := #[]
  cf := some (fileOf pool4 2 #[] #[] 1537 4 #[] #[])
  fields := #[]
  methods := #[]
  instanceTypes := #[]
  staticTypes := #[]
  resolved := Array.replicate 8 none
  statics := none }

/-- the primitive byte -/
def k5 : Class := { plain "byte" none with kind := .primitive 'B', accessFlags := 0x411 }
/-- [B -/
def k6 : Class := { plain "[B" (some 0) with kind := .array 5 .byte, interfaces := #[3, 4], accessFlags := 1041 }

/-- the primitive int -/
def k7 : Class := { plain "int" none with kind := .primitive 'I', accessFlags := 0x411 }
/-- [I -/
def k8 : Class := { plain "[I" (some 0) with kind := .array 7 .int, interfaces := #[3, 4], accessFlags := 1041 }

def heap : Heap := #[]
def classes : Array Class := #[k0, k1, k2, k3, k4, k5, k6, k7, k8]
def interned : List (Array UInt16 × Addr) := []
def slotsUsed : Nat := 0
def theMethod : MethodId := ⟨1, 2⟩
def args0 : Array Value := #[.long 5, .long 6, .int 7]
def aboutOver (below : List Frame) : State where
  vm := { classes := classes, interned := interned.toArray }
  heap := heap
  slotsUsed := slotsUsed
  threads := #[{ frames := .invoking theMethod args0 :: below }]
def below0 : List Frame := [.native { method := ⟨0, 0⟩, args := #[] }]
def about1 : State := aboutOver below0
def p0 : Program := .bare "" "" ""
def e0 : Env := launch0.env 0 0 0
theorem w_frames : about1.frames = Frame.invoking theMethod args0 :: below0 := rfl
set_option maxRecDepth 65536 in
theorem w_args : argsFit about1.vm theMethod args0 = true := by decide +kernel
set_option maxRecDepth 65536 in
theorem w_heap : heapFits about1 = true := by decide +kernel
set_option maxRecDepth 65536 in
theorem w_runnable : about1.curStatus? = some .runnable := by decide +kernel
set_option maxRecDepth 65536 in
theorem w_alone : about1.alone = true := by decide +kernel
set_option maxRecDepth 65536 in
theorem w_named : about1.methodNamed? x = some theMethod := by decide +kernel
set_option maxRecDepth 65536 in
theorem w_hears : about1.hears theMethod below0 = true := by decide +kernel
set_option maxRecDepth 65536 in
theorem w_ripe : about1.ripe theMethod args0 below0 = true := by decide +kernel
theorem w_running : about1.status = .running := rfl
set_option maxRecDepth 65536 in
theorem w_room : about1.hasRoom e0.platform room_1 = true :=
  launch0.hasRoom_least _ room_1 (by decide +kernel) (by decide +kernel) (by decide +kernel) (by decide +kernel) (by decide +kernel) (by decide +kernel)
theorem allAtoms_all (ts : List Jvm.Cond) (a : Array Jvm.Value) (st : Jvm.State) : (allAtoms ts).before a st = ts.all (fun c => c.before a st) := by
  induction ts with
  | nil => rfl
  | cons c t ih =>
    show (Jvm.Cond.and c (allAtoms t)).before a st = _
    rw [Jvm.Cond.before_and, ih, List.all_cons]
def words1 : List Jvm.Cond := Jvm.Cond.code x code maxLocals ret :: tables_1
/-- a 'code' word, met by the world's own term for the bytes: nothing is compared byte by byte -/
theorem code_word {y : MethodName} {bytes : ByteArray} {mx : Nat} {rt : Option FieldType} {a : Array Value} {s : State} {m : MethodId} {meth : Method} {c : Code} (h1 : s.methodNamed? y = some m) (h2 : s.vm.method? m = some meth) (h3 : meth.code = some c) (h4 : c.code = bytes)
    (h5 : (c.maxLocals == mx && c.exceptionTable.isEmpty && decide (c.maxStack ≤ mostOperands) && decide (meth.sig.returnType = rt) && !meth.locks && decide (parseMethodDescriptor y.desc = some meth.sig)) = true) : (Jvm.Cond.code y bytes mx rt).before a s = true := by
  simp only [Bool.and_eq_true, beq_iff_eq, Bool.not_eq_true', decide_eq_true_eq] at h5
  obtain ⟨⟨⟨⟨⟨g1, g2⟩, g3⟩, g4⟩, g5⟩, g6⟩ := h5
  simp [Cond.before, Cond.holds, Cond.value, h1, h2, h3, h4, g1, g2, g3, g4, g5, g6]
def isCode : Jvm.Cond → Bool
  | .code _ _ _ _ => true
  | _ => false
theorem all_split {L : List Jvm.Cond} {P : Jvm.Cond → Bool} (h1 : L.all (fun c => isCode c || P c) = true) (h2 : ∀ c ∈ L.filter isCode, P c = true) : L.all P = true := by
  refine List.all_eq_true.mpr fun c hc => ?_
  have h := List.all_eq_true.mp h1 c hc
  rcases Bool.eq_false_or_eq_true (isCode c) with hi | hi
  · exact h2 c (List.mem_filter.mpr ⟨hc, hi⟩)
  · simpa [hi] using h
set_option maxRecDepth 65536 in
theorem w_c0 : (Jvm.Cond.code x code maxLocals ret).before args0 about1 = true := code_word (m := ⟨1, 2⟩) (meth := k1m2) (c := k1c2) (by decide +kernel) rfl rfl rfl (by decide +kernel)
set_option maxRecDepth 65536 in
theorem w_c1 : (Jvm.Cond.code ({ cls := "com/example/refill/refill/core/Tokens", name := "product", desc := "(JJ)J" } : Jvm.MethodName) prog_14_method_3_code (6 : Nat) (Option.some Jvm.ClassFile.FieldType.long)).before args0 about1 = true := code_word (m := ⟨2, 1⟩) (meth := k2m1) (c := k2c1) (by decide +kernel) rfl rfl rfl (by decide +kernel)
set_option maxRecDepth 65536 in
theorem w_c2 : (Jvm.Cond.code ({ cls := "com/example/refill/refill/core/TokensProductPinLaw", name := "reference", desc := "(JJ)J" } : Jvm.MethodName) method_2_code (22 : Nat) (Option.some Jvm.ClassFile.FieldType.long)).before args0 about1 = true := code_word (m := ⟨1, 1⟩) (meth := k1m1) (c := k1c1) (by decide +kernel) rfl rfl rfl (by decide +kernel)
def codes1 : List Jvm.Cond := [Jvm.Cond.code x code maxLocals ret, Jvm.Cond.code ({ cls := "com/example/refill/refill/core/Tokens", name := "product", desc := "(JJ)J" } : Jvm.MethodName) prog_14_method_3_code (6 : Nat) (Option.some Jvm.ClassFile.FieldType.long), Jvm.Cond.code ({ cls := "com/example/refill/refill/core/TokensProductPinLaw", name := "reference", desc := "(JJ)J" } : Jvm.MethodName) method_2_code (22 : Nat) (Option.some Jvm.ClassFile.FieldType.long)]
set_option maxRecDepth 65536 in
theorem codes_eq : words1.filter isCode = codes1 := rfl
theorem w_codes : ∀ c ∈ words1.filter isCode, c.before args0 about1 = true := by
  rw [codes_eq]
  intro c hc
  simp only [codes1, List.mem_cons, List.not_mem_nil, or_false] at hc
  rcases hc with rfl | rfl | rfl
  · exact w_c0
  · exact w_c1
  · exact w_c2
set_option maxRecDepth 65536 in
theorem w_t1 : words1.all (fun c => isCode c || c.before args0 about1) = true := by decide +kernel
theorem w_tables : (allAtoms (Jvm.Cond.code x code maxLocals ret :: tables_1)).before args0 about1 = true := by
  rw [allAtoms_all]
  show words1.all (fun c => c.before args0 about1) = true
  refine all_split ?_ w_codes
  rw [w_t1]
set_option maxRecDepth 65536 in
theorem w_case : (Jvm.Cond.and given_1 narrow_1).before args0 about1 = true := by decide +kernel
theorem w_applies : (headSpec (Jvm.Cond.code x code maxLocals ret :: tables_1) room_1).applies x e0.platform about1 = true :=
  (Spec.applies_iff w_frames).mpr ⟨w_running, w_runnable, w_alone, w_named, w_hears, w_ripe, w_room, w_tables⟩
theorem atStart : AtStart classFile x code maxLocals ret World_1 tables_1 room_1 Calls_1 rest_1 Pre_1 launch0 p0 e0 about1 theMethod args0 below0 :=
  ⟨lists_1, trivial, launch0.admits_env _ _ _, launch0.least_env, fairChoices_fair.cas, fairChoices_fair.clock, w_frames, w_args, w_heap, w_applies, trivial, trivial, w_case⟩
end start1
theorem witness_1 : WitnessClaimed_1 := ⟨start1.p0, start1.e0, start1.about1, start1.theMethod, start1.args0, start1.below0, start1.atStart⟩
end Jvm.Pilot.@@N@@
