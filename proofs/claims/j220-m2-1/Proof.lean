import JvmDerived
import JvmDerived.Pilot.@@N@@Statement
import JvmDerived.Pilot.@@N@@Code
set_option linter.unusedVariables false
set_option linter.unusedSimpArgs false
set_option maxHeartbeats 40000000
set_option maxRecDepth 65536
namespace Jvm.RoadKit
open Sem ClassFile Op Lib Jvm.Stand Jvm.Free Jvm.LawKit
section New
variable {p : Program} {l : Launch} {e : Env} {R : Room} {s : State} {m : MethodId} {args : Array Value} {below : List Frame} {meth : Method} {c : Code} {T : State} {locs : List Loc} {cells slots : Nat}
theorem retI (X : Stand p l e R s m args below meth c T locs cells slots) (hx : p.tables.exec = Jvm.exec) {pc : Nat} {Ls : Array Slot} {z : Int32} {rest : List Value} (hret : meth.sig.returnType = some .int) (hd : decode c.code pc = .ok (.ireturn, 1)) {fs : List Frame}
    (hl : ∀ (f : JFrame) (acts : List Action), f.method = m → f.locked = none → f.entered = [] → (doReturn e (T.setTop f) acts (some (.int z))).1 = T.setFrames fs) : Steps p.tables e below (T.setTop (mkF m pc Ls (.int z :: rest))) (T.setFrames fs) := by
  have hm' : T.vm.method? m = some meth := X.method'
  have hn : narrow .int (.int z) = .int z := rfl
  show Steps p.tables e below (T.setTop { method := m, pc := pc, locals := Ls, stack := _ :: rest, locked := none }) _
  jvm_step X.here [X.here.top, hx, hd, hm', hret, hn]
  first | (intro acts; rw [hl _ acts rfl rfl rfl]) | rw [hl _ _ rfl rfl rfl]
  exact Steps.refl _
end New
end Jvm.RoadKit
namespace Jvm.Pilot.@@N@@
open Jvm Jvm.ClassFile Sem Op Lib Jvm.Free Jvm.Stand Jvm.LawKit Jvm.RoadKit Bundle Jvm.Pilot.@@N@@.Jvm.D
theorem d1_0 : decode method_2_code 0 = .ok (.iload_n 0, 1) := by decide +kernel
theorem d1_1 : decode method_2_code 1 = .ok (.iconst 3, 1) := by decide +kernel
theorem d1_2 : decode method_2_code 2 = .ok (.iand, 1) := by decide +kernel
theorem d1_3 : decode method_2_code 3 = .ok (.istore_n 1, 1) := by decide +kernel
theorem d1_4 : decode method_2_code 4 = .ok (.iload_n 1, 1) := by decide +kernel
theorem d1_5 : decode method_2_code 5 = .ok (.ifCond .ne 6, 3) := by decide +kernel
theorem d1_8 : decode method_2_code 8 = .ok (.bipush 13, 2) := by decide +kernel
theorem d1_10 : decode method_2_code 10 = .ok (.ireturn, 1) := by decide +kernel
theorem d1_11 : decode method_2_code 11 = .ok (.iload_n 1, 1) := by decide +kernel
theorem d1_12 : decode method_2_code 12 = .ok (.iconst 1, 1) := by decide +kernel
theorem d1_13 : decode method_2_code 13 = .ok (.if_icmp .ne 6, 3) := by decide +kernel
theorem d1_16 : decode method_2_code 16 = .ok (.bipush 10, 2) := by decide +kernel
theorem d1_18 : decode method_2_code 18 = .ok (.ireturn, 1) := by decide +kernel
theorem d1_19 : decode method_2_code 19 = .ok (.iload_n 0, 1) := by decide +kernel
theorem d1_20 : decode method_2_code 20 = .ok (.iconst 2, 1) := by decide +kernel
theorem d1_21 : decode method_2_code 21 = .ok (.iushr, 1) := by decide +kernel
theorem d1_22 : decode method_2_code 22 = .ok (.i2c, 1) := by decide +kernel
theorem d1_23 : decode method_2_code 23 = .ok (.ireturn, 1) := by decide +kernel
theorem pn_1 : plainName "com/example/saho/saho/load/LineCounterAdvancePinLaw" = true := by first | (simp [plainName, overriddenIn]; done) | decide +kernel
theorem ef_1 (m : MethodId) (i0 : Int32) : entryFrame m #[(.int i0)] 2 = mkF m 0 #[.val (.int i0), .unset] [] := by first | (simp [entryFrame, mkF, argsToLocals, Value.category]; done) | rfl
def own_f1_0 (i0 : Int32) : Int32 :=
  (if (i0 &&& (3 : Int32)) = (0 : Int32) then (13 : Int32) else (if (i0 &&& (3 : Int32)) = (1 : Int32) then (10 : Int32) else (nar .char (((i0.toUInt32 >>> ((2 : Int32) &&& 31).toUInt32).toInt32).toUInt32.toUInt16.toUInt32.toInt32))))
set_option maxRecDepth 65536 in
set_option maxHeartbeats 40000000 in
theorem own_b1_0 {p : Program} {l : Launch} {e : Env} {s : State} {m : MethodId} {args : Array Value} {below : List Frame} {meth : Method} {c : Code} {Z : State} {a0_ : Array Value} (hx : p.tables.exec = Jvm.exec) (hZ : Z.Warmed39 s.vm) (hw : ∀ d ∈ tables_1, d.before a0_ Z = true) (hby : c.code = method_2_code) (hml : c.maxLocals = 2) (hown : s.vm.findClass "com/example/saho/saho/load/LineCounterAdvancePinLaw" = some m.cls) (hret : meth.sig.returnType = some .char) {T0 : State} {locs : List Loc} {cells slots : Nat} {h0 : Heap} (i0 : Int32)
    (X0 : Stand p l e ({ frames := 0, cells := 0, slots := 0, locals := 0 } : Room) s m args below meth c T0 locs cells slots) (e0 : T0.heap = h0) (hcl : cells ≤ ({ frames := 0, cells := 0, slots := 0, locals := 0 } : Room).cells) (hsl : slots ≤ ({ frames := 0, cells := 0, slots := 0, locals := 0 } : Room).slots)  :
    ∃ T', Stand p l e ({ frames := 0, cells := 0, slots := 0, locals := 0 } : Room) s m args below meth c T' locs cells slots ∧ T'.heap = h0 ∧ ∀ fs, (∀ (f : JFrame) (acts : List Action), f.method = m → f.locked = none → f.entered = [] → (doReturn e (T'.setTop f) acts (some (.int (own_f1_0 i0)))).1 = T'.setFrames fs) → Steps p.tables e below (T0.setTop (mkF m 0 #[.val (.int i0), .unset] [])) (T'.setFrames fs) := by
  have pre1 : ∀ target, Steps p.tables e below (T0.setTop (mkF m 5 #[.val (.int i0), .val (.int (i0 &&& (3 : Int32)))] [(.int (i0 &&& (3 : Int32)))])) target → Steps p.tables e below (T0.setTop (mkF m 0 #[.val (.int i0), .unset] [])) target := by
    intro target kt
    show Steps p.tables e below (T0.setTop (mkF m 0 #[.val (.int i0), .unset] [])) _
    refine XS.iloadN X0.here hx rfl (hb hby d1_0) rfl ?_
    show Steps p.tables e below (T0.setTop (mkF m 1 #[.val (.int i0), .unset] [(.int i0)])) _
    refine XS.iconst X0.here hx rfl (hb hby d1_1) ?_
    show Steps p.tables e below (T0.setTop (mkF m 2 #[.val (.int i0), .unset] [(.int (3 : Int32)), (.int i0)])) _
    refine XS.iand X0.here hx rfl (hb hby d1_2) rfl ?_
    show Steps p.tables e below (T0.setTop (mkF m 3 #[.val (.int i0), .unset] [(.int (i0 &&& (3 : Int32)))])) _
    refine XS.istoreN X0.here hx rfl (hb hby d1_3) rfl (l' := #[.val (.int i0), .val (.int (i0 &&& (3 : Int32)))]) rfl ?_
    show Steps p.tables e below (T0.setTop (mkF m 4 #[.val (.int i0), .val (.int (i0 &&& (3 : Int32)))] [])) _
    refine XS.iloadN X0.here hx rfl (hb hby d1_4) rfl ?_
    exact kt
  by_cases hc5 : (i0 &&& (3 : Int32)) = (0 : Int32)
  · refine ⟨T0, X0, e0, fun fs hr => ?_⟩
    have hv : (own_f1_0 i0) = (13 : Int32) := by unfold own_f1_0; rw [if_pos hc5]
    rw [hv] at hr
    refine pre1 _ ?_
    show Steps p.tables e below (T0.setTop (mkF m 5 #[.val (.int i0), .val (.int (i0 &&& (3 : Int32)))] [(.int (i0 &&& (3 : Int32)))])) _
    refine XS.ifNo X0.here hx rfl (hb hby d1_5) rfl ((if0 _ _).trans (teq hc5).2) ?_
    show Steps p.tables e below (T0.setTop (mkF m 8 #[.val (.int i0), .val (.int (i0 &&& (3 : Int32)))] [])) _
    refine XS.bipush X0.here hx rfl (hb hby d1_8) ?_
    show Steps p.tables e below (T0.setTop (mkF m 10 #[.val (.int i0), .val (.int (i0 &&& (3 : Int32)))] [(.int (13 : Int32))])) _
    exact retN X0 hx (t := .char) hret (by simp) (hb hby d1_10) hr
  · have pre2 : ∀ target, Steps p.tables e below (T0.setTop (mkF m 13 #[.val (.int i0), .val (.int (i0 &&& (3 : Int32)))] [(.int (1 : Int32)), (.int (i0 &&& (3 : Int32)))])) target → Steps p.tables e below (T0.setTop (mkF m 0 #[.val (.int i0), .unset] [])) target := by
      intro target kt
      refine pre1 target ?_
      show Steps p.tables e below (T0.setTop (mkF m 5 #[.val (.int i0), .val (.int (i0 &&& (3 : Int32)))] [(.int (i0 &&& (3 : Int32)))])) _
      refine XS.ifYes X0.here hx rfl (pc0 := 5) (pc' := 11) rfl (hb hby d1_5) rfl ((if0 _ _).trans (feq hc5).2) (by decide) (by decide) ?_
      show Steps p.tables e below (T0.setTop (mkF m 11 #[.val (.int i0), .val (.int (i0 &&& (3 : Int32)))] [])) _
      refine XS.iloadN X0.here hx rfl (hb hby d1_11) rfl ?_
      show Steps p.tables e below (T0.setTop (mkF m 12 #[.val (.int i0), .val (.int (i0 &&& (3 : Int32)))] [(.int (i0 &&& (3 : Int32)))])) _
      refine XS.iconst X0.here hx rfl (hb hby d1_12) ?_
      exact kt
    by_cases hc13 : (i0 &&& (3 : Int32)) = (1 : Int32)
    · refine ⟨T0, X0, e0, fun fs hr => ?_⟩
      have hv : (own_f1_0 i0) = (10 : Int32) := by unfold own_f1_0; rw [if_neg hc5, if_pos hc13]
      rw [hv] at hr
      refine pre2 _ ?_
      show Steps p.tables e below (T0.setTop (mkF m 13 #[.val (.int i0), .val (.int (i0 &&& (3 : Int32)))] [(.int (1 : Int32)), (.int (i0 &&& (3 : Int32)))])) _
      refine XS.icmpNo X0.here hx rfl (hb hby d1_13) rfl (teq hc13).2 ?_
      show Steps p.tables e below (T0.setTop (mkF m 16 #[.val (.int i0), .val (.int (i0 &&& (3 : Int32)))] [])) _
      refine XS.bipush X0.here hx rfl (hb hby d1_16) ?_
      show Steps p.tables e below (T0.setTop (mkF m 18 #[.val (.int i0), .val (.int (i0 &&& (3 : Int32)))] [(.int (10 : Int32))])) _
      exact retN X0 hx (t := .char) hret (by simp) (hb hby d1_18) hr
    · refine ⟨T0, X0, e0, fun fs hr => ?_⟩
      have hv : (own_f1_0 i0) = (nar .char (((i0.toUInt32 >>> ((2 : Int32) &&& 31).toUInt32).toInt32).toUInt32.toUInt16.toUInt32.toInt32)) := by unfold own_f1_0; rw [if_neg hc5, if_neg hc13]
      rw [hv] at hr
      refine pre2 _ ?_
      show Steps p.tables e below (T0.setTop (mkF m 13 #[.val (.int i0), .val (.int (i0 &&& (3 : Int32)))] [(.int (1 : Int32)), (.int (i0 &&& (3 : Int32)))])) _
      refine XS.icmpYes X0.here hx rfl (pc0 := 13) (pc' := 19) rfl (hb hby d1_13) rfl (feq hc13).2 (by decide) (by decide) ?_
      show Steps p.tables e below (T0.setTop (mkF m 19 #[.val (.int i0), .val (.int (i0 &&& (3 : Int32)))] [])) _
      refine XS.iloadN X0.here hx rfl (hb hby d1_19) rfl ?_
      show Steps p.tables e below (T0.setTop (mkF m 20 #[.val (.int i0), .val (.int (i0 &&& (3 : Int32)))] [(.int i0)])) _
      refine XS.iconst X0.here hx rfl (hb hby d1_20) ?_
      show Steps p.tables e below (T0.setTop (mkF m 21 #[.val (.int i0), .val (.int (i0 &&& (3 : Int32)))] [(.int (2 : Int32)), (.int i0)])) _
      refine XS.iushr X0.here hx rfl (hb hby d1_21) rfl ?_
      show Steps p.tables e below (T0.setTop (mkF m 22 #[.val (.int i0), .val (.int (i0 &&& (3 : Int32)))] [(.int ((i0.toUInt32 >>> ((2 : Int32) &&& 31).toUInt32).toInt32))])) _
      refine XS.i2c X0.here hx rfl (hb hby d1_22) rfl ?_
      show Steps p.tables e below (T0.setTop (mkF m 23 #[.val (.int i0), .val (.int (i0 &&& (3 : Int32)))] [(.int (((i0.toUInt32 >>> ((2 : Int32) &&& 31).toUInt32).toInt32).toUInt32.toUInt16.toUInt32.toInt32))])) _
      exact retN X0 hx (t := .char) hret (by simp) (hb hby d1_23) hr
def Q1 (Z : State) (i0 : Int32) (h0 : Heap) (n0 : Nat) (v : Option Value) (h : Heap) (L : List Loc) : Prop := v = some (.int (own_f1_0 i0)) ∧ L = [] ∧ h = h0
set_option maxRecDepth 65536 in
set_option maxHeartbeats 40000000 in
theorem rm1 (l : Launch) (Z : State) (a0_ : Array Value) (hw : ∀ d ∈ tables_1, d.before a0_ Z = true) (ws : List Jvm.Cond) (i0 : Int32) (h0 : Heap) (n0 : Nat) (Z0 : n0 ≤ h0.size)  :
    MetFree l (⟨"com/example/saho/saho/load/LineCounterAdvancePinLaw", "pick", "(I)C"⟩ : MethodName) (head1 (Jvm.Cond.code (⟨"com/example/saho/saho/load/LineCounterAdvancePinLaw", "pick", "(I)C"⟩ : MethodName) method_2_code 2 (some .char) :: ws) ({ frames := 0, cells := 0, slots := 0, locals := 0 } : Room)) (fun a U => a = #[(.int i0)] ∧ Z.Warmed39 U.vm ∧ U.heap = h0) (fun _ _ _ _ _ => True) (fun _ U o U' => ∃ v L, o = .returned v ∧ Q1 Z i0 h0 n0 v U'.heap L ∧ FrameEnd U o U' L ({ frames := 0, cells := 0, slots := 0, locals := 0 } : Room).cells ({ frames := 0, cells := 0, slots := 0, locals := 0 } : Room).slots) := by
  refine MetFree.of_bodySF (plainFor_of_name pn_1) hisR ?_
  intro p e s m args below meth c s₁ Bd hml0 hP hK
  obtain ⟨rfl, hZ, hh⟩ := hP
  have hx := Bd.exec
  have hby := Bd.bytes
  have hml : c.maxLocals = 2 := hml0
  have hown : s.vm.findClass "com/example/saho/saho/load/LineCounterAdvancePinLaw" = some m.cls := findClass_of_methodNamed Bd.named
  have X0 : Stand p l e ({ frames := 0, cells := 0, slots := 0, locals := 0 } : Room) s m #[(.int i0)] below meth c s₁ [] 0 0 := Stand.of_body Bd
  have e0 : s₁.heap = h0 := by rw [← hh, Bd.state]; rfl
  obtain ⟨T', X', e', st'⟩ := own_b1_0 hx hZ hw hby hml hown Bd.returns  i0 X0 e0 (by decide) (by decide) 
  obtain ⟨fs, hr, hrun, hended, hW, hsame⟩ := X'.leave (v := some (.int (own_f1_0 i0))) (fun h => by rw [Bd.returns] at h; cases h)
  refine ⟨_, _, castTop (ef_1 m i0) (st' fs hr), hrun, hended, _, _, rfl, ?_, ⟨_, rfl⟩, hW, hsame.mono (by decide) (by decide)⟩
  exact ⟨rfl, rfl, e'⟩
theorem d2_0 : decode prog_21_method_1_code 0 = .ok (.aload_n 0, 1) := by decide +kernel
theorem d2_1 : decode prog_21_method_1_code 1 = .ok (.invokespecial 1, 3) := by decide +kernel
theorem d2_4 : decode prog_21_method_1_code 4 = .ok (.aload_n 0, 1) := by decide +kernel
theorem d2_5 : decode prog_21_method_1_code 5 = .ok (.iconst 1, 1) := by decide +kernel
theorem d2_6 : decode prog_21_method_1_code 6 = .ok (.putfield 7, 3) := by decide +kernel
theorem d2_9 : decode prog_21_method_1_code 9 = .ok (.return_, 1) := by decide +kernel
theorem pn_2 : plainName "com/example/saho/saho/load/LineCounter" = true := by first | (simp [plainName, overriddenIn]; done) | decide +kernel
theorem ef_2 (m : MethodId) (a0 : Addr) : entryFrame m #[(.ref a0)] 1 = mkF m 0 #[.val (.ref a0)] [] := by first | (simp [entryFrame, mkF, argsToLocals, Value.category]; done) | rfl
def own_o2_line (w_line : Int32) (w_column : Int32) (w_afterCarriageReturn : Int32) : Int32 :=
  (1 : Int32)
set_option maxRecDepth 65536 in
set_option maxHeartbeats 40000000 in
theorem own_b2_0 {p : Program} {l : Launch} {e : Env} {s : State} {m : MethodId} {args : Array Value} {below : List Frame} {meth : Method} {c : Code} {Z : State} {a0_ : Array Value} {n0 : Nat} (hx : p.tables.exec = Jvm.exec) (hZ : Z.Warmed39 s.vm) (hw : ∀ d ∈ tables_1, d.before a0_ Z = true) (hby : c.code = prog_21_method_1_code) (hml : c.maxLocals = 1) (hown : s.vm.findClass "com/example/saho/saho/load/LineCounter" = some m.cls) (hret : meth.sig.returnType = none) (hnm : meth.name = "<init>") {T0 : State} {locs : List Loc} {h0 : Heap} (a0 : Addr) (w_line : Int32) (w_column : Int32) (w_afterCarriageReturn : Int32)
    (X0 : Stand p l e ({ frames := 1, cells := 0, slots := 0, locals := 12 } : Room) s m args below meth c T0 locs 0 0) (e0 : T0.heap = h0) (N0 : Fr n0 locs) (Z0 : n0 ≤ h0.size) (E_a0 : Exa Z h0 a0 "com/example/saho/saho/load/LineCounter") (g_a0 : n0 ≤ a0) (F_line_a0 : Fld Z h0 a0 "com/example/saho/saho/load/LineCounter" "line" "I" (.int w_line)) (F_column_a0 : Fld Z h0 a0 "com/example/saho/saho/load/LineCounter" "column" "I" (.int w_column)) (F_afterCarriageReturn_a0 : Fld Z h0 a0 "com/example/saho/saho/load/LineCounter" "afterCarriageReturn" "Z" (.int w_afterCarriageReturn)) :
    ∃ T' h' locs', Stand p l e ({ frames := 1, cells := 0, slots := 0, locals := 12 } : Room) s m args below meth c T' locs' 0 0 ∧ T'.heap = h' ∧ Fr n0 locs' ∧ Keep h0 h' [a0] ∧ Exa Z h' a0 "com/example/saho/saho/load/LineCounter" ∧ Fld Z h' a0 "com/example/saho/saho/load/LineCounter" "line" "I" (.int (own_o2_line w_line w_column w_afterCarriageReturn)) ∧ Fld Z h' a0 "com/example/saho/saho/load/LineCounter" "column" "I" (.int w_column) ∧ Fld Z h' a0 "com/example/saho/saho/load/LineCounter" "afterCarriageReturn" "Z" (.int w_afterCarriageReturn) ∧ ∀ fs, (∀ (f : JFrame) (acts : List Action), f.method = m → f.locked = none → f.entered = [] → (doReturn e (T'.setTop f) acts (none)).1 = T'.setFrames fs) → Steps p.tables e below (T0.setTop (mkF m 0 #[.val (.ref a0)] [])) (T'.setFrames fs) := by
  obtain ⟨T1, X1, e1, st1⟩ := initO X0 hx hZ hown (hw _ (List.mem_of_getElem? (i := 11) rfl)) (hw _ (List.mem_of_getElem? (i := 12) rfl)) (hw _ (List.mem_of_getElem? (i := 13) rfl)) e0 (g := (mkF m 1 #[.val (.ref a0)] [(.ref a0)])) rfl (by rw [hml]; rfl) rfl (hb hby d2_1) (by decide) (W := 0) (by show 2 * 0 + _ ≤ _; exact Nat.le_of_eq rfl) (by decide)
  obtain ⟨T2, h2, X2, e2, W2, st2⟩ := putF X1 hx hZ hown (host := "") (Or.inl (hw _ (List.mem_of_getElem? (i := 14) rfl))) Via.refl e1 F_line_a0 E_a0 (Or.inl (hw _ (List.mem_of_getElem? (i := 15) rfl))) (hw _ (List.mem_of_getElem? (i := 6) rfl)) (ty := .int) (by decide) rfl rfl (g := (mkF m 6 #[.val (.ref a0)] [(.int (1 : Int32)), (.ref a0)])) rfl rfl (hb hby d2_6)
  have N2 := Fr.snoc X2 N0 g_a0
  have Z2 : n0 ≤ h2.size := Nat.le_trans Z0 (Keep.of_wr W2).1
  have K2 : Keep h0 h2 [a0] := (Keep.refl h0 [a0]).wr W2 (Or.inl (List.mem_of_getElem? (i := 0) rfl))
  have E_a0_k2 := E_a0.wr W2
  have F_line_a0_k2 := F_line_a0.same W2
  have F_column_a0_k2 := F_column_a0.other W2 (Or.inr (slot_ne (Or.inl (hw _ (List.mem_of_getElem? (i := 22) rfl))) (Or.inl (hw _ (List.mem_of_getElem? (i := 15) rfl))) (by decide) (t := .int) (t' := .int) (by decide) (by decide)))
  have F_afterCarriageReturn_a0_k2 := F_afterCarriageReturn_a0.other W2 (Or.inr (slot_ne (Or.inl (hw _ (List.mem_of_getElem? (i := 24) rfl))) (Or.inl (hw _ (List.mem_of_getElem? (i := 15) rfl))) (by decide) (t := .boolean) (t' := .int) (by decide) (by decide)))
  have ho_line : (own_o2_line w_line w_column w_afterCarriageReturn) = (1 : Int32) := by unfold own_o2_line; rfl
  refine ⟨T2, _, _, X2, e2, N2, K2, E_a0_k2, (by rw [ho_line]; exact F_line_a0_k2), F_column_a0_k2, F_afterCarriageReturn_a0_k2, fun fs hr => ?_⟩
  show Steps p.tables e below (T0.setTop (mkF m 0 #[.val (.ref a0)] [])) _
  refine XS.aloadN X0.here hx rfl (hb hby d2_0) rfl rfl ?_
  show Steps p.tables e below (T0.setTop (mkF m 1 #[.val (.ref a0)] [(.ref a0)])) _
  refine st1 _ ?_
  show Steps p.tables e below (T1.setTop (mkF m 4 #[.val (.ref a0)] [])) _
  refine XS.aloadN X1.here hx rfl (hb hby d2_4) rfl rfl ?_
  show Steps p.tables e below (T1.setTop (mkF m 5 #[.val (.ref a0)] [(.ref a0)])) _
  refine XS.iconst X1.here hx rfl (hb hby d2_5) ?_
  show Steps p.tables e below (T1.setTop (mkF m 6 #[.val (.ref a0)] [(.int (1 : Int32)), (.ref a0)])) _
  refine st2 _ ?_
  show Steps p.tables e below (T2.setTop (mkF m 9 #[.val (.ref a0)] [])) _
  exact X2.returnOut hx hret (hb hby d2_9) hr
def Q2 (Z : State) (a0 : Addr) (w_line : Int32) (w_column : Int32) (w_afterCarriageReturn : Int32) (h0 : Heap) (n0 : Nat) (v : Option Value) (h : Heap) (L : List Loc) : Prop := v = none ∧ Fr n0 L ∧ Keep h0 h [a0] ∧ Exa Z h a0 "com/example/saho/saho/load/LineCounter" ∧ Fld Z h a0 "com/example/saho/saho/load/LineCounter" "line" "I" (.int (own_o2_line w_line w_column w_afterCarriageReturn)) ∧ Fld Z h a0 "com/example/saho/saho/load/LineCounter" "column" "I" (.int w_column) ∧ Fld Z h a0 "com/example/saho/saho/load/LineCounter" "afterCarriageReturn" "Z" (.int w_afterCarriageReturn)
set_option maxRecDepth 65536 in
set_option maxHeartbeats 40000000 in
theorem rm2 (l : Launch) (Z : State) (a0_ : Array Value) (hw : ∀ d ∈ tables_1, d.before a0_ Z = true) (ws : List Jvm.Cond) (a0 : Addr) (w_line : Int32) (w_column : Int32) (w_afterCarriageReturn : Int32) (h0 : Heap) (n0 : Nat) (Z0 : n0 ≤ h0.size) (E_a0 : Exa Z h0 a0 "com/example/saho/saho/load/LineCounter") (g_a0 : n0 ≤ a0) (F_line_a0 : Fld Z h0 a0 "com/example/saho/saho/load/LineCounter" "line" "I" (.int w_line)) (F_column_a0 : Fld Z h0 a0 "com/example/saho/saho/load/LineCounter" "column" "I" (.int w_column)) (F_afterCarriageReturn_a0 : Fld Z h0 a0 "com/example/saho/saho/load/LineCounter" "afterCarriageReturn" "Z" (.int w_afterCarriageReturn)) :
    MetFree l (⟨"com/example/saho/saho/load/LineCounter", "<init>", "()V"⟩ : MethodName) (head1 (Jvm.Cond.code (⟨"com/example/saho/saho/load/LineCounter", "<init>", "()V"⟩ : MethodName) prog_21_method_1_code 1 none :: ws) ({ frames := 1, cells := 0, slots := 0, locals := 12 } : Room)) (fun a U => a = #[(.ref a0)] ∧ Z.Warmed39 U.vm ∧ U.heap = h0) (fun _ _ _ _ _ => True) (fun _ U o U' => ∃ v L, o = .returned v ∧ Q2 Z a0 w_line w_column w_afterCarriageReturn h0 n0 v U'.heap L ∧ FrameEnd U o U' L ({ frames := 1, cells := 0, slots := 0, locals := 12 } : Room).cells ({ frames := 1, cells := 0, slots := 0, locals := 12 } : Room).slots) := by
  refine MetFree.of_bodySF (plainFor_of_name pn_2) hisR ?_
  intro p e s m args below meth c s₁ Bd hml0 hP hK
  obtain ⟨rfl, hZ, hh⟩ := hP
  have hx := Bd.exec
  have hby := Bd.bytes
  have hml : c.maxLocals = 1 := hml0
  have hown : s.vm.findClass "com/example/saho/saho/load/LineCounter" = some m.cls := findClass_of_methodNamed Bd.named
  have X0 : Stand p l e ({ frames := 1, cells := 0, slots := 0, locals := 12 } : Room) s m #[(.ref a0)] below meth c s₁ [] 0 0 := Stand.of_body Bd
  have e0 : s₁.heap = h0 := by rw [← hh, Bd.state]; rfl
  have hnm := (name_of_methodNamed Bd.named Bd.method).1
  obtain ⟨T', h', L', X', e', N', K', G0', G1', G2', G3', st'⟩ := own_b2_0 hx hZ hw hby hml hown Bd.returns hnm a0 w_line w_column w_afterCarriageReturn X0 e0 (Fr.nil n0) Z0 E_a0 g_a0 F_line_a0 F_column_a0 F_afterCarriageReturn_a0
  obtain ⟨fs, hr, hrun, hended, hW, hsame⟩ := X'.leave (v := none) (fun _ => rfl)
  refine ⟨_, _, castTop (ef_2 m a0) (st' fs hr), hrun, hended, _, _, rfl, ?_, ⟨_, rfl⟩, hW, hsame.mono (by decide) (by decide)⟩
  subst e'
  exact ⟨rfl, N', K', G0', G1', G2', G3'⟩
theorem d4_0 : decode prog_21_method_5_code 0 = .ok (.aload_n 0, 1) := by decide +kernel
theorem d4_1 : decode prog_21_method_5_code 1 = .ok (.dup, 1) := by decide +kernel
theorem d4_2 : decode prog_21_method_5_code 2 = .ok (.getfield 14, 3) := by decide +kernel
theorem d4_5 : decode prog_21_method_5_code 5 = .ok (.iload_n 1, 1) := by decide +kernel
theorem d4_6 : decode prog_21_method_5_code 6 = .ok (.iadd, 1) := by decide +kernel
theorem d4_7 : decode prog_21_method_5_code 7 = .ok (.putfield 14, 3) := by decide +kernel
theorem d4_10 : decode prog_21_method_5_code 10 = .ok (.aload_n 0, 1) := by decide +kernel
theorem d4_11 : decode prog_21_method_5_code 11 = .ok (.iconst 0, 1) := by decide +kernel
theorem d4_12 : decode prog_21_method_5_code 12 = .ok (.putfield 17, 3) := by decide +kernel
theorem d4_15 : decode prog_21_method_5_code 15 = .ok (.return_, 1) := by decide +kernel
theorem pn_4 : plainName "com/example/saho/saho/load/LineCounter" = true := by first | (simp [plainName, overriddenIn]; done) | decide +kernel
theorem ef_4 (m : MethodId) (a0 : Addr) (i1 : Int32) : entryFrame m #[(.ref a0), (.int i1)] 2 = mkF m 0 #[.val (.ref a0), .val (.int i1)] [] := by first | (simp [entryFrame, mkF, argsToLocals, Value.category]; done) | rfl
def own_o4_column (i1 : Int32) (w_line : Int32) (w_column : Int32) (w_afterCarriageReturn : Int32) : Int32 :=
  (w_column + i1)
def own_o4_afterCarriageReturn (i1 : Int32) (w_line : Int32) (w_column : Int32) (w_afterCarriageReturn : Int32) : Int32 :=
  (0 : Int32)
set_option maxRecDepth 65536 in
set_option maxHeartbeats 40000000 in
theorem own_b4_0 {p : Program} {l : Launch} {e : Env} {s : State} {m : MethodId} {args : Array Value} {below : List Frame} {meth : Method} {c : Code} {Z : State} {a0_ : Array Value} {n0 : Nat} (hx : p.tables.exec = Jvm.exec) (hZ : Z.Warmed39 s.vm) (hw : ∀ d ∈ tables_1, d.before a0_ Z = true) (hby : c.code = prog_21_method_5_code) (hml : c.maxLocals = 2) (hown : s.vm.findClass "com/example/saho/saho/load/LineCounter" = some m.cls) (hret : meth.sig.returnType = none) {T0 : State} {locs : List Loc} {h0 : Heap} (a0 : Addr) (i1 : Int32) (w_line : Int32) (w_column : Int32) (w_afterCarriageReturn : Int32)
    (X0 : Stand p l e ({ frames := 0, cells := 0, slots := 0, locals := 0 } : Room) s m args below meth c T0 locs 0 0) (e0 : T0.heap = h0) (N0 : Fr n0 locs) (Z0 : n0 ≤ h0.size) (E_a0 : Exa Z h0 a0 "com/example/saho/saho/load/LineCounter") (g_a0 : n0 ≤ a0) (F_line_a0 : Fld Z h0 a0 "com/example/saho/saho/load/LineCounter" "line" "I" (.int w_line)) (F_column_a0 : Fld Z h0 a0 "com/example/saho/saho/load/LineCounter" "column" "I" (.int w_column)) (F_afterCarriageReturn_a0 : Fld Z h0 a0 "com/example/saho/saho/load/LineCounter" "afterCarriageReturn" "Z" (.int w_afterCarriageReturn)) :
    ∃ T' h' locs', Stand p l e ({ frames := 0, cells := 0, slots := 0, locals := 0 } : Room) s m args below meth c T' locs' 0 0 ∧ T'.heap = h' ∧ Fr n0 locs' ∧ Keep h0 h' [a0] ∧ Exa Z h' a0 "com/example/saho/saho/load/LineCounter" ∧ Fld Z h' a0 "com/example/saho/saho/load/LineCounter" "line" "I" (.int w_line) ∧ Fld Z h' a0 "com/example/saho/saho/load/LineCounter" "column" "I" (.int (own_o4_column i1 w_line w_column w_afterCarriageReturn)) ∧ Fld Z h' a0 "com/example/saho/saho/load/LineCounter" "afterCarriageReturn" "Z" (.int (own_o4_afterCarriageReturn i1 w_line w_column w_afterCarriageReturn)) ∧ ∀ fs, (∀ (f : JFrame) (acts : List Action), f.method = m → f.locked = none → f.entered = [] → (doReturn e (T'.setTop f) acts (none)).1 = T'.setFrames fs) → Steps p.tables e below (T0.setTop (mkF m 0 #[.val (.ref a0), .val (.int i1)] [])) (T'.setFrames fs) := by
  obtain ⟨T1, X1, e1, st1⟩ := getF X0 hx hZ hown (host := "") (Or.inl (hw _ (List.mem_of_getElem? (i := 21) rfl))) Via.refl e0 F_column_a0 (g := (mkF m 2 #[.val (.ref a0), .val (.int i1)] [(.ref a0), (.ref a0)])) rfl rfl (hb hby d4_2)
  obtain ⟨T2, h2, X2, e2, W2, st2⟩ := putF X1 hx hZ hown (host := "") (Or.inl (hw _ (List.mem_of_getElem? (i := 21) rfl))) Via.refl e1 F_column_a0 E_a0 (Or.inl (hw _ (List.mem_of_getElem? (i := 22) rfl))) (hw _ (List.mem_of_getElem? (i := 6) rfl)) (ty := .int) (by decide) rfl rfl (g := (mkF m 7 #[.val (.ref a0), .val (.int i1)] [(.int (w_column + i1)), (.ref a0)])) rfl rfl (hb hby d4_7)
  have N2 := Fr.snoc X2 N0 g_a0
  have Z2 : n0 ≤ h2.size := Nat.le_trans Z0 (Keep.of_wr W2).1
  have K2 : Keep h0 h2 [a0] := (Keep.refl h0 [a0]).wr W2 (Or.inl (List.mem_of_getElem? (i := 0) rfl))
  have E_a0_k2 := E_a0.wr W2
  have F_line_a0_k2 := F_line_a0.other W2 (Or.inr (slot_ne (Or.inl (hw _ (List.mem_of_getElem? (i := 15) rfl))) (Or.inl (hw _ (List.mem_of_getElem? (i := 22) rfl))) (by decide) (t := .int) (t' := .int) (by decide) (by decide)))
  have F_column_a0_k2 := F_column_a0.same W2
  have F_afterCarriageReturn_a0_k2 := F_afterCarriageReturn_a0.other W2 (Or.inr (slot_ne (Or.inl (hw _ (List.mem_of_getElem? (i := 24) rfl))) (Or.inl (hw _ (List.mem_of_getElem? (i := 22) rfl))) (by decide) (t := .boolean) (t' := .int) (by decide) (by decide)))
  obtain ⟨T3, h3, X3, e3, W3, st3⟩ := putFN X2 hx hZ hown (hw _ (List.mem_of_getElem? (i := 23) rfl)) Via.refl e2 F_afterCarriageReturn_a0_k2 E_a0_k2 (Or.inl (hw _ (List.mem_of_getElem? (i := 24) rfl))) (hw _ (List.mem_of_getElem? (i := 6) rfl)) (ty := .boolean) (v' := (.int (0 : Int32))) (by decide) rfl rfl (g := (mkF m 12 #[.val (.ref a0), .val (.int i1)] [(.int (0 : Int32)), (.ref a0)])) rfl rfl (hb hby d4_12)
  have N3 := Fr.snoc X3 N2 g_a0
  have Z3 : n0 ≤ h3.size := Nat.le_trans Z2 (Keep.of_wr W3).1
  have K3 : Keep h0 h3 [a0] := K2.wr W3 (Or.inl (List.mem_of_getElem? (i := 0) rfl))
  have E_a0_k3 := E_a0_k2.wr W3
  have F_line_a0_k3 := F_line_a0_k2.other W3 (Or.inr (slot_ne (Or.inl (hw _ (List.mem_of_getElem? (i := 15) rfl))) (Or.inl (hw _ (List.mem_of_getElem? (i := 24) rfl))) (by decide) (t := .int) (t' := .boolean) (by decide) (by decide)))
  have F_column_a0_k3 := F_column_a0_k2.other W3 (Or.inr (slot_ne (Or.inl (hw _ (List.mem_of_getElem? (i := 22) rfl))) (Or.inl (hw _ (List.mem_of_getElem? (i := 24) rfl))) (by decide) (t := .int) (t' := .boolean) (by decide) (by decide)))
  have F_afterCarriageReturn_a0_k3 := F_afterCarriageReturn_a0_k2.same W3
  have ho_column : (own_o4_column i1 w_line w_column w_afterCarriageReturn) = (w_column + i1) := by unfold own_o4_column; rfl
  have ho_afterCarriageReturn : (own_o4_afterCarriageReturn i1 w_line w_column w_afterCarriageReturn) = (0 : Int32) := by unfold own_o4_afterCarriageReturn; rfl
  refine ⟨T3, _, _, X3, e3, N3, K3, E_a0_k3, F_line_a0_k3, (by rw [ho_column]; exact F_column_a0_k3), (by rw [ho_afterCarriageReturn]; exact F_afterCarriageReturn_a0_k3), fun fs hr => ?_⟩
  show Steps p.tables e below (T0.setTop (mkF m 0 #[.val (.ref a0), .val (.int i1)] [])) _
  refine XS.aloadN X0.here hx rfl (hb hby d4_0) rfl rfl ?_
  show Steps p.tables e below (T0.setTop (mkF m 1 #[.val (.ref a0), .val (.int i1)] [(.ref a0)])) _
  refine XS.dup X0.here hx rfl (hb hby d4_1) rfl rfl ?_
  show Steps p.tables e below (T0.setTop (mkF m 2 #[.val (.ref a0), .val (.int i1)] [(.ref a0), (.ref a0)])) _
  refine st1 _ ?_
  show Steps p.tables e below (T1.setTop (mkF m 5 #[.val (.ref a0), .val (.int i1)] [(.int w_column), (.ref a0)])) _
  refine XS.iloadN X1.here hx rfl (hb hby d4_5) rfl ?_
  show Steps p.tables e below (T1.setTop (mkF m 6 #[.val (.ref a0), .val (.int i1)] [(.int i1), (.int w_column), (.ref a0)])) _
  refine XS.iadd X1.here hx rfl (hb hby d4_6) rfl ?_
  show Steps p.tables e below (T1.setTop (mkF m 7 #[.val (.ref a0), .val (.int i1)] [(.int (w_column + i1)), (.ref a0)])) _
  refine st2 _ ?_
  show Steps p.tables e below (T2.setTop (mkF m 10 #[.val (.ref a0), .val (.int i1)] [])) _
  refine XS.aloadN X2.here hx rfl (hb hby d4_10) rfl rfl ?_
  show Steps p.tables e below (T2.setTop (mkF m 11 #[.val (.ref a0), .val (.int i1)] [(.ref a0)])) _
  refine XS.iconst X2.here hx rfl (hb hby d4_11) ?_
  show Steps p.tables e below (T2.setTop (mkF m 12 #[.val (.ref a0), .val (.int i1)] [(.int (0 : Int32)), (.ref a0)])) _
  refine st3 _ ?_
  show Steps p.tables e below (T3.setTop (mkF m 15 #[.val (.ref a0), .val (.int i1)] [])) _
  exact X3.returnOut hx hret (hb hby d4_15) hr
def Q4 (Z : State) (a0 : Addr) (i1 : Int32) (w_line : Int32) (w_column : Int32) (w_afterCarriageReturn : Int32) (h0 : Heap) (n0 : Nat) (v : Option Value) (h : Heap) (L : List Loc) : Prop := v = none ∧ Fr n0 L ∧ Keep h0 h [a0] ∧ Exa Z h a0 "com/example/saho/saho/load/LineCounter" ∧ Fld Z h a0 "com/example/saho/saho/load/LineCounter" "line" "I" (.int w_line) ∧ Fld Z h a0 "com/example/saho/saho/load/LineCounter" "column" "I" (.int (own_o4_column i1 w_line w_column w_afterCarriageReturn)) ∧ Fld Z h a0 "com/example/saho/saho/load/LineCounter" "afterCarriageReturn" "Z" (.int (own_o4_afterCarriageReturn i1 w_line w_column w_afterCarriageReturn))
set_option maxRecDepth 65536 in
set_option maxHeartbeats 40000000 in
theorem rm4 (l : Launch) (Z : State) (a0_ : Array Value) (hw : ∀ d ∈ tables_1, d.before a0_ Z = true) (ws : List Jvm.Cond) (a0 : Addr) (i1 : Int32) (w_line : Int32) (w_column : Int32) (w_afterCarriageReturn : Int32) (h0 : Heap) (n0 : Nat) (Z0 : n0 ≤ h0.size) (E_a0 : Exa Z h0 a0 "com/example/saho/saho/load/LineCounter") (g_a0 : n0 ≤ a0) (F_line_a0 : Fld Z h0 a0 "com/example/saho/saho/load/LineCounter" "line" "I" (.int w_line)) (F_column_a0 : Fld Z h0 a0 "com/example/saho/saho/load/LineCounter" "column" "I" (.int w_column)) (F_afterCarriageReturn_a0 : Fld Z h0 a0 "com/example/saho/saho/load/LineCounter" "afterCarriageReturn" "Z" (.int w_afterCarriageReturn)) :
    MetFree l (⟨"com/example/saho/saho/load/LineCounter", "advanceWithinLine", "(I)V"⟩ : MethodName) (head1 (Jvm.Cond.code (⟨"com/example/saho/saho/load/LineCounter", "advanceWithinLine", "(I)V"⟩ : MethodName) prog_21_method_5_code 2 none :: ws) ({ frames := 0, cells := 0, slots := 0, locals := 0 } : Room)) (fun a U => a = #[(.ref a0), (.int i1)] ∧ Z.Warmed39 U.vm ∧ U.heap = h0) (fun _ _ _ _ _ => True) (fun _ U o U' => ∃ v L, o = .returned v ∧ Q4 Z a0 i1 w_line w_column w_afterCarriageReturn h0 n0 v U'.heap L ∧ FrameEnd U o U' L ({ frames := 0, cells := 0, slots := 0, locals := 0 } : Room).cells ({ frames := 0, cells := 0, slots := 0, locals := 0 } : Room).slots) := by
  refine MetFree.of_bodySF (plainFor_of_name pn_4) hisR ?_
  intro p e s m args below meth c s₁ Bd hml0 hP hK
  obtain ⟨rfl, hZ, hh⟩ := hP
  have hx := Bd.exec
  have hby := Bd.bytes
  have hml : c.maxLocals = 2 := hml0
  have hown : s.vm.findClass "com/example/saho/saho/load/LineCounter" = some m.cls := findClass_of_methodNamed Bd.named
  have X0 : Stand p l e ({ frames := 0, cells := 0, slots := 0, locals := 0 } : Room) s m #[(.ref a0), (.int i1)] below meth c s₁ [] 0 0 := Stand.of_body Bd
  have e0 : s₁.heap = h0 := by rw [← hh, Bd.state]; rfl
  obtain ⟨T', h', L', X', e', N', K', G0', G1', G2', G3', st'⟩ := own_b4_0 hx hZ hw hby hml hown Bd.returns  a0 i1 w_line w_column w_afterCarriageReturn X0 e0 (Fr.nil n0) Z0 E_a0 g_a0 F_line_a0 F_column_a0 F_afterCarriageReturn_a0
  obtain ⟨fs, hr, hrun, hended, hW, hsame⟩ := X'.leave (v := none) (fun _ => rfl)
  refine ⟨_, _, castTop (ef_4 m a0 i1) (st' fs hr), hrun, hended, _, _, rfl, ?_, ⟨_, rfl⟩, hW, hsame.mono (by decide) (by decide)⟩
  subst e'
  exact ⟨rfl, N', K', G0', G1', G2', G3'⟩
theorem d5_0 : decode method_4_code 0 = .ok (.iload_n 0, 1) := by decide +kernel
theorem d5_1 : decode method_4_code 1 = .ok (.bipush 13, 2) := by decide +kernel
theorem d5_3 : decode method_4_code 3 = .ok (.if_icmp .eq 9, 3) := by decide +kernel
theorem d5_6 : decode method_4_code 6 = .ok (.iload_n 0, 1) := by decide +kernel
theorem d5_7 : decode method_4_code 7 = .ok (.bipush 10, 2) := by decide +kernel
theorem d5_9 : decode method_4_code 9 = .ok (.if_icmp .ne 7, 3) := by decide +kernel
theorem d5_12 : decode method_4_code 12 = .ok (.iconst 1, 1) := by decide +kernel
theorem d5_13 : decode method_4_code 13 = .ok (.goto 4, 3) := by decide +kernel
theorem d5_16 : decode method_4_code 16 = .ok (.iconst 0, 1) := by decide +kernel
theorem d5_17 : decode method_4_code 17 = .ok (.ireturn, 1) := by decide +kernel
theorem pn_5 : plainName "com/example/saho/saho/load/LineCounterAdvancePinLaw" = true := by first | (simp [plainName, overriddenIn]; done) | decide +kernel
theorem ef_5 (m : MethodId) (i0 : Int32) : entryFrame m #[(.int i0)] 1 = mkF m 0 #[.val (.int i0)] [] := by first | (simp [entryFrame, mkF, argsToLocals, Value.category]; done) | rfl
def own_f5_0 (i0 : Int32) : Int32 :=
  (if i0 = (13 : Int32) then (1 : Int32) else (if i0 = (10 : Int32) then (1 : Int32) else (0 : Int32)))
set_option maxRecDepth 65536 in
set_option maxHeartbeats 40000000 in
theorem own_b5_0 {p : Program} {l : Launch} {e : Env} {s : State} {m : MethodId} {args : Array Value} {below : List Frame} {meth : Method} {c : Code} {Z : State} {a0_ : Array Value} (hx : p.tables.exec = Jvm.exec) (hZ : Z.Warmed39 s.vm) (hw : ∀ d ∈ tables_1, d.before a0_ Z = true) (hby : c.code = method_4_code) (hml : c.maxLocals = 1) (hown : s.vm.findClass "com/example/saho/saho/load/LineCounterAdvancePinLaw" = some m.cls) (hret : meth.sig.returnType = some .boolean) {T0 : State} {locs : List Loc} {cells slots : Nat} {h0 : Heap} (i0 : Int32)
    (X0 : Stand p l e ({ frames := 0, cells := 0, slots := 0, locals := 0 } : Room) s m args below meth c T0 locs cells slots) (e0 : T0.heap = h0) (hcl : cells ≤ ({ frames := 0, cells := 0, slots := 0, locals := 0 } : Room).cells) (hsl : slots ≤ ({ frames := 0, cells := 0, slots := 0, locals := 0 } : Room).slots)  :
    ∃ T', Stand p l e ({ frames := 0, cells := 0, slots := 0, locals := 0 } : Room) s m args below meth c T' locs cells slots ∧ T'.heap = h0 ∧ ∀ fs, (∀ (f : JFrame) (acts : List Action), f.method = m → f.locked = none → f.entered = [] → (doReturn e (T'.setTop f) acts (some (.int (own_f5_0 i0)))).1 = T'.setFrames fs) → Steps p.tables e below (T0.setTop (mkF m 0 #[.val (.int i0)] [])) (T'.setFrames fs) := by
  have pre1 : ∀ target, Steps p.tables e below (T0.setTop (mkF m 3 #[.val (.int i0)] [(.int (13 : Int32)), (.int i0)])) target → Steps p.tables e below (T0.setTop (mkF m 0 #[.val (.int i0)] [])) target := by
    intro target kt
    show Steps p.tables e below (T0.setTop (mkF m 0 #[.val (.int i0)] [])) _
    refine XS.iloadN X0.here hx rfl (hb hby d5_0) rfl ?_
    show Steps p.tables e below (T0.setTop (mkF m 1 #[.val (.int i0)] [(.int i0)])) _
    refine XS.bipush X0.here hx rfl (hb hby d5_1) ?_
    exact kt
  by_cases hc3 : i0 = (13 : Int32)
  · refine ⟨T0, X0, e0, fun fs hr => ?_⟩
    have hv : (own_f5_0 i0) = (1 : Int32) := by unfold own_f5_0; rw [if_pos hc3]
    rw [hv] at hr
    refine pre1 _ ?_
    show Steps p.tables e below (T0.setTop (mkF m 3 #[.val (.int i0)] [(.int (13 : Int32)), (.int i0)])) _
    refine XS.icmpYes X0.here hx rfl (pc0 := 3) (pc' := 12) rfl (hb hby d5_3) rfl (teq hc3).1 (by decide) (by decide) ?_
    show Steps p.tables e below (T0.setTop (mkF m 12 #[.val (.int i0)] [])) _
    refine XS.iconst X0.here hx rfl (hb hby d5_12) ?_
    show Steps p.tables e below (T0.setTop (mkF m 13 #[.val (.int i0)] [(.int (1 : Int32))])) _
    refine XS.goto X0.here hx rfl (pc0 := 13) (pc' := 17) rfl (hb hby d5_13) (by decide) (by decide) ?_
    show Steps p.tables e below (T0.setTop (mkF m 17 #[.val (.int i0)] [(.int (1 : Int32))])) _
    exact retN X0 hx (t := .boolean) hret (by simp) (hb hby d5_17) hr
  · have pre2 : ∀ target, Steps p.tables e below (T0.setTop (mkF m 9 #[.val (.int i0)] [(.int (10 : Int32)), (.int i0)])) target → Steps p.tables e below (T0.setTop (mkF m 0 #[.val (.int i0)] [])) target := by
      intro target kt
      refine pre1 target ?_
      show Steps p.tables e below (T0.setTop (mkF m 3 #[.val (.int i0)] [(.int (13 : Int32)), (.int i0)])) _
      refine XS.icmpNo X0.here hx rfl (hb hby d5_3) rfl (feq hc3).1 ?_
      show Steps p.tables e below (T0.setTop (mkF m 6 #[.val (.int i0)] [])) _
      refine XS.iloadN X0.here hx rfl (hb hby d5_6) rfl ?_
      show Steps p.tables e below (T0.setTop (mkF m 7 #[.val (.int i0)] [(.int i0)])) _
      refine XS.bipush X0.here hx rfl (hb hby d5_7) ?_
      exact kt
    by_cases hc9 : i0 = (10 : Int32)
    · refine ⟨T0, X0, e0, fun fs hr => ?_⟩
      have hv : (own_f5_0 i0) = (1 : Int32) := by unfold own_f5_0; rw [if_neg hc3, if_pos hc9]
      rw [hv] at hr
      refine pre2 _ ?_
      show Steps p.tables e below (T0.setTop (mkF m 9 #[.val (.int i0)] [(.int (10 : Int32)), (.int i0)])) _
      refine XS.icmpNo X0.here hx rfl (hb hby d5_9) rfl (teq hc9).2 ?_
      show Steps p.tables e below (T0.setTop (mkF m 12 #[.val (.int i0)] [])) _
      refine XS.iconst X0.here hx rfl (hb hby d5_12) ?_
      show Steps p.tables e below (T0.setTop (mkF m 13 #[.val (.int i0)] [(.int (1 : Int32))])) _
      refine XS.goto X0.here hx rfl (pc0 := 13) (pc' := 17) rfl (hb hby d5_13) (by decide) (by decide) ?_
      show Steps p.tables e below (T0.setTop (mkF m 17 #[.val (.int i0)] [(.int (1 : Int32))])) _
      exact retN X0 hx (t := .boolean) hret (by simp) (hb hby d5_17) hr
    · refine ⟨T0, X0, e0, fun fs hr => ?_⟩
      have hv : (own_f5_0 i0) = (0 : Int32) := by unfold own_f5_0; rw [if_neg hc3, if_neg hc9]
      rw [hv] at hr
      refine pre2 _ ?_
      show Steps p.tables e below (T0.setTop (mkF m 9 #[.val (.int i0)] [(.int (10 : Int32)), (.int i0)])) _
      refine XS.icmpYes X0.here hx rfl (pc0 := 9) (pc' := 16) rfl (hb hby d5_9) rfl (feq hc9).2 (by decide) (by decide) ?_
      show Steps p.tables e below (T0.setTop (mkF m 16 #[.val (.int i0)] [])) _
      refine XS.iconst X0.here hx rfl (hb hby d5_16) ?_
      show Steps p.tables e below (T0.setTop (mkF m 17 #[.val (.int i0)] [(.int (0 : Int32))])) _
      exact retN X0 hx (t := .boolean) hret (by simp) (hb hby d5_17) hr
def Q5 (Z : State) (i0 : Int32) (h0 : Heap) (n0 : Nat) (v : Option Value) (h : Heap) (L : List Loc) : Prop := v = some (.int (own_f5_0 i0)) ∧ L = [] ∧ h = h0
set_option maxRecDepth 65536 in
set_option maxHeartbeats 40000000 in
theorem rm5 (l : Launch) (Z : State) (a0_ : Array Value) (hw : ∀ d ∈ tables_1, d.before a0_ Z = true) (ws : List Jvm.Cond) (i0 : Int32) (h0 : Heap) (n0 : Nat) (Z0 : n0 ≤ h0.size)  :
    MetFree l (⟨"com/example/saho/saho/load/LineCounterAdvancePinLaw", "nl", "(C)Z"⟩ : MethodName) (head1 (Jvm.Cond.code (⟨"com/example/saho/saho/load/LineCounterAdvancePinLaw", "nl", "(C)Z"⟩ : MethodName) method_4_code 1 (some .boolean) :: ws) ({ frames := 0, cells := 0, slots := 0, locals := 0 } : Room)) (fun a U => a = #[(.int i0)] ∧ Z.Warmed39 U.vm ∧ U.heap = h0) (fun _ _ _ _ _ => True) (fun _ U o U' => ∃ v L, o = .returned v ∧ Q5 Z i0 h0 n0 v U'.heap L ∧ FrameEnd U o U' L ({ frames := 0, cells := 0, slots := 0, locals := 0 } : Room).cells ({ frames := 0, cells := 0, slots := 0, locals := 0 } : Room).slots) := by
  refine MetFree.of_bodySF (plainFor_of_name pn_5) hisR ?_
  intro p e s m args below meth c s₁ Bd hml0 hP hK
  obtain ⟨rfl, hZ, hh⟩ := hP
  have hx := Bd.exec
  have hby := Bd.bytes
  have hml : c.maxLocals = 1 := hml0
  have hown : s.vm.findClass "com/example/saho/saho/load/LineCounterAdvancePinLaw" = some m.cls := findClass_of_methodNamed Bd.named
  have X0 : Stand p l e ({ frames := 0, cells := 0, slots := 0, locals := 0 } : Room) s m #[(.int i0)] below meth c s₁ [] 0 0 := Stand.of_body Bd
  have e0 : s₁.heap = h0 := by rw [← hh, Bd.state]; rfl
  obtain ⟨T', X', e', st'⟩ := own_b5_0 hx hZ hw hby hml hown Bd.returns  i0 X0 e0 (by decide) (by decide) 
  obtain ⟨fs, hr, hrun, hended, hW, hsame⟩ := X'.leave (v := some (.int (own_f5_0 i0))) (fun h => by rw [Bd.returns] at h; cases h)
  refine ⟨_, _, castTop (ef_5 m i0) (st' fs hr), hrun, hended, _, _, rfl, ?_, ⟨_, rfl⟩, hW, hsame.mono (by decide) (by decide)⟩
  exact ⟨rfl, rfl, e'⟩
theorem d10_0 : decode method_3_code 0 = .ok (.iload_n 0, 1) := by decide +kernel
theorem d10_1 : decode method_3_code 1 = .ok (.bipush 13, 2) := by decide +kernel
theorem d10_3 : decode method_3_code 3 = .ok (.if_icmp .ne 7, 3) := by decide +kernel
theorem d10_6 : decode method_3_code 6 = .ok (.iconst 1, 1) := by decide +kernel
theorem d10_7 : decode method_3_code 7 = .ok (.goto 4, 3) := by decide +kernel
theorem d10_10 : decode method_3_code 10 = .ok (.iconst 0, 1) := by decide +kernel
theorem d10_11 : decode method_3_code 11 = .ok (.ireturn, 1) := by decide +kernel
theorem pn_10 : plainName "com/example/saho/saho/load/LineCounterAdvancePinLaw" = true := by first | (simp [plainName, overriddenIn]; done) | decide +kernel
theorem ef_10 (m : MethodId) (i0 : Int32) : entryFrame m #[(.int i0)] 1 = mkF m 0 #[.val (.int i0)] [] := by first | (simp [entryFrame, mkF, argsToLocals, Value.category]; done) | rfl
def own_f10_0 (i0 : Int32) : Int32 :=
  (if i0 = (13 : Int32) then (1 : Int32) else (0 : Int32))
set_option maxRecDepth 65536 in
set_option maxHeartbeats 40000000 in
theorem own_b10_0 {p : Program} {l : Launch} {e : Env} {s : State} {m : MethodId} {args : Array Value} {below : List Frame} {meth : Method} {c : Code} {Z : State} {a0_ : Array Value} (hx : p.tables.exec = Jvm.exec) (hZ : Z.Warmed39 s.vm) (hw : ∀ d ∈ tables_1, d.before a0_ Z = true) (hby : c.code = method_3_code) (hml : c.maxLocals = 1) (hown : s.vm.findClass "com/example/saho/saho/load/LineCounterAdvancePinLaw" = some m.cls) (hret : meth.sig.returnType = some .boolean) {T0 : State} {locs : List Loc} {cells slots : Nat} {h0 : Heap} (i0 : Int32)
    (X0 : Stand p l e ({ frames := 0, cells := 0, slots := 0, locals := 0 } : Room) s m args below meth c T0 locs cells slots) (e0 : T0.heap = h0) (hcl : cells ≤ ({ frames := 0, cells := 0, slots := 0, locals := 0 } : Room).cells) (hsl : slots ≤ ({ frames := 0, cells := 0, slots := 0, locals := 0 } : Room).slots)  :
    ∃ T', Stand p l e ({ frames := 0, cells := 0, slots := 0, locals := 0 } : Room) s m args below meth c T' locs cells slots ∧ T'.heap = h0 ∧ ∀ fs, (∀ (f : JFrame) (acts : List Action), f.method = m → f.locked = none → f.entered = [] → (doReturn e (T'.setTop f) acts (some (.int (own_f10_0 i0)))).1 = T'.setFrames fs) → Steps p.tables e below (T0.setTop (mkF m 0 #[.val (.int i0)] [])) (T'.setFrames fs) := by
  have pre1 : ∀ target, Steps p.tables e below (T0.setTop (mkF m 3 #[.val (.int i0)] [(.int (13 : Int32)), (.int i0)])) target → Steps p.tables e below (T0.setTop (mkF m 0 #[.val (.int i0)] [])) target := by
    intro target kt
    show Steps p.tables e below (T0.setTop (mkF m 0 #[.val (.int i0)] [])) _
    refine XS.iloadN X0.here hx rfl (hb hby d10_0) rfl ?_
    show Steps p.tables e below (T0.setTop (mkF m 1 #[.val (.int i0)] [(.int i0)])) _
    refine XS.bipush X0.here hx rfl (hb hby d10_1) ?_
    exact kt
  by_cases hc3 : i0 = (13 : Int32)
  · refine ⟨T0, X0, e0, fun fs hr => ?_⟩
    have hv : (own_f10_0 i0) = (1 : Int32) := by unfold own_f10_0; rw [if_pos hc3]
    rw [hv] at hr
    refine pre1 _ ?_
    show Steps p.tables e below (T0.setTop (mkF m 3 #[.val (.int i0)] [(.int (13 : Int32)), (.int i0)])) _
    refine XS.icmpNo X0.here hx rfl (hb hby d10_3) rfl (teq hc3).2 ?_
    show Steps p.tables e below (T0.setTop (mkF m 6 #[.val (.int i0)] [])) _
    refine XS.iconst X0.here hx rfl (hb hby d10_6) ?_
    show Steps p.tables e below (T0.setTop (mkF m 7 #[.val (.int i0)] [(.int (1 : Int32))])) _
    refine XS.goto X0.here hx rfl (pc0 := 7) (pc' := 11) rfl (hb hby d10_7) (by decide) (by decide) ?_
    show Steps p.tables e below (T0.setTop (mkF m 11 #[.val (.int i0)] [(.int (1 : Int32))])) _
    exact retN X0 hx (t := .boolean) hret (by simp) (hb hby d10_11) hr
  · refine ⟨T0, X0, e0, fun fs hr => ?_⟩
    have hv : (own_f10_0 i0) = (0 : Int32) := by unfold own_f10_0; rw [if_neg hc3]
    rw [hv] at hr
    refine pre1 _ ?_
    show Steps p.tables e below (T0.setTop (mkF m 3 #[.val (.int i0)] [(.int (13 : Int32)), (.int i0)])) _
    refine XS.icmpYes X0.here hx rfl (pc0 := 3) (pc' := 10) rfl (hb hby d10_3) rfl (feq hc3).2 (by decide) (by decide) ?_
    show Steps p.tables e below (T0.setTop (mkF m 10 #[.val (.int i0)] [])) _
    refine XS.iconst X0.here hx rfl (hb hby d10_10) ?_
    show Steps p.tables e below (T0.setTop (mkF m 11 #[.val (.int i0)] [(.int (0 : Int32))])) _
    exact retN X0 hx (t := .boolean) hret (by simp) (hb hby d10_11) hr
def Q10 (Z : State) (i0 : Int32) (h0 : Heap) (n0 : Nat) (v : Option Value) (h : Heap) (L : List Loc) : Prop := v = some (.int (own_f10_0 i0)) ∧ L = [] ∧ h = h0
set_option maxRecDepth 65536 in
set_option maxHeartbeats 40000000 in
theorem rm10 (l : Launch) (Z : State) (a0_ : Array Value) (hw : ∀ d ∈ tables_1, d.before a0_ Z = true) (ws : List Jvm.Cond) (i0 : Int32) (h0 : Heap) (n0 : Nat) (Z0 : n0 ≤ h0.size)  :
    MetFree l (⟨"com/example/saho/saho/load/LineCounterAdvancePinLaw", "cr", "(C)Z"⟩ : MethodName) (head1 (Jvm.Cond.code (⟨"com/example/saho/saho/load/LineCounterAdvancePinLaw", "cr", "(C)Z"⟩ : MethodName) method_3_code 1 (some .boolean) :: ws) ({ frames := 0, cells := 0, slots := 0, locals := 0 } : Room)) (fun a U => a = #[(.int i0)] ∧ Z.Warmed39 U.vm ∧ U.heap = h0) (fun _ _ _ _ _ => True) (fun _ U o U' => ∃ v L, o = .returned v ∧ Q10 Z i0 h0 n0 v U'.heap L ∧ FrameEnd U o U' L ({ frames := 0, cells := 0, slots := 0, locals := 0 } : Room).cells ({ frames := 0, cells := 0, slots := 0, locals := 0 } : Room).slots) := by
  refine MetFree.of_bodySF (plainFor_of_name pn_10) hisR ?_
  intro p e s m args below meth c s₁ Bd hml0 hP hK
  obtain ⟨rfl, hZ, hh⟩ := hP
  have hx := Bd.exec
  have hby := Bd.bytes
  have hml : c.maxLocals = 1 := hml0
  have hown : s.vm.findClass "com/example/saho/saho/load/LineCounterAdvancePinLaw" = some m.cls := findClass_of_methodNamed Bd.named
  have X0 : Stand p l e ({ frames := 0, cells := 0, slots := 0, locals := 0 } : Room) s m #[(.int i0)] below meth c s₁ [] 0 0 := Stand.of_body Bd
  have e0 : s₁.heap = h0 := by rw [← hh, Bd.state]; rfl
  obtain ⟨T', X', e', st'⟩ := own_b10_0 hx hZ hw hby hml hown Bd.returns  i0 X0 e0 (by decide) (by decide) 
  obtain ⟨fs, hr, hrun, hended, hW, hsame⟩ := X'.leave (v := some (.int (own_f10_0 i0))) (fun h => by rw [Bd.returns] at h; cases h)
  refine ⟨_, _, castTop (ef_10 m i0) (st' fs hr), hrun, hended, _, _, rfl, ?_, ⟨_, rfl⟩, hW, hsame.mono (by decide) (by decide)⟩
  exact ⟨rfl, rfl, e'⟩
theorem d6_0 : decode method_5_code 0 = .ok (.iload_n 1, 1) := by decide +kernel
theorem d6_1 : decode method_5_code 1 = .ok (.bipush 13, 2) := by decide +kernel
theorem d6_3 : decode method_5_code 3 = .ok (.if_icmp .ne 5, 3) := by decide +kernel
theorem d6_6 : decode method_5_code 6 = .ok (.iconst 1, 1) := by decide +kernel
theorem d6_7 : decode method_5_code 7 = .ok (.ireturn, 1) := by decide +kernel
theorem d6_8 : decode method_5_code 8 = .ok (.iload_n 1, 1) := by decide +kernel
theorem d6_9 : decode method_5_code 9 = .ok (.bipush 10, 2) := by decide +kernel
theorem d6_11 : decode method_5_code 11 = .ok (.if_icmp .ne 12, 3) := by decide +kernel
theorem d6_14 : decode method_5_code 14 = .ok (.iload_n 0, 1) := by decide +kernel
theorem d6_15 : decode method_5_code 15 = .ok (.invokestatic 7, 3) := by decide +kernel
theorem d6_18 : decode method_5_code 18 = .ok (.ifCond .ne 5, 3) := by decide +kernel
theorem d6_21 : decode method_5_code 21 = .ok (.iconst 1, 1) := by decide +kernel
theorem d6_22 : decode method_5_code 22 = .ok (.ireturn, 1) := by decide +kernel
theorem d6_23 : decode method_5_code 23 = .ok (.iconst 0, 1) := by decide +kernel
theorem d6_24 : decode method_5_code 24 = .ok (.ireturn, 1) := by decide +kernel
theorem pn_6 : plainName "com/example/saho/saho/load/LineCounterAdvancePinLaw" = true := by first | (simp [plainName, overriddenIn]; done) | decide +kernel
theorem pd_6_0 : parseMethodDescriptor "(C)Z" = some ⟨[.char], some .boolean⟩ := by decide +kernel
theorem ef_6 (m : MethodId) (i0 : Int32) (i1 : Int32) : entryFrame m #[(.int i0), (.int i1)] 2 = mkF m 0 #[.val (.int i0), .val (.int i1)] [] := by first | (simp [entryFrame, mkF, argsToLocals, Value.category]; done) | rfl
def own_f6_0 (i0 : Int32) (i1 : Int32) : Int32 :=
  (if i1 = (13 : Int32) then (1 : Int32) else (if i1 = (10 : Int32) then (if (own_f10_0 i0) = (0 : Int32) then (1 : Int32) else (0 : Int32)) else (0 : Int32)))
set_option maxRecDepth 65536 in
set_option maxHeartbeats 40000000 in
theorem own_b6_0 {p : Program} {l : Launch} {e : Env} {s : State} {m : MethodId} {args : Array Value} {below : List Frame} {meth : Method} {c : Code} {Z : State} {a0_ : Array Value} (hx : p.tables.exec = Jvm.exec) (hZ : Z.Warmed39 s.vm) (hw : ∀ d ∈ tables_1, d.before a0_ Z = true) (hby : c.code = method_5_code) (hml : c.maxLocals = 2) (hown : s.vm.findClass "com/example/saho/saho/load/LineCounterAdvancePinLaw" = some m.cls) (hret : meth.sig.returnType = some .int) {T0 : State} {locs : List Loc} {cells slots : Nat} {h0 : Heap} (i0 : Int32) (i1 : Int32)
    (X0 : Stand p l e ({ frames := 1, cells := 0, slots := 0, locals := 12 } : Room) s m args below meth c T0 locs cells slots) (e0 : T0.heap = h0) (hcl : cells ≤ ({ frames := 1, cells := 0, slots := 0, locals := 12 } : Room).cells) (hsl : slots ≤ ({ frames := 1, cells := 0, slots := 0, locals := 12 } : Room).slots)  :
    ∃ T', Stand p l e ({ frames := 1, cells := 0, slots := 0, locals := 12 } : Room) s m args below meth c T' locs cells slots ∧ T'.heap = h0 ∧ ∀ fs, (∀ (f : JFrame) (acts : List Action), f.method = m → f.locked = none → f.entered = [] → (doReturn e (T'.setTop f) acts (some (.int (own_f6_0 i0 i1)))).1 = T'.setFrames fs) → Steps p.tables e below (T0.setTop (mkF m 0 #[.val (.int i0), .val (.int i1)] [])) (T'.setFrames fs) := by
  have pre1 : ∀ target, Steps p.tables e below (T0.setTop (mkF m 3 #[.val (.int i0), .val (.int i1)] [(.int (13 : Int32)), (.int i1)])) target → Steps p.tables e below (T0.setTop (mkF m 0 #[.val (.int i0), .val (.int i1)] [])) target := by
    intro target kt
    show Steps p.tables e below (T0.setTop (mkF m 0 #[.val (.int i0), .val (.int i1)] [])) _
    refine XS.iloadN X0.here hx rfl (hb hby d6_0) rfl ?_
    show Steps p.tables e below (T0.setTop (mkF m 1 #[.val (.int i0), .val (.int i1)] [(.int i1)])) _
    refine XS.bipush X0.here hx rfl (hb hby d6_1) ?_
    exact kt
  by_cases hc3 : i1 = (13 : Int32)
  · refine ⟨T0, X0, e0, fun fs hr => ?_⟩
    have hv : (own_f6_0 i0 i1) = (1 : Int32) := by unfold own_f6_0; rw [if_pos hc3]
    rw [hv] at hr
    refine pre1 _ ?_
    show Steps p.tables e below (T0.setTop (mkF m 3 #[.val (.int i0), .val (.int i1)] [(.int (13 : Int32)), (.int i1)])) _
    refine XS.icmpNo X0.here hx rfl (hb hby d6_3) rfl (teq hc3).2 ?_
    show Steps p.tables e below (T0.setTop (mkF m 6 #[.val (.int i0), .val (.int i1)] [])) _
    refine XS.iconst X0.here hx rfl (hb hby d6_6) ?_
    show Steps p.tables e below (T0.setTop (mkF m 7 #[.val (.int i0), .val (.int i1)] [(.int (1 : Int32))])) _
    exact retI X0 hx hret (hb hby d6_7) hr
  · have pre2 : ∀ target, Steps p.tables e below (T0.setTop (mkF m 11 #[.val (.int i0), .val (.int i1)] [(.int (10 : Int32)), (.int i1)])) target → Steps p.tables e below (T0.setTop (mkF m 0 #[.val (.int i0), .val (.int i1)] [])) target := by
      intro target kt
      refine pre1 target ?_
      show Steps p.tables e below (T0.setTop (mkF m 3 #[.val (.int i0), .val (.int i1)] [(.int (13 : Int32)), (.int i1)])) _
      refine XS.icmpYes X0.here hx rfl (pc0 := 3) (pc' := 8) rfl (hb hby d6_3) rfl (feq hc3).2 (by decide) (by decide) ?_
      show Steps p.tables e below (T0.setTop (mkF m 8 #[.val (.int i0), .val (.int i1)] [])) _
      refine XS.iloadN X0.here hx rfl (hb hby d6_8) rfl ?_
      show Steps p.tables e below (T0.setTop (mkF m 9 #[.val (.int i0), .val (.int i1)] [(.int i1)])) _
      refine XS.bipush X0.here hx rfl (hb hby d6_9) ?_
      exact kt
    by_cases hc11 : i1 = (10 : Int32)
    · obtain ⟨_, _, ⟨T3, L3, k3, n3⟩, -, X3, ⟨Lc3, hQ3, l3, y3, z3⟩, st3⟩ := Jvm.LawKit.callS X0 hx (y := (⟨"com/example/saho/saho/load/LineCounterAdvancePinLaw", "cr", "(C)Z"⟩ : MethodName)) hown (mvT hZ (hw _ (List.mem_of_getElem? (i := 46) rfl))) (mvT hZ (hw _ (List.mem_of_getElem? (i := 47) rfl))) (mvT hZ (hw _ (List.mem_of_getElem? (i := 2) rfl))) (mvT hZ (hw _ (List.mem_of_getElem? (i := 48) rfl))) (by decide) (backOf (W := 0) (rm10 l Z a0_ hw [] i0  h0 0 (Nat.zero_le _) ) hZ (hw _ (List.mem_of_getElem? (i := 48) rfl)) (hw _ (List.mem_of_getElem? (i := 2) rfl)) (by decide) (by decide)) (g := (mkF m 15 #[.val (.int i0), .val (.int i1)] [(.int i0)])) rfl (by rw [hml]; rfl) (argsL := [(.int i0)]) (rest := []) (lenOf pd_6_0 rfl) rfl (by show 2 * 0 + _ ≤ _; exact Nat.le_of_eq rfl) (hb hby d6_15) (fun _ _ => ⟨rfl, e0, hcl, hsl⟩)
      dsimp only [Pt.U, Pt.locs, Pt.cells, Pt.slots] at X3 l3 y3 z3 st3 hQ3
      subst l3 y3 z3
      obtain ⟨rfl, rfl, e3⟩ := hQ3
      rw [List.append_nil] at X3
      have pre4 : ∀ target, Steps p.tables e below (T3.setTop (mkF m 18 #[.val (.int i0), .val (.int i1)] [(.int (own_f10_0 i0))])) target → Steps p.tables e below (T0.setTop (mkF m 0 #[.val (.int i0), .val (.int i1)] [])) target := by
        intro target kt
        refine pre2 target ?_
        show Steps p.tables e below (T0.setTop (mkF m 11 #[.val (.int i0), .val (.int i1)] [(.int (10 : Int32)), (.int i1)])) _
        refine XS.icmpNo X0.here hx rfl (hb hby d6_11) rfl (teq hc11).2 ?_
        show Steps p.tables e below (T0.setTop (mkF m 14 #[.val (.int i0), .val (.int i1)] [])) _
        refine XS.iloadN X0.here hx rfl (hb hby d6_14) rfl ?_
        show Steps p.tables e below (T0.setTop (mkF m 15 #[.val (.int i0), .val (.int i1)] [(.int i0)])) _
        refine st3 _ ?_
        exact kt
      by_cases hc18 : (own_f10_0 i0) = (0 : Int32)
      · refine ⟨T3, X3, e3, fun fs hr => ?_⟩
        have hv : (own_f6_0 i0 i1) = (1 : Int32) := by unfold own_f6_0; rw [if_neg hc3, if_pos hc11, if_pos hc18]
        rw [hv] at hr
        refine pre4 _ ?_
        show Steps p.tables e below (T3.setTop (mkF m 18 #[.val (.int i0), .val (.int i1)] [(.int (own_f10_0 i0))])) _
        refine XS.ifNo X3.here hx rfl (hb hby d6_18) rfl ((if0 _ _).trans (teq hc18).2) ?_
        show Steps p.tables e below (T3.setTop (mkF m 21 #[.val (.int i0), .val (.int i1)] [])) _
        refine XS.iconst X3.here hx rfl (hb hby d6_21) ?_
        show Steps p.tables e below (T3.setTop (mkF m 22 #[.val (.int i0), .val (.int i1)] [(.int (1 : Int32))])) _
        exact retI X3 hx hret (hb hby d6_22) hr
      · refine ⟨T3, X3, e3, fun fs hr => ?_⟩
        have hv : (own_f6_0 i0 i1) = (0 : Int32) := by unfold own_f6_0; rw [if_neg hc3, if_pos hc11, if_neg hc18]
        rw [hv] at hr
        refine pre4 _ ?_
        show Steps p.tables e below (T3.setTop (mkF m 18 #[.val (.int i0), .val (.int i1)] [(.int (own_f10_0 i0))])) _
        refine XS.ifYes X3.here hx rfl (pc0 := 18) (pc' := 23) rfl (hb hby d6_18) rfl ((if0 _ _).trans (feq hc18).2) (by decide) (by decide) ?_
        show Steps p.tables e below (T3.setTop (mkF m 23 #[.val (.int i0), .val (.int i1)] [])) _
        refine XS.iconst X3.here hx rfl (hb hby d6_23) ?_
        show Steps p.tables e below (T3.setTop (mkF m 24 #[.val (.int i0), .val (.int i1)] [(.int (0 : Int32))])) _
        exact retI X3 hx hret (hb hby d6_24) hr
    · refine ⟨T0, X0, e0, fun fs hr => ?_⟩
      have hv : (own_f6_0 i0 i1) = (0 : Int32) := by unfold own_f6_0; rw [if_neg hc3, if_neg hc11]
      rw [hv] at hr
      refine pre2 _ ?_
      show Steps p.tables e below (T0.setTop (mkF m 11 #[.val (.int i0), .val (.int i1)] [(.int (10 : Int32)), (.int i1)])) _
      refine XS.icmpYes X0.here hx rfl (pc0 := 11) (pc' := 23) rfl (hb hby d6_11) rfl (feq hc11).2 (by decide) (by decide) ?_
      show Steps p.tables e below (T0.setTop (mkF m 23 #[.val (.int i0), .val (.int i1)] [])) _
      refine XS.iconst X0.here hx rfl (hb hby d6_23) ?_
      show Steps p.tables e below (T0.setTop (mkF m 24 #[.val (.int i0), .val (.int i1)] [(.int (0 : Int32))])) _
      exact retI X0 hx hret (hb hby d6_24) hr
def Q6 (Z : State) (i0 : Int32) (i1 : Int32) (h0 : Heap) (n0 : Nat) (v : Option Value) (h : Heap) (L : List Loc) : Prop := v = some (.int (own_f6_0 i0 i1)) ∧ L = [] ∧ h = h0
set_option maxRecDepth 65536 in
set_option maxHeartbeats 40000000 in
theorem rm6 (l : Launch) (Z : State) (a0_ : Array Value) (hw : ∀ d ∈ tables_1, d.before a0_ Z = true) (ws : List Jvm.Cond) (i0 : Int32) (i1 : Int32) (h0 : Heap) (n0 : Nat) (Z0 : n0 ≤ h0.size)  :
    MetFree l (⟨"com/example/saho/saho/load/LineCounterAdvancePinLaw", "ends", "(CC)I"⟩ : MethodName) (head1 (Jvm.Cond.code (⟨"com/example/saho/saho/load/LineCounterAdvancePinLaw", "ends", "(CC)I"⟩ : MethodName) method_5_code 2 (some .int) :: ws) ({ frames := 1, cells := 0, slots := 0, locals := 12 } : Room)) (fun a U => a = #[(.int i0), (.int i1)] ∧ Z.Warmed39 U.vm ∧ U.heap = h0) (fun _ _ _ _ _ => True) (fun _ U o U' => ∃ v L, o = .returned v ∧ Q6 Z i0 i1 h0 n0 v U'.heap L ∧ FrameEnd U o U' L ({ frames := 1, cells := 0, slots := 0, locals := 12 } : Room).cells ({ frames := 1, cells := 0, slots := 0, locals := 12 } : Room).slots) := by
  refine MetFree.of_bodySF (plainFor_of_name pn_6) hisR ?_
  intro p e s m args below meth c s₁ Bd hml0 hP hK
  obtain ⟨rfl, hZ, hh⟩ := hP
  have hx := Bd.exec
  have hby := Bd.bytes
  have hml : c.maxLocals = 2 := hml0
  have hown : s.vm.findClass "com/example/saho/saho/load/LineCounterAdvancePinLaw" = some m.cls := findClass_of_methodNamed Bd.named
  have X0 : Stand p l e ({ frames := 1, cells := 0, slots := 0, locals := 12 } : Room) s m #[(.int i0), (.int i1)] below meth c s₁ [] 0 0 := Stand.of_body Bd
  have e0 : s₁.heap = h0 := by rw [← hh, Bd.state]; rfl
  obtain ⟨T', X', e', st'⟩ := own_b6_0 hx hZ hw hby hml hown Bd.returns  i0 i1 X0 e0 (by decide) (by decide) 
  obtain ⟨fs, hr, hrun, hended, hW, hsame⟩ := X'.leave (v := some (.int (own_f6_0 i0 i1))) (fun h => by rw [Bd.returns] at h; cases h)
  refine ⟨_, _, castTop (ef_6 m i0 i1) (st' fs hr), hrun, hended, _, _, rfl, ?_, ⟨_, rfl⟩, hW, hsame.mono (by decide) (by decide)⟩
  exact ⟨rfl, rfl, e'⟩
theorem d7_0 : decode prog_21_method_3_code 0 = .ok (.iload_n 1, 1) := by decide +kernel
theorem d7_1 : decode prog_21_method_3_code 1 = .ok (.bipush 10, 2) := by decide +kernel
theorem d7_3 : decode prog_21_method_3_code 3 = .ok (.if_icmp .eq 9, 3) := by decide +kernel
theorem d7_6 : decode prog_21_method_3_code 6 = .ok (.iload_n 1, 1) := by decide +kernel
theorem d7_7 : decode prog_21_method_3_code 7 = .ok (.bipush 13, 2) := by decide +kernel
theorem d7_9 : decode prog_21_method_3_code 9 = .ok (.if_icmp .ne 34, 3) := by decide +kernel
theorem d7_12 : decode prog_21_method_3_code 12 = .ok (.iload_n 1, 1) := by decide +kernel
theorem d7_13 : decode prog_21_method_3_code 13 = .ok (.bipush 13, 2) := by decide +kernel
theorem d7_15 : decode prog_21_method_3_code 15 = .ok (.if_icmp .eq 10, 3) := by decide +kernel
theorem d7_18 : decode prog_21_method_3_code 18 = .ok (.aload_n 0, 1) := by decide +kernel
theorem d7_19 : decode prog_21_method_3_code 19 = .ok (.getfield 17, 3) := by decide +kernel
theorem d7_22 : decode prog_21_method_3_code 22 = .ok (.ifCond .ne 13, 3) := by decide +kernel
theorem d7_25 : decode prog_21_method_3_code 25 = .ok (.aload_n 0, 1) := by decide +kernel
theorem d7_26 : decode prog_21_method_3_code 26 = .ok (.dup, 1) := by decide +kernel
theorem d7_27 : decode prog_21_method_3_code 27 = .ok (.getfield 7, 3) := by decide +kernel
theorem d7_30 : decode prog_21_method_3_code 30 = .ok (.iconst 1, 1) := by decide +kernel
theorem d7_31 : decode prog_21_method_3_code 31 = .ok (.iadd, 1) := by decide +kernel
theorem d7_32 : decode prog_21_method_3_code 32 = .ok (.putfield 7, 3) := by decide +kernel
theorem d7_35 : decode prog_21_method_3_code 35 = .ok (.aload_n 0, 1) := by decide +kernel
theorem d7_36 : decode prog_21_method_3_code 36 = .ok (.iconst 0, 1) := by decide +kernel
theorem d7_37 : decode prog_21_method_3_code 37 = .ok (.putfield 14, 3) := by decide +kernel
theorem d7_40 : decode prog_21_method_3_code 40 = .ok (.goto 13, 3) := by decide +kernel
theorem d7_43 : decode prog_21_method_3_code 43 = .ok (.aload_n 0, 1) := by decide +kernel
theorem d7_44 : decode prog_21_method_3_code 44 = .ok (.dup, 1) := by decide +kernel
theorem d7_45 : decode prog_21_method_3_code 45 = .ok (.getfield 14, 3) := by decide +kernel
theorem d7_48 : decode prog_21_method_3_code 48 = .ok (.iconst 1, 1) := by decide +kernel
theorem d7_49 : decode prog_21_method_3_code 49 = .ok (.iadd, 1) := by decide +kernel
theorem d7_50 : decode prog_21_method_3_code 50 = .ok (.putfield 14, 3) := by decide +kernel
theorem d7_53 : decode prog_21_method_3_code 53 = .ok (.aload_n 0, 1) := by decide +kernel
theorem d7_54 : decode prog_21_method_3_code 54 = .ok (.iload_n 1, 1) := by decide +kernel
theorem d7_55 : decode prog_21_method_3_code 55 = .ok (.bipush 13, 2) := by decide +kernel
theorem d7_57 : decode prog_21_method_3_code 57 = .ok (.if_icmp .ne 7, 3) := by decide +kernel
theorem d7_60 : decode prog_21_method_3_code 60 = .ok (.iconst 1, 1) := by decide +kernel
theorem d7_61 : decode prog_21_method_3_code 61 = .ok (.goto 4, 3) := by decide +kernel
theorem d7_64 : decode prog_21_method_3_code 64 = .ok (.iconst 0, 1) := by decide +kernel
theorem d7_65 : decode prog_21_method_3_code 65 = .ok (.putfield 17, 3) := by decide +kernel
theorem d7_68 : decode prog_21_method_3_code 68 = .ok (.return_, 1) := by decide +kernel
theorem pn_7 : plainName "com/example/saho/saho/load/LineCounter" = true := by first | (simp [plainName, overriddenIn]; done) | decide +kernel
theorem ef_7 (m : MethodId) (a0 : Addr) (i1 : Int32) : entryFrame m #[(.ref a0), (.int i1)] 2 = mkF m 0 #[.val (.ref a0), .val (.int i1)] [] := by first | (simp [entryFrame, mkF, argsToLocals, Value.category]; done) | rfl
def own_o7_line (i1 : Int32) (w_line : Int32) (w_column : Int32) (w_afterCarriageReturn : Int32) : Int32 :=
  (if i1 = (10 : Int32) then (if i1 = (13 : Int32) then (if i1 = (13 : Int32) then (w_line + (1 : Int32)) else (w_line + (1 : Int32))) else (if w_afterCarriageReturn = (0 : Int32) then (if i1 = (13 : Int32) then (w_line + (1 : Int32)) else (w_line + (1 : Int32))) else (if i1 = (13 : Int32) then w_line else w_line))) else (if i1 = (13 : Int32) then (if i1 = (13 : Int32) then (if i1 = (13 : Int32) then (w_line + (1 : Int32)) else (w_line + (1 : Int32))) else (if w_afterCarriageReturn = (0 : Int32) then (if i1 = (13 : Int32) then (w_line + (1 : Int32)) else (w_line + (1 : Int32))) else (if i1 = (13 : Int32) then w_line else w_line))) else (if i1 = (13 : Int32) then w_line else w_line)))
def own_o7_column (i1 : Int32) (w_line : Int32) (w_column : Int32) (w_afterCarriageReturn : Int32) : Int32 :=
  (if i1 = (10 : Int32) then (if i1 = (13 : Int32) then (if i1 = (13 : Int32) then (0 : Int32) else (0 : Int32)) else (if w_afterCarriageReturn = (0 : Int32) then (if i1 = (13 : Int32) then (0 : Int32) else (0 : Int32)) else (if i1 = (13 : Int32) then (0 : Int32) else (0 : Int32)))) else (if i1 = (13 : Int32) then (if i1 = (13 : Int32) then (if i1 = (13 : Int32) then (0 : Int32) else (0 : Int32)) else (if w_afterCarriageReturn = (0 : Int32) then (if i1 = (13 : Int32) then (0 : Int32) else (0 : Int32)) else (if i1 = (13 : Int32) then (0 : Int32) else (0 : Int32)))) else (if i1 = (13 : Int32) then (w_column + (1 : Int32)) else (w_column + (1 : Int32)))))
def own_o7_afterCarriageReturn (i1 : Int32) (w_line : Int32) (w_column : Int32) (w_afterCarriageReturn : Int32) : Int32 :=
  (if i1 = (10 : Int32) then (if i1 = (13 : Int32) then (if i1 = (13 : Int32) then (1 : Int32) else (0 : Int32)) else (if w_afterCarriageReturn = (0 : Int32) then (if i1 = (13 : Int32) then (1 : Int32) else (0 : Int32)) else (if i1 = (13 : Int32) then (1 : Int32) else (0 : Int32)))) else (if i1 = (13 : Int32) then (if i1 = (13 : Int32) then (if i1 = (13 : Int32) then (1 : Int32) else (0 : Int32)) else (if w_afterCarriageReturn = (0 : Int32) then (if i1 = (13 : Int32) then (1 : Int32) else (0 : Int32)) else (if i1 = (13 : Int32) then (1 : Int32) else (0 : Int32)))) else (if i1 = (13 : Int32) then (1 : Int32) else (0 : Int32))))
set_option maxRecDepth 65536 in
set_option maxHeartbeats 40000000 in
theorem own_b7_0 {p : Program} {l : Launch} {e : Env} {s : State} {m : MethodId} {args : Array Value} {below : List Frame} {meth : Method} {c : Code} {Z : State} {a0_ : Array Value} {n0 : Nat} (hx : p.tables.exec = Jvm.exec) (hZ : Z.Warmed39 s.vm) (hw : ∀ d ∈ tables_1, d.before a0_ Z = true) (hby : c.code = prog_21_method_3_code) (hml : c.maxLocals = 2) (hown : s.vm.findClass "com/example/saho/saho/load/LineCounter" = some m.cls) (hret : meth.sig.returnType = none) {T0 : State} {locs : List Loc} {h0 : Heap} (a0 : Addr) (i1 : Int32) (w_line : Int32) (w_column : Int32) (w_afterCarriageReturn : Int32)
    (X0 : Stand p l e ({ frames := 0, cells := 0, slots := 0, locals := 0 } : Room) s m args below meth c T0 locs 0 0) (e0 : T0.heap = h0) (N0 : Fr n0 locs) (Z0 : n0 ≤ h0.size) (E_a0 : Exa Z h0 a0 "com/example/saho/saho/load/LineCounter") (g_a0 : n0 ≤ a0) (F_line_a0 : Fld Z h0 a0 "com/example/saho/saho/load/LineCounter" "line" "I" (.int w_line)) (F_column_a0 : Fld Z h0 a0 "com/example/saho/saho/load/LineCounter" "column" "I" (.int w_column)) (F_afterCarriageReturn_a0 : Fld Z h0 a0 "com/example/saho/saho/load/LineCounter" "afterCarriageReturn" "Z" (.int w_afterCarriageReturn)) :
    ∃ T' h' locs', Stand p l e ({ frames := 0, cells := 0, slots := 0, locals := 0 } : Room) s m args below meth c T' locs' 0 0 ∧ T'.heap = h' ∧ Fr n0 locs' ∧ Keep h0 h' [a0] ∧ Exa Z h' a0 "com/example/saho/saho/load/LineCounter" ∧ Fld Z h' a0 "com/example/saho/saho/load/LineCounter" "line" "I" (.int (own_o7_line i1 w_line w_column w_afterCarriageReturn)) ∧ Fld Z h' a0 "com/example/saho/saho/load/LineCounter" "column" "I" (.int (own_o7_column i1 w_line w_column w_afterCarriageReturn)) ∧ Fld Z h' a0 "com/example/saho/saho/load/LineCounter" "afterCarriageReturn" "Z" (.int (own_o7_afterCarriageReturn i1 w_line w_column w_afterCarriageReturn)) ∧ ∀ fs, (∀ (f : JFrame) (acts : List Action), f.method = m → f.locked = none → f.entered = [] → (doReturn e (T'.setTop f) acts (none)).1 = T'.setFrames fs) → Steps p.tables e below (T0.setTop (mkF m 0 #[.val (.ref a0), .val (.int i1)] [])) (T'.setFrames fs) := by
  have pre1 : ∀ target, Steps p.tables e below (T0.setTop (mkF m 3 #[.val (.ref a0), .val (.int i1)] [(.int (10 : Int32)), (.int i1)])) target → Steps p.tables e below (T0.setTop (mkF m 0 #[.val (.ref a0), .val (.int i1)] [])) target := by
    intro target kt
    show Steps p.tables e below (T0.setTop (mkF m 0 #[.val (.ref a0), .val (.int i1)] [])) _
    refine XS.iloadN X0.here hx rfl (hb hby d7_0) rfl ?_
    show Steps p.tables e below (T0.setTop (mkF m 1 #[.val (.ref a0), .val (.int i1)] [(.int i1)])) _
    refine XS.bipush X0.here hx rfl (hb hby d7_1) ?_
    exact kt
  by_cases hc3 : i1 = (10 : Int32)
  · have pre2 : ∀ target, Steps p.tables e below (T0.setTop (mkF m 15 #[.val (.ref a0), .val (.int i1)] [(.int (13 : Int32)), (.int i1)])) target → Steps p.tables e below (T0.setTop (mkF m 0 #[.val (.ref a0), .val (.int i1)] [])) target := by
      intro target kt
      refine pre1 target ?_
      show Steps p.tables e below (T0.setTop (mkF m 3 #[.val (.ref a0), .val (.int i1)] [(.int (10 : Int32)), (.int i1)])) _
      refine XS.icmpYes X0.here hx rfl (pc0 := 3) (pc' := 12) rfl (hb hby d7_3) rfl (teq hc3).1 (by decide) (by decide) ?_
      show Steps p.tables e below (T0.setTop (mkF m 12 #[.val (.ref a0), .val (.int i1)] [])) _
      refine XS.iloadN X0.here hx rfl (hb hby d7_12) rfl ?_
      show Steps p.tables e below (T0.setTop (mkF m 13 #[.val (.ref a0), .val (.int i1)] [(.int i1)])) _
      refine XS.bipush X0.here hx rfl (hb hby d7_13) ?_
      exact kt
    by_cases hc15 : i1 = (13 : Int32)
    · obtain ⟨T3, X3, e3, st3⟩ := getF X0 hx hZ hown (host := "") (Or.inl (hw _ (List.mem_of_getElem? (i := 14) rfl))) Via.refl e0 F_line_a0 (g := (mkF m 27 #[.val (.ref a0), .val (.int i1)] [(.ref a0), (.ref a0)])) rfl rfl (hb hby d7_27)
      obtain ⟨T4, h4, X4, e4, W4, st4⟩ := putF X3 hx hZ hown (host := "") (Or.inl (hw _ (List.mem_of_getElem? (i := 14) rfl))) Via.refl e3 F_line_a0 E_a0 (Or.inl (hw _ (List.mem_of_getElem? (i := 15) rfl))) (hw _ (List.mem_of_getElem? (i := 6) rfl)) (ty := .int) (by decide) rfl rfl (g := (mkF m 32 #[.val (.ref a0), .val (.int i1)] [(.int (w_line + (1 : Int32))), (.ref a0)])) rfl rfl (hb hby d7_32)
      have N4 := Fr.snoc X4 N0 g_a0
      have Z4 : n0 ≤ h4.size := Nat.le_trans Z0 (Keep.of_wr W4).1
      have K4 : Keep h0 h4 [a0] := (Keep.refl h0 [a0]).wr W4 (Or.inl (List.mem_of_getElem? (i := 0) rfl))
      have E_a0_k4 := E_a0.wr W4
      have F_line_a0_k4 := F_line_a0.same W4
      have F_column_a0_k4 := F_column_a0.other W4 (Or.inr (slot_ne (Or.inl (hw _ (List.mem_of_getElem? (i := 22) rfl))) (Or.inl (hw _ (List.mem_of_getElem? (i := 15) rfl))) (by decide) (t := .int) (t' := .int) (by decide) (by decide)))
      have F_afterCarriageReturn_a0_k4 := F_afterCarriageReturn_a0.other W4 (Or.inr (slot_ne (Or.inl (hw _ (List.mem_of_getElem? (i := 24) rfl))) (Or.inl (hw _ (List.mem_of_getElem? (i := 15) rfl))) (by decide) (t := .boolean) (t' := .int) (by decide) (by decide)))
      obtain ⟨T5, h5, X5, e5, W5, st5⟩ := putF X4 hx hZ hown (host := "") (Or.inl (hw _ (List.mem_of_getElem? (i := 21) rfl))) Via.refl e4 F_column_a0_k4 E_a0_k4 (Or.inl (hw _ (List.mem_of_getElem? (i := 22) rfl))) (hw _ (List.mem_of_getElem? (i := 6) rfl)) (ty := .int) (by decide) rfl rfl (g := (mkF m 37 #[.val (.ref a0), .val (.int i1)] [(.int (0 : Int32)), (.ref a0)])) rfl rfl (hb hby d7_37)
      have N5 := Fr.snoc X5 N4 g_a0
      have Z5 : n0 ≤ h5.size := Nat.le_trans Z4 (Keep.of_wr W5).1
      have K5 : Keep h0 h5 [a0] := K4.wr W5 (Or.inl (List.mem_of_getElem? (i := 0) rfl))
      have E_a0_k5 := E_a0_k4.wr W5
      have F_line_a0_k5 := F_line_a0_k4.other W5 (Or.inr (slot_ne (Or.inl (hw _ (List.mem_of_getElem? (i := 15) rfl))) (Or.inl (hw _ (List.mem_of_getElem? (i := 22) rfl))) (by decide) (t := .int) (t' := .int) (by decide) (by decide)))
      have F_column_a0_k5 := F_column_a0_k4.same W5
      have F_afterCarriageReturn_a0_k5 := F_afterCarriageReturn_a0_k4.other W5 (Or.inr (slot_ne (Or.inl (hw _ (List.mem_of_getElem? (i := 24) rfl))) (Or.inl (hw _ (List.mem_of_getElem? (i := 22) rfl))) (by decide) (t := .boolean) (t' := .int) (by decide) (by decide)))
      have pre6 : ∀ target, Steps p.tables e below (T5.setTop (mkF m 57 #[.val (.ref a0), .val (.int i1)] [(.int (13 : Int32)), (.int i1), (.ref a0)])) target → Steps p.tables e below (T0.setTop (mkF m 0 #[.val (.ref a0), .val (.int i1)] [])) target := by
        intro target kt
        refine pre2 target ?_
        show Steps p.tables e below (T0.setTop (mkF m 15 #[.val (.ref a0), .val (.int i1)] [(.int (13 : Int32)), (.int i1)])) _
        refine XS.icmpYes X0.here hx rfl (pc0 := 15) (pc' := 25) rfl (hb hby d7_15) rfl (teq hc15).1 (by decide) (by decide) ?_
        show Steps p.tables e below (T0.setTop (mkF m 25 #[.val (.ref a0), .val (.int i1)] [])) _
        refine XS.aloadN X0.here hx rfl (hb hby d7_25) rfl rfl ?_
        show Steps p.tables e below (T0.setTop (mkF m 26 #[.val (.ref a0), .val (.int i1)] [(.ref a0)])) _
        refine XS.dup X0.here hx rfl (hb hby d7_26) rfl rfl ?_
        show Steps p.tables e below (T0.setTop (mkF m 27 #[.val (.ref a0), .val (.int i1)] [(.ref a0), (.ref a0)])) _
        refine st3 _ ?_
        show Steps p.tables e below (T3.setTop (mkF m 30 #[.val (.ref a0), .val (.int i1)] [(.int w_line), (.ref a0)])) _
        refine XS.iconst X3.here hx rfl (hb hby d7_30) ?_
        show Steps p.tables e below (T3.setTop (mkF m 31 #[.val (.ref a0), .val (.int i1)] [(.int (1 : Int32)), (.int w_line), (.ref a0)])) _
        refine XS.iadd X3.here hx rfl (hb hby d7_31) rfl ?_
        show Steps p.tables e below (T3.setTop (mkF m 32 #[.val (.ref a0), .val (.int i1)] [(.int (w_line + (1 : Int32))), (.ref a0)])) _
        refine st4 _ ?_
        show Steps p.tables e below (T4.setTop (mkF m 35 #[.val (.ref a0), .val (.int i1)] [])) _
        refine XS.aloadN X4.here hx rfl (hb hby d7_35) rfl rfl ?_
        show Steps p.tables e below (T4.setTop (mkF m 36 #[.val (.ref a0), .val (.int i1)] [(.ref a0)])) _
        refine XS.iconst X4.here hx rfl (hb hby d7_36) ?_
        show Steps p.tables e below (T4.setTop (mkF m 37 #[.val (.ref a0), .val (.int i1)] [(.int (0 : Int32)), (.ref a0)])) _
        refine st5 _ ?_
        show Steps p.tables e below (T5.setTop (mkF m 40 #[.val (.ref a0), .val (.int i1)] [])) _
        refine XS.goto X5.here hx rfl (pc0 := 40) (pc' := 53) rfl (hb hby d7_40) (by decide) (by decide) ?_
        show Steps p.tables e below (T5.setTop (mkF m 53 #[.val (.ref a0), .val (.int i1)] [])) _
        refine XS.aloadN X5.here hx rfl (hb hby d7_53) rfl rfl ?_
        show Steps p.tables e below (T5.setTop (mkF m 54 #[.val (.ref a0), .val (.int i1)] [(.ref a0)])) _
        refine XS.iloadN X5.here hx rfl (hb hby d7_54) rfl ?_
        show Steps p.tables e below (T5.setTop (mkF m 55 #[.val (.ref a0), .val (.int i1)] [(.int i1), (.ref a0)])) _
        refine XS.bipush X5.here hx rfl (hb hby d7_55) ?_
        exact kt
      by_cases hc57 : i1 = (13 : Int32)
      · obtain ⟨T7, h7, X7, e7, W7, st7⟩ := putFN X5 hx hZ hown (hw _ (List.mem_of_getElem? (i := 23) rfl)) Via.refl e5 F_afterCarriageReturn_a0_k5 E_a0_k5 (Or.inl (hw _ (List.mem_of_getElem? (i := 24) rfl))) (hw _ (List.mem_of_getElem? (i := 6) rfl)) (ty := .boolean) (v' := (.int (1 : Int32))) (by decide) rfl rfl (g := (mkF m 65 #[.val (.ref a0), .val (.int i1)] [(.int (1 : Int32)), (.ref a0)])) rfl rfl (hb hby d7_65)
        have N7 := Fr.snoc X7 N5 g_a0
        have Z7 : n0 ≤ h7.size := Nat.le_trans Z5 (Keep.of_wr W7).1
        have K7 : Keep h0 h7 [a0] := K5.wr W7 (Or.inl (List.mem_of_getElem? (i := 0) rfl))
        have E_a0_k7 := E_a0_k5.wr W7
        have F_line_a0_k7 := F_line_a0_k5.other W7 (Or.inr (slot_ne (Or.inl (hw _ (List.mem_of_getElem? (i := 15) rfl))) (Or.inl (hw _ (List.mem_of_getElem? (i := 24) rfl))) (by decide) (t := .int) (t' := .boolean) (by decide) (by decide)))
        have F_column_a0_k7 := F_column_a0_k5.other W7 (Or.inr (slot_ne (Or.inl (hw _ (List.mem_of_getElem? (i := 22) rfl))) (Or.inl (hw _ (List.mem_of_getElem? (i := 24) rfl))) (by decide) (t := .int) (t' := .boolean) (by decide) (by decide)))
        have F_afterCarriageReturn_a0_k7 := F_afterCarriageReturn_a0_k5.same W7
        have ho_line : (own_o7_line i1 w_line w_column w_afterCarriageReturn) = (w_line + (1 : Int32)) := by unfold own_o7_line; rw [if_pos hc3, if_pos hc15, if_pos hc57]
        have ho_column : (own_o7_column i1 w_line w_column w_afterCarriageReturn) = (0 : Int32) := by unfold own_o7_column; rw [if_pos hc3, if_pos hc15, if_pos hc57]
        have ho_afterCarriageReturn : (own_o7_afterCarriageReturn i1 w_line w_column w_afterCarriageReturn) = (1 : Int32) := by unfold own_o7_afterCarriageReturn; rw [if_pos hc3, if_pos hc15, if_pos hc57]
        refine ⟨T7, _, _, X7, e7, N7, K7, E_a0_k7, (by rw [ho_line]; exact F_line_a0_k7), (by rw [ho_column]; exact F_column_a0_k7), (by rw [ho_afterCarriageReturn]; exact F_afterCarriageReturn_a0_k7), fun fs hr => ?_⟩
        refine pre6 _ ?_
        show Steps p.tables e below (T5.setTop (mkF m 57 #[.val (.ref a0), .val (.int i1)] [(.int (13 : Int32)), (.int i1), (.ref a0)])) _
        refine XS.icmpNo X5.here hx rfl (hb hby d7_57) rfl (teq hc57).2 ?_
        show Steps p.tables e below (T5.setTop (mkF m 60 #[.val (.ref a0), .val (.int i1)] [(.ref a0)])) _
        refine XS.iconst X5.here hx rfl (hb hby d7_60) ?_
        show Steps p.tables e below (T5.setTop (mkF m 61 #[.val (.ref a0), .val (.int i1)] [(.int (1 : Int32)), (.ref a0)])) _
        refine XS.goto X5.here hx rfl (pc0 := 61) (pc' := 65) rfl (hb hby d7_61) (by decide) (by decide) ?_
        show Steps p.tables e below (T5.setTop (mkF m 65 #[.val (.ref a0), .val (.int i1)] [(.int (1 : Int32)), (.ref a0)])) _
        refine st7 _ ?_
        show Steps p.tables e below (T7.setTop (mkF m 68 #[.val (.ref a0), .val (.int i1)] [])) _
        exact X7.returnOut hx hret (hb hby d7_68) hr
      · obtain ⟨T8, h8, X8, e8, W8, st8⟩ := putFN X5 hx hZ hown (hw _ (List.mem_of_getElem? (i := 23) rfl)) Via.refl e5 F_afterCarriageReturn_a0_k5 E_a0_k5 (Or.inl (hw _ (List.mem_of_getElem? (i := 24) rfl))) (hw _ (List.mem_of_getElem? (i := 6) rfl)) (ty := .boolean) (v' := (.int (0 : Int32))) (by decide) rfl rfl (g := (mkF m 65 #[.val (.ref a0), .val (.int i1)] [(.int (0 : Int32)), (.ref a0)])) rfl rfl (hb hby d7_65)
        have N8 := Fr.snoc X8 N5 g_a0
        have Z8 : n0 ≤ h8.size := Nat.le_trans Z5 (Keep.of_wr W8).1
        have K8 : Keep h0 h8 [a0] := K5.wr W8 (Or.inl (List.mem_of_getElem? (i := 0) rfl))
        have E_a0_k8 := E_a0_k5.wr W8
        have F_line_a0_k8 := F_line_a0_k5.other W8 (Or.inr (slot_ne (Or.inl (hw _ (List.mem_of_getElem? (i := 15) rfl))) (Or.inl (hw _ (List.mem_of_getElem? (i := 24) rfl))) (by decide) (t := .int) (t' := .boolean) (by decide) (by decide)))
        have F_column_a0_k8 := F_column_a0_k5.other W8 (Or.inr (slot_ne (Or.inl (hw _ (List.mem_of_getElem? (i := 22) rfl))) (Or.inl (hw _ (List.mem_of_getElem? (i := 24) rfl))) (by decide) (t := .int) (t' := .boolean) (by decide) (by decide)))
        have F_afterCarriageReturn_a0_k8 := F_afterCarriageReturn_a0_k5.same W8
        have ho_line : (own_o7_line i1 w_line w_column w_afterCarriageReturn) = (w_line + (1 : Int32)) := by unfold own_o7_line; rw [if_pos hc3, if_pos hc15, if_neg hc57]
        have ho_column : (own_o7_column i1 w_line w_column w_afterCarriageReturn) = (0 : Int32) := by unfold own_o7_column; rw [if_pos hc3, if_pos hc15, if_neg hc57]
        have ho_afterCarriageReturn : (own_o7_afterCarriageReturn i1 w_line w_column w_afterCarriageReturn) = (0 : Int32) := by unfold own_o7_afterCarriageReturn; rw [if_pos hc3, if_pos hc15, if_neg hc57]
        refine ⟨T8, _, _, X8, e8, N8, K8, E_a0_k8, (by rw [ho_line]; exact F_line_a0_k8), (by rw [ho_column]; exact F_column_a0_k8), (by rw [ho_afterCarriageReturn]; exact F_afterCarriageReturn_a0_k8), fun fs hr => ?_⟩
        refine pre6 _ ?_
        show Steps p.tables e below (T5.setTop (mkF m 57 #[.val (.ref a0), .val (.int i1)] [(.int (13 : Int32)), (.int i1), (.ref a0)])) _
        refine XS.icmpYes X5.here hx rfl (pc0 := 57) (pc' := 64) rfl (hb hby d7_57) rfl (feq hc57).2 (by decide) (by decide) ?_
        show Steps p.tables e below (T5.setTop (mkF m 64 #[.val (.ref a0), .val (.int i1)] [(.ref a0)])) _
        refine XS.iconst X5.here hx rfl (hb hby d7_64) ?_
        show Steps p.tables e below (T5.setTop (mkF m 65 #[.val (.ref a0), .val (.int i1)] [(.int (0 : Int32)), (.ref a0)])) _
        refine st8 _ ?_
        show Steps p.tables e below (T8.setTop (mkF m 68 #[.val (.ref a0), .val (.int i1)] [])) _
        exact X8.returnOut hx hret (hb hby d7_68) hr
    · obtain ⟨T9, X9, e9, st9⟩ := getF X0 hx hZ hown (host := "") (Or.inl (hw _ (List.mem_of_getElem? (i := 23) rfl))) Via.refl e0 F_afterCarriageReturn_a0 (g := (mkF m 19 #[.val (.ref a0), .val (.int i1)] [(.ref a0)])) rfl rfl (hb hby d7_19)
      have pre10 : ∀ target, Steps p.tables e below (T9.setTop (mkF m 22 #[.val (.ref a0), .val (.int i1)] [(.int w_afterCarriageReturn)])) target → Steps p.tables e below (T0.setTop (mkF m 0 #[.val (.ref a0), .val (.int i1)] [])) target := by
        intro target kt
        refine pre2 target ?_
        show Steps p.tables e below (T0.setTop (mkF m 15 #[.val (.ref a0), .val (.int i1)] [(.int (13 : Int32)), (.int i1)])) _
        refine XS.icmpNo X0.here hx rfl (hb hby d7_15) rfl (feq hc15).1 ?_
        show Steps p.tables e below (T0.setTop (mkF m 18 #[.val (.ref a0), .val (.int i1)] [])) _
        refine XS.aloadN X0.here hx rfl (hb hby d7_18) rfl rfl ?_
        show Steps p.tables e below (T0.setTop (mkF m 19 #[.val (.ref a0), .val (.int i1)] [(.ref a0)])) _
        refine st9 _ ?_
        exact kt
      by_cases hc22 : w_afterCarriageReturn = (0 : Int32)
      · obtain ⟨T11, X11, e11, st11⟩ := getF X9 hx hZ hown (host := "") (Or.inl (hw _ (List.mem_of_getElem? (i := 14) rfl))) Via.refl e9 F_line_a0 (g := (mkF m 27 #[.val (.ref a0), .val (.int i1)] [(.ref a0), (.ref a0)])) rfl rfl (hb hby d7_27)
        obtain ⟨T12, h12, X12, e12, W12, st12⟩ := putF X11 hx hZ hown (host := "") (Or.inl (hw _ (List.mem_of_getElem? (i := 14) rfl))) Via.refl e11 F_line_a0 E_a0 (Or.inl (hw _ (List.mem_of_getElem? (i := 15) rfl))) (hw _ (List.mem_of_getElem? (i := 6) rfl)) (ty := .int) (by decide) rfl rfl (g := (mkF m 32 #[.val (.ref a0), .val (.int i1)] [(.int (w_line + (1 : Int32))), (.ref a0)])) rfl rfl (hb hby d7_32)
        have N12 := Fr.snoc X12 N0 g_a0
        have Z12 : n0 ≤ h12.size := Nat.le_trans Z0 (Keep.of_wr W12).1
        have K12 : Keep h0 h12 [a0] := (Keep.refl h0 [a0]).wr W12 (Or.inl (List.mem_of_getElem? (i := 0) rfl))
        have E_a0_k12 := E_a0.wr W12
        have F_line_a0_k12 := F_line_a0.same W12
        have F_column_a0_k12 := F_column_a0.other W12 (Or.inr (slot_ne (Or.inl (hw _ (List.mem_of_getElem? (i := 22) rfl))) (Or.inl (hw _ (List.mem_of_getElem? (i := 15) rfl))) (by decide) (t := .int) (t' := .int) (by decide) (by decide)))
        have F_afterCarriageReturn_a0_k12 := F_afterCarriageReturn_a0.other W12 (Or.inr (slot_ne (Or.inl (hw _ (List.mem_of_getElem? (i := 24) rfl))) (Or.inl (hw _ (List.mem_of_getElem? (i := 15) rfl))) (by decide) (t := .boolean) (t' := .int) (by decide) (by decide)))
        obtain ⟨T13, h13, X13, e13, W13, st13⟩ := putF X12 hx hZ hown (host := "") (Or.inl (hw _ (List.mem_of_getElem? (i := 21) rfl))) Via.refl e12 F_column_a0_k12 E_a0_k12 (Or.inl (hw _ (List.mem_of_getElem? (i := 22) rfl))) (hw _ (List.mem_of_getElem? (i := 6) rfl)) (ty := .int) (by decide) rfl rfl (g := (mkF m 37 #[.val (.ref a0), .val (.int i1)] [(.int (0 : Int32)), (.ref a0)])) rfl rfl (hb hby d7_37)
        have N13 := Fr.snoc X13 N12 g_a0
        have Z13 : n0 ≤ h13.size := Nat.le_trans Z12 (Keep.of_wr W13).1
        have K13 : Keep h0 h13 [a0] := K12.wr W13 (Or.inl (List.mem_of_getElem? (i := 0) rfl))
        have E_a0_k13 := E_a0_k12.wr W13
        have F_line_a0_k13 := F_line_a0_k12.other W13 (Or.inr (slot_ne (Or.inl (hw _ (List.mem_of_getElem? (i := 15) rfl))) (Or.inl (hw _ (List.mem_of_getElem? (i := 22) rfl))) (by decide) (t := .int) (t' := .int) (by decide) (by decide)))
        have F_column_a0_k13 := F_column_a0_k12.same W13
        have F_afterCarriageReturn_a0_k13 := F_afterCarriageReturn_a0_k12.other W13 (Or.inr (slot_ne (Or.inl (hw _ (List.mem_of_getElem? (i := 24) rfl))) (Or.inl (hw _ (List.mem_of_getElem? (i := 22) rfl))) (by decide) (t := .boolean) (t' := .int) (by decide) (by decide)))
        have pre14 : ∀ target, Steps p.tables e below (T13.setTop (mkF m 57 #[.val (.ref a0), .val (.int i1)] [(.int (13 : Int32)), (.int i1), (.ref a0)])) target → Steps p.tables e below (T0.setTop (mkF m 0 #[.val (.ref a0), .val (.int i1)] [])) target := by
          intro target kt
          refine pre10 target ?_
          show Steps p.tables e below (T9.setTop (mkF m 22 #[.val (.ref a0), .val (.int i1)] [(.int w_afterCarriageReturn)])) _
          refine XS.ifNo X9.here hx rfl (hb hby d7_22) rfl ((if0 _ _).trans (teq hc22).2) ?_
          show Steps p.tables e below (T9.setTop (mkF m 25 #[.val (.ref a0), .val (.int i1)] [])) _
          refine XS.aloadN X9.here hx rfl (hb hby d7_25) rfl rfl ?_
          show Steps p.tables e below (T9.setTop (mkF m 26 #[.val (.ref a0), .val (.int i1)] [(.ref a0)])) _
          refine XS.dup X9.here hx rfl (hb hby d7_26) rfl rfl ?_
          show Steps p.tables e below (T9.setTop (mkF m 27 #[.val (.ref a0), .val (.int i1)] [(.ref a0), (.ref a0)])) _
          refine st11 _ ?_
          show Steps p.tables e below (T11.setTop (mkF m 30 #[.val (.ref a0), .val (.int i1)] [(.int w_line), (.ref a0)])) _
          refine XS.iconst X11.here hx rfl (hb hby d7_30) ?_
          show Steps p.tables e below (T11.setTop (mkF m 31 #[.val (.ref a0), .val (.int i1)] [(.int (1 : Int32)), (.int w_line), (.ref a0)])) _
          refine XS.iadd X11.here hx rfl (hb hby d7_31) rfl ?_
          show Steps p.tables e below (T11.setTop (mkF m 32 #[.val (.ref a0), .val (.int i1)] [(.int (w_line + (1 : Int32))), (.ref a0)])) _
          refine st12 _ ?_
          show Steps p.tables e below (T12.setTop (mkF m 35 #[.val (.ref a0), .val (.int i1)] [])) _
          refine XS.aloadN X12.here hx rfl (hb hby d7_35) rfl rfl ?_
          show Steps p.tables e below (T12.setTop (mkF m 36 #[.val (.ref a0), .val (.int i1)] [(.ref a0)])) _
          refine XS.iconst X12.here hx rfl (hb hby d7_36) ?_
          show Steps p.tables e below (T12.setTop (mkF m 37 #[.val (.ref a0), .val (.int i1)] [(.int (0 : Int32)), (.ref a0)])) _
          refine st13 _ ?_
          show Steps p.tables e below (T13.setTop (mkF m 40 #[.val (.ref a0), .val (.int i1)] [])) _
          refine XS.goto X13.here hx rfl (pc0 := 40) (pc' := 53) rfl (hb hby d7_40) (by decide) (by decide) ?_
          show Steps p.tables e below (T13.setTop (mkF m 53 #[.val (.ref a0), .val (.int i1)] [])) _
          refine XS.aloadN X13.here hx rfl (hb hby d7_53) rfl rfl ?_
          show Steps p.tables e below (T13.setTop (mkF m 54 #[.val (.ref a0), .val (.int i1)] [(.ref a0)])) _
          refine XS.iloadN X13.here hx rfl (hb hby d7_54) rfl ?_
          show Steps p.tables e below (T13.setTop (mkF m 55 #[.val (.ref a0), .val (.int i1)] [(.int i1), (.ref a0)])) _
          refine XS.bipush X13.here hx rfl (hb hby d7_55) ?_
          exact kt
        by_cases hc57 : i1 = (13 : Int32)
        · obtain ⟨T15, h15, X15, e15, W15, st15⟩ := putFN X13 hx hZ hown (hw _ (List.mem_of_getElem? (i := 23) rfl)) Via.refl e13 F_afterCarriageReturn_a0_k13 E_a0_k13 (Or.inl (hw _ (List.mem_of_getElem? (i := 24) rfl))) (hw _ (List.mem_of_getElem? (i := 6) rfl)) (ty := .boolean) (v' := (.int (1 : Int32))) (by decide) rfl rfl (g := (mkF m 65 #[.val (.ref a0), .val (.int i1)] [(.int (1 : Int32)), (.ref a0)])) rfl rfl (hb hby d7_65)
          have N15 := Fr.snoc X15 N13 g_a0
          have Z15 : n0 ≤ h15.size := Nat.le_trans Z13 (Keep.of_wr W15).1
          have K15 : Keep h0 h15 [a0] := K13.wr W15 (Or.inl (List.mem_of_getElem? (i := 0) rfl))
          have E_a0_k15 := E_a0_k13.wr W15
          have F_line_a0_k15 := F_line_a0_k13.other W15 (Or.inr (slot_ne (Or.inl (hw _ (List.mem_of_getElem? (i := 15) rfl))) (Or.inl (hw _ (List.mem_of_getElem? (i := 24) rfl))) (by decide) (t := .int) (t' := .boolean) (by decide) (by decide)))
          have F_column_a0_k15 := F_column_a0_k13.other W15 (Or.inr (slot_ne (Or.inl (hw _ (List.mem_of_getElem? (i := 22) rfl))) (Or.inl (hw _ (List.mem_of_getElem? (i := 24) rfl))) (by decide) (t := .int) (t' := .boolean) (by decide) (by decide)))
          have F_afterCarriageReturn_a0_k15 := F_afterCarriageReturn_a0_k13.same W15
          have ho_line : (own_o7_line i1 w_line w_column w_afterCarriageReturn) = (w_line + (1 : Int32)) := by unfold own_o7_line; rw [if_pos hc3, if_neg hc15, if_pos hc22, if_pos hc57]
          have ho_column : (own_o7_column i1 w_line w_column w_afterCarriageReturn) = (0 : Int32) := by unfold own_o7_column; rw [if_pos hc3, if_neg hc15, if_pos hc22, if_pos hc57]
          have ho_afterCarriageReturn : (own_o7_afterCarriageReturn i1 w_line w_column w_afterCarriageReturn) = (1 : Int32) := by unfold own_o7_afterCarriageReturn; rw [if_pos hc3, if_neg hc15, if_pos hc22, if_pos hc57]
          refine ⟨T15, _, _, X15, e15, N15, K15, E_a0_k15, (by rw [ho_line]; exact F_line_a0_k15), (by rw [ho_column]; exact F_column_a0_k15), (by rw [ho_afterCarriageReturn]; exact F_afterCarriageReturn_a0_k15), fun fs hr => ?_⟩
          refine pre14 _ ?_
          show Steps p.tables e below (T13.setTop (mkF m 57 #[.val (.ref a0), .val (.int i1)] [(.int (13 : Int32)), (.int i1), (.ref a0)])) _
          refine XS.icmpNo X13.here hx rfl (hb hby d7_57) rfl (teq hc57).2 ?_
          show Steps p.tables e below (T13.setTop (mkF m 60 #[.val (.ref a0), .val (.int i1)] [(.ref a0)])) _
          refine XS.iconst X13.here hx rfl (hb hby d7_60) ?_
          show Steps p.tables e below (T13.setTop (mkF m 61 #[.val (.ref a0), .val (.int i1)] [(.int (1 : Int32)), (.ref a0)])) _
          refine XS.goto X13.here hx rfl (pc0 := 61) (pc' := 65) rfl (hb hby d7_61) (by decide) (by decide) ?_
          show Steps p.tables e below (T13.setTop (mkF m 65 #[.val (.ref a0), .val (.int i1)] [(.int (1 : Int32)), (.ref a0)])) _
          refine st15 _ ?_
          show Steps p.tables e below (T15.setTop (mkF m 68 #[.val (.ref a0), .val (.int i1)] [])) _
          exact X15.returnOut hx hret (hb hby d7_68) hr
        · obtain ⟨T16, h16, X16, e16, W16, st16⟩ := putFN X13 hx hZ hown (hw _ (List.mem_of_getElem? (i := 23) rfl)) Via.refl e13 F_afterCarriageReturn_a0_k13 E_a0_k13 (Or.inl (hw _ (List.mem_of_getElem? (i := 24) rfl))) (hw _ (List.mem_of_getElem? (i := 6) rfl)) (ty := .boolean) (v' := (.int (0 : Int32))) (by decide) rfl rfl (g := (mkF m 65 #[.val (.ref a0), .val (.int i1)] [(.int (0 : Int32)), (.ref a0)])) rfl rfl (hb hby d7_65)
          have N16 := Fr.snoc X16 N13 g_a0
          have Z16 : n0 ≤ h16.size := Nat.le_trans Z13 (Keep.of_wr W16).1
          have K16 : Keep h0 h16 [a0] := K13.wr W16 (Or.inl (List.mem_of_getElem? (i := 0) rfl))
          have E_a0_k16 := E_a0_k13.wr W16
          have F_line_a0_k16 := F_line_a0_k13.other W16 (Or.inr (slot_ne (Or.inl (hw _ (List.mem_of_getElem? (i := 15) rfl))) (Or.inl (hw _ (List.mem_of_getElem? (i := 24) rfl))) (by decide) (t := .int) (t' := .boolean) (by decide) (by decide)))
          have F_column_a0_k16 := F_column_a0_k13.other W16 (Or.inr (slot_ne (Or.inl (hw _ (List.mem_of_getElem? (i := 22) rfl))) (Or.inl (hw _ (List.mem_of_getElem? (i := 24) rfl))) (by decide) (t := .int) (t' := .boolean) (by decide) (by decide)))
          have F_afterCarriageReturn_a0_k16 := F_afterCarriageReturn_a0_k13.same W16
          have ho_line : (own_o7_line i1 w_line w_column w_afterCarriageReturn) = (w_line + (1 : Int32)) := by unfold own_o7_line; rw [if_pos hc3, if_neg hc15, if_pos hc22, if_neg hc57]
          have ho_column : (own_o7_column i1 w_line w_column w_afterCarriageReturn) = (0 : Int32) := by unfold own_o7_column; rw [if_pos hc3, if_neg hc15, if_pos hc22, if_neg hc57]
          have ho_afterCarriageReturn : (own_o7_afterCarriageReturn i1 w_line w_column w_afterCarriageReturn) = (0 : Int32) := by unfold own_o7_afterCarriageReturn; rw [if_pos hc3, if_neg hc15, if_pos hc22, if_neg hc57]
          refine ⟨T16, _, _, X16, e16, N16, K16, E_a0_k16, (by rw [ho_line]; exact F_line_a0_k16), (by rw [ho_column]; exact F_column_a0_k16), (by rw [ho_afterCarriageReturn]; exact F_afterCarriageReturn_a0_k16), fun fs hr => ?_⟩
          refine pre14 _ ?_
          show Steps p.tables e below (T13.setTop (mkF m 57 #[.val (.ref a0), .val (.int i1)] [(.int (13 : Int32)), (.int i1), (.ref a0)])) _
          refine XS.icmpYes X13.here hx rfl (pc0 := 57) (pc' := 64) rfl (hb hby d7_57) rfl (feq hc57).2 (by decide) (by decide) ?_
          show Steps p.tables e below (T13.setTop (mkF m 64 #[.val (.ref a0), .val (.int i1)] [(.ref a0)])) _
          refine XS.iconst X13.here hx rfl (hb hby d7_64) ?_
          show Steps p.tables e below (T13.setTop (mkF m 65 #[.val (.ref a0), .val (.int i1)] [(.int (0 : Int32)), (.ref a0)])) _
          refine st16 _ ?_
          show Steps p.tables e below (T16.setTop (mkF m 68 #[.val (.ref a0), .val (.int i1)] [])) _
          exact X16.returnOut hx hret (hb hby d7_68) hr
      · obtain ⟨T17, h17, X17, e17, W17, st17⟩ := putF X9 hx hZ hown (host := "") (Or.inl (hw _ (List.mem_of_getElem? (i := 21) rfl))) Via.refl e9 F_column_a0 E_a0 (Or.inl (hw _ (List.mem_of_getElem? (i := 22) rfl))) (hw _ (List.mem_of_getElem? (i := 6) rfl)) (ty := .int) (by decide) rfl rfl (g := (mkF m 37 #[.val (.ref a0), .val (.int i1)] [(.int (0 : Int32)), (.ref a0)])) rfl rfl (hb hby d7_37)
        have N17 := Fr.snoc X17 N0 g_a0
        have Z17 : n0 ≤ h17.size := Nat.le_trans Z0 (Keep.of_wr W17).1
        have K17 : Keep h0 h17 [a0] := (Keep.refl h0 [a0]).wr W17 (Or.inl (List.mem_of_getElem? (i := 0) rfl))
        have E_a0_k17 := E_a0.wr W17
        have F_line_a0_k17 := F_line_a0.other W17 (Or.inr (slot_ne (Or.inl (hw _ (List.mem_of_getElem? (i := 15) rfl))) (Or.inl (hw _ (List.mem_of_getElem? (i := 22) rfl))) (by decide) (t := .int) (t' := .int) (by decide) (by decide)))
        have F_column_a0_k17 := F_column_a0.same W17
        have F_afterCarriageReturn_a0_k17 := F_afterCarriageReturn_a0.other W17 (Or.inr (slot_ne (Or.inl (hw _ (List.mem_of_getElem? (i := 24) rfl))) (Or.inl (hw _ (List.mem_of_getElem? (i := 22) rfl))) (by decide) (t := .boolean) (t' := .int) (by decide) (by decide)))
        have pre18 : ∀ target, Steps p.tables e below (T17.setTop (mkF m 57 #[.val (.ref a0), .val (.int i1)] [(.int (13 : Int32)), (.int i1), (.ref a0)])) target → Steps p.tables e below (T0.setTop (mkF m 0 #[.val (.ref a0), .val (.int i1)] [])) target := by
          intro target kt
          refine pre10 target ?_
          show Steps p.tables e below (T9.setTop (mkF m 22 #[.val (.ref a0), .val (.int i1)] [(.int w_afterCarriageReturn)])) _
          refine XS.ifYes X9.here hx rfl (pc0 := 22) (pc' := 35) rfl (hb hby d7_22) rfl ((if0 _ _).trans (feq hc22).2) (by decide) (by decide) ?_
          show Steps p.tables e below (T9.setTop (mkF m 35 #[.val (.ref a0), .val (.int i1)] [])) _
          refine XS.aloadN X9.here hx rfl (hb hby d7_35) rfl rfl ?_
          show Steps p.tables e below (T9.setTop (mkF m 36 #[.val (.ref a0), .val (.int i1)] [(.ref a0)])) _
          refine XS.iconst X9.here hx rfl (hb hby d7_36) ?_
          show Steps p.tables e below (T9.setTop (mkF m 37 #[.val (.ref a0), .val (.int i1)] [(.int (0 : Int32)), (.ref a0)])) _
          refine st17 _ ?_
          show Steps p.tables e below (T17.setTop (mkF m 40 #[.val (.ref a0), .val (.int i1)] [])) _
          refine XS.goto X17.here hx rfl (pc0 := 40) (pc' := 53) rfl (hb hby d7_40) (by decide) (by decide) ?_
          show Steps p.tables e below (T17.setTop (mkF m 53 #[.val (.ref a0), .val (.int i1)] [])) _
          refine XS.aloadN X17.here hx rfl (hb hby d7_53) rfl rfl ?_
          show Steps p.tables e below (T17.setTop (mkF m 54 #[.val (.ref a0), .val (.int i1)] [(.ref a0)])) _
          refine XS.iloadN X17.here hx rfl (hb hby d7_54) rfl ?_
          show Steps p.tables e below (T17.setTop (mkF m 55 #[.val (.ref a0), .val (.int i1)] [(.int i1), (.ref a0)])) _
          refine XS.bipush X17.here hx rfl (hb hby d7_55) ?_
          exact kt
        by_cases hc57 : i1 = (13 : Int32)
        · obtain ⟨T19, h19, X19, e19, W19, st19⟩ := putFN X17 hx hZ hown (hw _ (List.mem_of_getElem? (i := 23) rfl)) Via.refl e17 F_afterCarriageReturn_a0_k17 E_a0_k17 (Or.inl (hw _ (List.mem_of_getElem? (i := 24) rfl))) (hw _ (List.mem_of_getElem? (i := 6) rfl)) (ty := .boolean) (v' := (.int (1 : Int32))) (by decide) rfl rfl (g := (mkF m 65 #[.val (.ref a0), .val (.int i1)] [(.int (1 : Int32)), (.ref a0)])) rfl rfl (hb hby d7_65)
          have N19 := Fr.snoc X19 N17 g_a0
          have Z19 : n0 ≤ h19.size := Nat.le_trans Z17 (Keep.of_wr W19).1
          have K19 : Keep h0 h19 [a0] := K17.wr W19 (Or.inl (List.mem_of_getElem? (i := 0) rfl))
          have E_a0_k19 := E_a0_k17.wr W19
          have F_line_a0_k19 := F_line_a0_k17.other W19 (Or.inr (slot_ne (Or.inl (hw _ (List.mem_of_getElem? (i := 15) rfl))) (Or.inl (hw _ (List.mem_of_getElem? (i := 24) rfl))) (by decide) (t := .int) (t' := .boolean) (by decide) (by decide)))
          have F_column_a0_k19 := F_column_a0_k17.other W19 (Or.inr (slot_ne (Or.inl (hw _ (List.mem_of_getElem? (i := 22) rfl))) (Or.inl (hw _ (List.mem_of_getElem? (i := 24) rfl))) (by decide) (t := .int) (t' := .boolean) (by decide) (by decide)))
          have F_afterCarriageReturn_a0_k19 := F_afterCarriageReturn_a0_k17.same W19
          have ho_line : (own_o7_line i1 w_line w_column w_afterCarriageReturn) = w_line := by unfold own_o7_line; rw [if_pos hc3, if_neg hc15, if_neg hc22, if_pos hc57]
          have ho_column : (own_o7_column i1 w_line w_column w_afterCarriageReturn) = (0 : Int32) := by unfold own_o7_column; rw [if_pos hc3, if_neg hc15, if_neg hc22, if_pos hc57]
          have ho_afterCarriageReturn : (own_o7_afterCarriageReturn i1 w_line w_column w_afterCarriageReturn) = (1 : Int32) := by unfold own_o7_afterCarriageReturn; rw [if_pos hc3, if_neg hc15, if_neg hc22, if_pos hc57]
          refine ⟨T19, _, _, X19, e19, N19, K19, E_a0_k19, (by rw [ho_line]; exact F_line_a0_k19), (by rw [ho_column]; exact F_column_a0_k19), (by rw [ho_afterCarriageReturn]; exact F_afterCarriageReturn_a0_k19), fun fs hr => ?_⟩
          refine pre18 _ ?_
          show Steps p.tables e below (T17.setTop (mkF m 57 #[.val (.ref a0), .val (.int i1)] [(.int (13 : Int32)), (.int i1), (.ref a0)])) _
          refine XS.icmpNo X17.here hx rfl (hb hby d7_57) rfl (teq hc57).2 ?_
          show Steps p.tables e below (T17.setTop (mkF m 60 #[.val (.ref a0), .val (.int i1)] [(.ref a0)])) _
          refine XS.iconst X17.here hx rfl (hb hby d7_60) ?_
          show Steps p.tables e below (T17.setTop (mkF m 61 #[.val (.ref a0), .val (.int i1)] [(.int (1 : Int32)), (.ref a0)])) _
          refine XS.goto X17.here hx rfl (pc0 := 61) (pc' := 65) rfl (hb hby d7_61) (by decide) (by decide) ?_
          show Steps p.tables e below (T17.setTop (mkF m 65 #[.val (.ref a0), .val (.int i1)] [(.int (1 : Int32)), (.ref a0)])) _
          refine st19 _ ?_
          show Steps p.tables e below (T19.setTop (mkF m 68 #[.val (.ref a0), .val (.int i1)] [])) _
          exact X19.returnOut hx hret (hb hby d7_68) hr
        · obtain ⟨T20, h20, X20, e20, W20, st20⟩ := putFN X17 hx hZ hown (hw _ (List.mem_of_getElem? (i := 23) rfl)) Via.refl e17 F_afterCarriageReturn_a0_k17 E_a0_k17 (Or.inl (hw _ (List.mem_of_getElem? (i := 24) rfl))) (hw _ (List.mem_of_getElem? (i := 6) rfl)) (ty := .boolean) (v' := (.int (0 : Int32))) (by decide) rfl rfl (g := (mkF m 65 #[.val (.ref a0), .val (.int i1)] [(.int (0 : Int32)), (.ref a0)])) rfl rfl (hb hby d7_65)
          have N20 := Fr.snoc X20 N17 g_a0
          have Z20 : n0 ≤ h20.size := Nat.le_trans Z17 (Keep.of_wr W20).1
          have K20 : Keep h0 h20 [a0] := K17.wr W20 (Or.inl (List.mem_of_getElem? (i := 0) rfl))
          have E_a0_k20 := E_a0_k17.wr W20
          have F_line_a0_k20 := F_line_a0_k17.other W20 (Or.inr (slot_ne (Or.inl (hw _ (List.mem_of_getElem? (i := 15) rfl))) (Or.inl (hw _ (List.mem_of_getElem? (i := 24) rfl))) (by decide) (t := .int) (t' := .boolean) (by decide) (by decide)))
          have F_column_a0_k20 := F_column_a0_k17.other W20 (Or.inr (slot_ne (Or.inl (hw _ (List.mem_of_getElem? (i := 22) rfl))) (Or.inl (hw _ (List.mem_of_getElem? (i := 24) rfl))) (by decide) (t := .int) (t' := .boolean) (by decide) (by decide)))
          have F_afterCarriageReturn_a0_k20 := F_afterCarriageReturn_a0_k17.same W20
          have ho_line : (own_o7_line i1 w_line w_column w_afterCarriageReturn) = w_line := by unfold own_o7_line; rw [if_pos hc3, if_neg hc15, if_neg hc22, if_neg hc57]
          have ho_column : (own_o7_column i1 w_line w_column w_afterCarriageReturn) = (0 : Int32) := by unfold own_o7_column; rw [if_pos hc3, if_neg hc15, if_neg hc22, if_neg hc57]
          have ho_afterCarriageReturn : (own_o7_afterCarriageReturn i1 w_line w_column w_afterCarriageReturn) = (0 : Int32) := by unfold own_o7_afterCarriageReturn; rw [if_pos hc3, if_neg hc15, if_neg hc22, if_neg hc57]
          refine ⟨T20, _, _, X20, e20, N20, K20, E_a0_k20, (by rw [ho_line]; exact F_line_a0_k20), (by rw [ho_column]; exact F_column_a0_k20), (by rw [ho_afterCarriageReturn]; exact F_afterCarriageReturn_a0_k20), fun fs hr => ?_⟩
          refine pre18 _ ?_
          show Steps p.tables e below (T17.setTop (mkF m 57 #[.val (.ref a0), .val (.int i1)] [(.int (13 : Int32)), (.int i1), (.ref a0)])) _
          refine XS.icmpYes X17.here hx rfl (pc0 := 57) (pc' := 64) rfl (hb hby d7_57) rfl (feq hc57).2 (by decide) (by decide) ?_
          show Steps p.tables e below (T17.setTop (mkF m 64 #[.val (.ref a0), .val (.int i1)] [(.ref a0)])) _
          refine XS.iconst X17.here hx rfl (hb hby d7_64) ?_
          show Steps p.tables e below (T17.setTop (mkF m 65 #[.val (.ref a0), .val (.int i1)] [(.int (0 : Int32)), (.ref a0)])) _
          refine st20 _ ?_
          show Steps p.tables e below (T20.setTop (mkF m 68 #[.val (.ref a0), .val (.int i1)] [])) _
          exact X20.returnOut hx hret (hb hby d7_68) hr
  · have pre21 : ∀ target, Steps p.tables e below (T0.setTop (mkF m 9 #[.val (.ref a0), .val (.int i1)] [(.int (13 : Int32)), (.int i1)])) target → Steps p.tables e below (T0.setTop (mkF m 0 #[.val (.ref a0), .val (.int i1)] [])) target := by
      intro target kt
      refine pre1 target ?_
      show Steps p.tables e below (T0.setTop (mkF m 3 #[.val (.ref a0), .val (.int i1)] [(.int (10 : Int32)), (.int i1)])) _
      refine XS.icmpNo X0.here hx rfl (hb hby d7_3) rfl (feq hc3).1 ?_
      show Steps p.tables e below (T0.setTop (mkF m 6 #[.val (.ref a0), .val (.int i1)] [])) _
      refine XS.iloadN X0.here hx rfl (hb hby d7_6) rfl ?_
      show Steps p.tables e below (T0.setTop (mkF m 7 #[.val (.ref a0), .val (.int i1)] [(.int i1)])) _
      refine XS.bipush X0.here hx rfl (hb hby d7_7) ?_
      exact kt
    by_cases hc9 : i1 = (13 : Int32)
    · have pre22 : ∀ target, Steps p.tables e below (T0.setTop (mkF m 15 #[.val (.ref a0), .val (.int i1)] [(.int (13 : Int32)), (.int i1)])) target → Steps p.tables e below (T0.setTop (mkF m 0 #[.val (.ref a0), .val (.int i1)] [])) target := by
        intro target kt
        refine pre21 target ?_
        show Steps p.tables e below (T0.setTop (mkF m 9 #[.val (.ref a0), .val (.int i1)] [(.int (13 : Int32)), (.int i1)])) _
        refine XS.icmpNo X0.here hx rfl (hb hby d7_9) rfl (teq hc9).2 ?_
        show Steps p.tables e below (T0.setTop (mkF m 12 #[.val (.ref a0), .val (.int i1)] [])) _
        refine XS.iloadN X0.here hx rfl (hb hby d7_12) rfl ?_
        show Steps p.tables e below (T0.setTop (mkF m 13 #[.val (.ref a0), .val (.int i1)] [(.int i1)])) _
        refine XS.bipush X0.here hx rfl (hb hby d7_13) ?_
        exact kt
      by_cases hc15 : i1 = (13 : Int32)
      · obtain ⟨T23, X23, e23, st23⟩ := getF X0 hx hZ hown (host := "") (Or.inl (hw _ (List.mem_of_getElem? (i := 14) rfl))) Via.refl e0 F_line_a0 (g := (mkF m 27 #[.val (.ref a0), .val (.int i1)] [(.ref a0), (.ref a0)])) rfl rfl (hb hby d7_27)
        obtain ⟨T24, h24, X24, e24, W24, st24⟩ := putF X23 hx hZ hown (host := "") (Or.inl (hw _ (List.mem_of_getElem? (i := 14) rfl))) Via.refl e23 F_line_a0 E_a0 (Or.inl (hw _ (List.mem_of_getElem? (i := 15) rfl))) (hw _ (List.mem_of_getElem? (i := 6) rfl)) (ty := .int) (by decide) rfl rfl (g := (mkF m 32 #[.val (.ref a0), .val (.int i1)] [(.int (w_line + (1 : Int32))), (.ref a0)])) rfl rfl (hb hby d7_32)
        have N24 := Fr.snoc X24 N0 g_a0
        have Z24 : n0 ≤ h24.size := Nat.le_trans Z0 (Keep.of_wr W24).1
        have K24 : Keep h0 h24 [a0] := (Keep.refl h0 [a0]).wr W24 (Or.inl (List.mem_of_getElem? (i := 0) rfl))
        have E_a0_k24 := E_a0.wr W24
        have F_line_a0_k24 := F_line_a0.same W24
        have F_column_a0_k24 := F_column_a0.other W24 (Or.inr (slot_ne (Or.inl (hw _ (List.mem_of_getElem? (i := 22) rfl))) (Or.inl (hw _ (List.mem_of_getElem? (i := 15) rfl))) (by decide) (t := .int) (t' := .int) (by decide) (by decide)))
        have F_afterCarriageReturn_a0_k24 := F_afterCarriageReturn_a0.other W24 (Or.inr (slot_ne (Or.inl (hw _ (List.mem_of_getElem? (i := 24) rfl))) (Or.inl (hw _ (List.mem_of_getElem? (i := 15) rfl))) (by decide) (t := .boolean) (t' := .int) (by decide) (by decide)))
        obtain ⟨T25, h25, X25, e25, W25, st25⟩ := putF X24 hx hZ hown (host := "") (Or.inl (hw _ (List.mem_of_getElem? (i := 21) rfl))) Via.refl e24 F_column_a0_k24 E_a0_k24 (Or.inl (hw _ (List.mem_of_getElem? (i := 22) rfl))) (hw _ (List.mem_of_getElem? (i := 6) rfl)) (ty := .int) (by decide) rfl rfl (g := (mkF m 37 #[.val (.ref a0), .val (.int i1)] [(.int (0 : Int32)), (.ref a0)])) rfl rfl (hb hby d7_37)
        have N25 := Fr.snoc X25 N24 g_a0
        have Z25 : n0 ≤ h25.size := Nat.le_trans Z24 (Keep.of_wr W25).1
        have K25 : Keep h0 h25 [a0] := K24.wr W25 (Or.inl (List.mem_of_getElem? (i := 0) rfl))
        have E_a0_k25 := E_a0_k24.wr W25
        have F_line_a0_k25 := F_line_a0_k24.other W25 (Or.inr (slot_ne (Or.inl (hw _ (List.mem_of_getElem? (i := 15) rfl))) (Or.inl (hw _ (List.mem_of_getElem? (i := 22) rfl))) (by decide) (t := .int) (t' := .int) (by decide) (by decide)))
        have F_column_a0_k25 := F_column_a0_k24.same W25
        have F_afterCarriageReturn_a0_k25 := F_afterCarriageReturn_a0_k24.other W25 (Or.inr (slot_ne (Or.inl (hw _ (List.mem_of_getElem? (i := 24) rfl))) (Or.inl (hw _ (List.mem_of_getElem? (i := 22) rfl))) (by decide) (t := .boolean) (t' := .int) (by decide) (by decide)))
        have pre26 : ∀ target, Steps p.tables e below (T25.setTop (mkF m 57 #[.val (.ref a0), .val (.int i1)] [(.int (13 : Int32)), (.int i1), (.ref a0)])) target → Steps p.tables e below (T0.setTop (mkF m 0 #[.val (.ref a0), .val (.int i1)] [])) target := by
          intro target kt
          refine pre22 target ?_
          show Steps p.tables e below (T0.setTop (mkF m 15 #[.val (.ref a0), .val (.int i1)] [(.int (13 : Int32)), (.int i1)])) _
          refine XS.icmpYes X0.here hx rfl (pc0 := 15) (pc' := 25) rfl (hb hby d7_15) rfl (teq hc15).1 (by decide) (by decide) ?_
          show Steps p.tables e below (T0.setTop (mkF m 25 #[.val (.ref a0), .val (.int i1)] [])) _
          refine XS.aloadN X0.here hx rfl (hb hby d7_25) rfl rfl ?_
          show Steps p.tables e below (T0.setTop (mkF m 26 #[.val (.ref a0), .val (.int i1)] [(.ref a0)])) _
          refine XS.dup X0.here hx rfl (hb hby d7_26) rfl rfl ?_
          show Steps p.tables e below (T0.setTop (mkF m 27 #[.val (.ref a0), .val (.int i1)] [(.ref a0), (.ref a0)])) _
          refine st23 _ ?_
          show Steps p.tables e below (T23.setTop (mkF m 30 #[.val (.ref a0), .val (.int i1)] [(.int w_line), (.ref a0)])) _
          refine XS.iconst X23.here hx rfl (hb hby d7_30) ?_
          show Steps p.tables e below (T23.setTop (mkF m 31 #[.val (.ref a0), .val (.int i1)] [(.int (1 : Int32)), (.int w_line), (.ref a0)])) _
          refine XS.iadd X23.here hx rfl (hb hby d7_31) rfl ?_
          show Steps p.tables e below (T23.setTop (mkF m 32 #[.val (.ref a0), .val (.int i1)] [(.int (w_line + (1 : Int32))), (.ref a0)])) _
          refine st24 _ ?_
          show Steps p.tables e below (T24.setTop (mkF m 35 #[.val (.ref a0), .val (.int i1)] [])) _
          refine XS.aloadN X24.here hx rfl (hb hby d7_35) rfl rfl ?_
          show Steps p.tables e below (T24.setTop (mkF m 36 #[.val (.ref a0), .val (.int i1)] [(.ref a0)])) _
          refine XS.iconst X24.here hx rfl (hb hby d7_36) ?_
          show Steps p.tables e below (T24.setTop (mkF m 37 #[.val (.ref a0), .val (.int i1)] [(.int (0 : Int32)), (.ref a0)])) _
          refine st25 _ ?_
          show Steps p.tables e below (T25.setTop (mkF m 40 #[.val (.ref a0), .val (.int i1)] [])) _
          refine XS.goto X25.here hx rfl (pc0 := 40) (pc' := 53) rfl (hb hby d7_40) (by decide) (by decide) ?_
          show Steps p.tables e below (T25.setTop (mkF m 53 #[.val (.ref a0), .val (.int i1)] [])) _
          refine XS.aloadN X25.here hx rfl (hb hby d7_53) rfl rfl ?_
          show Steps p.tables e below (T25.setTop (mkF m 54 #[.val (.ref a0), .val (.int i1)] [(.ref a0)])) _
          refine XS.iloadN X25.here hx rfl (hb hby d7_54) rfl ?_
          show Steps p.tables e below (T25.setTop (mkF m 55 #[.val (.ref a0), .val (.int i1)] [(.int i1), (.ref a0)])) _
          refine XS.bipush X25.here hx rfl (hb hby d7_55) ?_
          exact kt
        by_cases hc57 : i1 = (13 : Int32)
        · obtain ⟨T27, h27, X27, e27, W27, st27⟩ := putFN X25 hx hZ hown (hw _ (List.mem_of_getElem? (i := 23) rfl)) Via.refl e25 F_afterCarriageReturn_a0_k25 E_a0_k25 (Or.inl (hw _ (List.mem_of_getElem? (i := 24) rfl))) (hw _ (List.mem_of_getElem? (i := 6) rfl)) (ty := .boolean) (v' := (.int (1 : Int32))) (by decide) rfl rfl (g := (mkF m 65 #[.val (.ref a0), .val (.int i1)] [(.int (1 : Int32)), (.ref a0)])) rfl rfl (hb hby d7_65)
          have N27 := Fr.snoc X27 N25 g_a0
          have Z27 : n0 ≤ h27.size := Nat.le_trans Z25 (Keep.of_wr W27).1
          have K27 : Keep h0 h27 [a0] := K25.wr W27 (Or.inl (List.mem_of_getElem? (i := 0) rfl))
          have E_a0_k27 := E_a0_k25.wr W27
          have F_line_a0_k27 := F_line_a0_k25.other W27 (Or.inr (slot_ne (Or.inl (hw _ (List.mem_of_getElem? (i := 15) rfl))) (Or.inl (hw _ (List.mem_of_getElem? (i := 24) rfl))) (by decide) (t := .int) (t' := .boolean) (by decide) (by decide)))
          have F_column_a0_k27 := F_column_a0_k25.other W27 (Or.inr (slot_ne (Or.inl (hw _ (List.mem_of_getElem? (i := 22) rfl))) (Or.inl (hw _ (List.mem_of_getElem? (i := 24) rfl))) (by decide) (t := .int) (t' := .boolean) (by decide) (by decide)))
          have F_afterCarriageReturn_a0_k27 := F_afterCarriageReturn_a0_k25.same W27
          have ho_line : (own_o7_line i1 w_line w_column w_afterCarriageReturn) = (w_line + (1 : Int32)) := by unfold own_o7_line; rw [if_neg hc3, if_pos hc9, if_pos hc15, if_pos hc57]
          have ho_column : (own_o7_column i1 w_line w_column w_afterCarriageReturn) = (0 : Int32) := by unfold own_o7_column; rw [if_neg hc3, if_pos hc9, if_pos hc15, if_pos hc57]
          have ho_afterCarriageReturn : (own_o7_afterCarriageReturn i1 w_line w_column w_afterCarriageReturn) = (1 : Int32) := by unfold own_o7_afterCarriageReturn; rw [if_neg hc3, if_pos hc9, if_pos hc15, if_pos hc57]
          refine ⟨T27, _, _, X27, e27, N27, K27, E_a0_k27, (by rw [ho_line]; exact F_line_a0_k27), (by rw [ho_column]; exact F_column_a0_k27), (by rw [ho_afterCarriageReturn]; exact F_afterCarriageReturn_a0_k27), fun fs hr => ?_⟩
          refine pre26 _ ?_
          show Steps p.tables e below (T25.setTop (mkF m 57 #[.val (.ref a0), .val (.int i1)] [(.int (13 : Int32)), (.int i1), (.ref a0)])) _
          refine XS.icmpNo X25.here hx rfl (hb hby d7_57) rfl (teq hc57).2 ?_
          show Steps p.tables e below (T25.setTop (mkF m 60 #[.val (.ref a0), .val (.int i1)] [(.ref a0)])) _
          refine XS.iconst X25.here hx rfl (hb hby d7_60) ?_
          show Steps p.tables e below (T25.setTop (mkF m 61 #[.val (.ref a0), .val (.int i1)] [(.int (1 : Int32)), (.ref a0)])) _
          refine XS.goto X25.here hx rfl (pc0 := 61) (pc' := 65) rfl (hb hby d7_61) (by decide) (by decide) ?_
          show Steps p.tables e below (T25.setTop (mkF m 65 #[.val (.ref a0), .val (.int i1)] [(.int (1 : Int32)), (.ref a0)])) _
          refine st27 _ ?_
          show Steps p.tables e below (T27.setTop (mkF m 68 #[.val (.ref a0), .val (.int i1)] [])) _
          exact X27.returnOut hx hret (hb hby d7_68) hr
        · obtain ⟨T28, h28, X28, e28, W28, st28⟩ := putFN X25 hx hZ hown (hw _ (List.mem_of_getElem? (i := 23) rfl)) Via.refl e25 F_afterCarriageReturn_a0_k25 E_a0_k25 (Or.inl (hw _ (List.mem_of_getElem? (i := 24) rfl))) (hw _ (List.mem_of_getElem? (i := 6) rfl)) (ty := .boolean) (v' := (.int (0 : Int32))) (by decide) rfl rfl (g := (mkF m 65 #[.val (.ref a0), .val (.int i1)] [(.int (0 : Int32)), (.ref a0)])) rfl rfl (hb hby d7_65)
          have N28 := Fr.snoc X28 N25 g_a0
          have Z28 : n0 ≤ h28.size := Nat.le_trans Z25 (Keep.of_wr W28).1
          have K28 : Keep h0 h28 [a0] := K25.wr W28 (Or.inl (List.mem_of_getElem? (i := 0) rfl))
          have E_a0_k28 := E_a0_k25.wr W28
          have F_line_a0_k28 := F_line_a0_k25.other W28 (Or.inr (slot_ne (Or.inl (hw _ (List.mem_of_getElem? (i := 15) rfl))) (Or.inl (hw _ (List.mem_of_getElem? (i := 24) rfl))) (by decide) (t := .int) (t' := .boolean) (by decide) (by decide)))
          have F_column_a0_k28 := F_column_a0_k25.other W28 (Or.inr (slot_ne (Or.inl (hw _ (List.mem_of_getElem? (i := 22) rfl))) (Or.inl (hw _ (List.mem_of_getElem? (i := 24) rfl))) (by decide) (t := .int) (t' := .boolean) (by decide) (by decide)))
          have F_afterCarriageReturn_a0_k28 := F_afterCarriageReturn_a0_k25.same W28
          have ho_line : (own_o7_line i1 w_line w_column w_afterCarriageReturn) = (w_line + (1 : Int32)) := by unfold own_o7_line; rw [if_neg hc3, if_pos hc9, if_pos hc15, if_neg hc57]
          have ho_column : (own_o7_column i1 w_line w_column w_afterCarriageReturn) = (0 : Int32) := by unfold own_o7_column; rw [if_neg hc3, if_pos hc9, if_pos hc15, if_neg hc57]
          have ho_afterCarriageReturn : (own_o7_afterCarriageReturn i1 w_line w_column w_afterCarriageReturn) = (0 : Int32) := by unfold own_o7_afterCarriageReturn; rw [if_neg hc3, if_pos hc9, if_pos hc15, if_neg hc57]
          refine ⟨T28, _, _, X28, e28, N28, K28, E_a0_k28, (by rw [ho_line]; exact F_line_a0_k28), (by rw [ho_column]; exact F_column_a0_k28), (by rw [ho_afterCarriageReturn]; exact F_afterCarriageReturn_a0_k28), fun fs hr => ?_⟩
          refine pre26 _ ?_
          show Steps p.tables e below (T25.setTop (mkF m 57 #[.val (.ref a0), .val (.int i1)] [(.int (13 : Int32)), (.int i1), (.ref a0)])) _
          refine XS.icmpYes X25.here hx rfl (pc0 := 57) (pc' := 64) rfl (hb hby d7_57) rfl (feq hc57).2 (by decide) (by decide) ?_
          show Steps p.tables e below (T25.setTop (mkF m 64 #[.val (.ref a0), .val (.int i1)] [(.ref a0)])) _
          refine XS.iconst X25.here hx rfl (hb hby d7_64) ?_
          show Steps p.tables e below (T25.setTop (mkF m 65 #[.val (.ref a0), .val (.int i1)] [(.int (0 : Int32)), (.ref a0)])) _
          refine st28 _ ?_
          show Steps p.tables e below (T28.setTop (mkF m 68 #[.val (.ref a0), .val (.int i1)] [])) _
          exact X28.returnOut hx hret (hb hby d7_68) hr
      · obtain ⟨T29, X29, e29, st29⟩ := getF X0 hx hZ hown (host := "") (Or.inl (hw _ (List.mem_of_getElem? (i := 23) rfl))) Via.refl e0 F_afterCarriageReturn_a0 (g := (mkF m 19 #[.val (.ref a0), .val (.int i1)] [(.ref a0)])) rfl rfl (hb hby d7_19)
        have pre30 : ∀ target, Steps p.tables e below (T29.setTop (mkF m 22 #[.val (.ref a0), .val (.int i1)] [(.int w_afterCarriageReturn)])) target → Steps p.tables e below (T0.setTop (mkF m 0 #[.val (.ref a0), .val (.int i1)] [])) target := by
          intro target kt
          refine pre22 target ?_
          show Steps p.tables e below (T0.setTop (mkF m 15 #[.val (.ref a0), .val (.int i1)] [(.int (13 : Int32)), (.int i1)])) _
          refine XS.icmpNo X0.here hx rfl (hb hby d7_15) rfl (feq hc15).1 ?_
          show Steps p.tables e below (T0.setTop (mkF m 18 #[.val (.ref a0), .val (.int i1)] [])) _
          refine XS.aloadN X0.here hx rfl (hb hby d7_18) rfl rfl ?_
          show Steps p.tables e below (T0.setTop (mkF m 19 #[.val (.ref a0), .val (.int i1)] [(.ref a0)])) _
          refine st29 _ ?_
          exact kt
        by_cases hc22 : w_afterCarriageReturn = (0 : Int32)
        · obtain ⟨T31, X31, e31, st31⟩ := getF X29 hx hZ hown (host := "") (Or.inl (hw _ (List.mem_of_getElem? (i := 14) rfl))) Via.refl e29 F_line_a0 (g := (mkF m 27 #[.val (.ref a0), .val (.int i1)] [(.ref a0), (.ref a0)])) rfl rfl (hb hby d7_27)
          obtain ⟨T32, h32, X32, e32, W32, st32⟩ := putF X31 hx hZ hown (host := "") (Or.inl (hw _ (List.mem_of_getElem? (i := 14) rfl))) Via.refl e31 F_line_a0 E_a0 (Or.inl (hw _ (List.mem_of_getElem? (i := 15) rfl))) (hw _ (List.mem_of_getElem? (i := 6) rfl)) (ty := .int) (by decide) rfl rfl (g := (mkF m 32 #[.val (.ref a0), .val (.int i1)] [(.int (w_line + (1 : Int32))), (.ref a0)])) rfl rfl (hb hby d7_32)
          have N32 := Fr.snoc X32 N0 g_a0
          have Z32 : n0 ≤ h32.size := Nat.le_trans Z0 (Keep.of_wr W32).1
          have K32 : Keep h0 h32 [a0] := (Keep.refl h0 [a0]).wr W32 (Or.inl (List.mem_of_getElem? (i := 0) rfl))
          have E_a0_k32 := E_a0.wr W32
          have F_line_a0_k32 := F_line_a0.same W32
          have F_column_a0_k32 := F_column_a0.other W32 (Or.inr (slot_ne (Or.inl (hw _ (List.mem_of_getElem? (i := 22) rfl))) (Or.inl (hw _ (List.mem_of_getElem? (i := 15) rfl))) (by decide) (t := .int) (t' := .int) (by decide) (by decide)))
          have F_afterCarriageReturn_a0_k32 := F_afterCarriageReturn_a0.other W32 (Or.inr (slot_ne (Or.inl (hw _ (List.mem_of_getElem? (i := 24) rfl))) (Or.inl (hw _ (List.mem_of_getElem? (i := 15) rfl))) (by decide) (t := .boolean) (t' := .int) (by decide) (by decide)))
          obtain ⟨T33, h33, X33, e33, W33, st33⟩ := putF X32 hx hZ hown (host := "") (Or.inl (hw _ (List.mem_of_getElem? (i := 21) rfl))) Via.refl e32 F_column_a0_k32 E_a0_k32 (Or.inl (hw _ (List.mem_of_getElem? (i := 22) rfl))) (hw _ (List.mem_of_getElem? (i := 6) rfl)) (ty := .int) (by decide) rfl rfl (g := (mkF m 37 #[.val (.ref a0), .val (.int i1)] [(.int (0 : Int32)), (.ref a0)])) rfl rfl (hb hby d7_37)
          have N33 := Fr.snoc X33 N32 g_a0
          have Z33 : n0 ≤ h33.size := Nat.le_trans Z32 (Keep.of_wr W33).1
          have K33 : Keep h0 h33 [a0] := K32.wr W33 (Or.inl (List.mem_of_getElem? (i := 0) rfl))
          have E_a0_k33 := E_a0_k32.wr W33
          have F_line_a0_k33 := F_line_a0_k32.other W33 (Or.inr (slot_ne (Or.inl (hw _ (List.mem_of_getElem? (i := 15) rfl))) (Or.inl (hw _ (List.mem_of_getElem? (i := 22) rfl))) (by decide) (t := .int) (t' := .int) (by decide) (by decide)))
          have F_column_a0_k33 := F_column_a0_k32.same W33
          have F_afterCarriageReturn_a0_k33 := F_afterCarriageReturn_a0_k32.other W33 (Or.inr (slot_ne (Or.inl (hw _ (List.mem_of_getElem? (i := 24) rfl))) (Or.inl (hw _ (List.mem_of_getElem? (i := 22) rfl))) (by decide) (t := .boolean) (t' := .int) (by decide) (by decide)))
          have pre34 : ∀ target, Steps p.tables e below (T33.setTop (mkF m 57 #[.val (.ref a0), .val (.int i1)] [(.int (13 : Int32)), (.int i1), (.ref a0)])) target → Steps p.tables e below (T0.setTop (mkF m 0 #[.val (.ref a0), .val (.int i1)] [])) target := by
            intro target kt
            refine pre30 target ?_
            show Steps p.tables e below (T29.setTop (mkF m 22 #[.val (.ref a0), .val (.int i1)] [(.int w_afterCarriageReturn)])) _
            refine XS.ifNo X29.here hx rfl (hb hby d7_22) rfl ((if0 _ _).trans (teq hc22).2) ?_
            show Steps p.tables e below (T29.setTop (mkF m 25 #[.val (.ref a0), .val (.int i1)] [])) _
            refine XS.aloadN X29.here hx rfl (hb hby d7_25) rfl rfl ?_
            show Steps p.tables e below (T29.setTop (mkF m 26 #[.val (.ref a0), .val (.int i1)] [(.ref a0)])) _
            refine XS.dup X29.here hx rfl (hb hby d7_26) rfl rfl ?_
            show Steps p.tables e below (T29.setTop (mkF m 27 #[.val (.ref a0), .val (.int i1)] [(.ref a0), (.ref a0)])) _
            refine st31 _ ?_
            show Steps p.tables e below (T31.setTop (mkF m 30 #[.val (.ref a0), .val (.int i1)] [(.int w_line), (.ref a0)])) _
            refine XS.iconst X31.here hx rfl (hb hby d7_30) ?_
            show Steps p.tables e below (T31.setTop (mkF m 31 #[.val (.ref a0), .val (.int i1)] [(.int (1 : Int32)), (.int w_line), (.ref a0)])) _
            refine XS.iadd X31.here hx rfl (hb hby d7_31) rfl ?_
            show Steps p.tables e below (T31.setTop (mkF m 32 #[.val (.ref a0), .val (.int i1)] [(.int (w_line + (1 : Int32))), (.ref a0)])) _
            refine st32 _ ?_
            show Steps p.tables e below (T32.setTop (mkF m 35 #[.val (.ref a0), .val (.int i1)] [])) _
            refine XS.aloadN X32.here hx rfl (hb hby d7_35) rfl rfl ?_
            show Steps p.tables e below (T32.setTop (mkF m 36 #[.val (.ref a0), .val (.int i1)] [(.ref a0)])) _
            refine XS.iconst X32.here hx rfl (hb hby d7_36) ?_
            show Steps p.tables e below (T32.setTop (mkF m 37 #[.val (.ref a0), .val (.int i1)] [(.int (0 : Int32)), (.ref a0)])) _
            refine st33 _ ?_
            show Steps p.tables e below (T33.setTop (mkF m 40 #[.val (.ref a0), .val (.int i1)] [])) _
            refine XS.goto X33.here hx rfl (pc0 := 40) (pc' := 53) rfl (hb hby d7_40) (by decide) (by decide) ?_
            show Steps p.tables e below (T33.setTop (mkF m 53 #[.val (.ref a0), .val (.int i1)] [])) _
            refine XS.aloadN X33.here hx rfl (hb hby d7_53) rfl rfl ?_
            show Steps p.tables e below (T33.setTop (mkF m 54 #[.val (.ref a0), .val (.int i1)] [(.ref a0)])) _
            refine XS.iloadN X33.here hx rfl (hb hby d7_54) rfl ?_
            show Steps p.tables e below (T33.setTop (mkF m 55 #[.val (.ref a0), .val (.int i1)] [(.int i1), (.ref a0)])) _
            refine XS.bipush X33.here hx rfl (hb hby d7_55) ?_
            exact kt
          by_cases hc57 : i1 = (13 : Int32)
          · obtain ⟨T35, h35, X35, e35, W35, st35⟩ := putFN X33 hx hZ hown (hw _ (List.mem_of_getElem? (i := 23) rfl)) Via.refl e33 F_afterCarriageReturn_a0_k33 E_a0_k33 (Or.inl (hw _ (List.mem_of_getElem? (i := 24) rfl))) (hw _ (List.mem_of_getElem? (i := 6) rfl)) (ty := .boolean) (v' := (.int (1 : Int32))) (by decide) rfl rfl (g := (mkF m 65 #[.val (.ref a0), .val (.int i1)] [(.int (1 : Int32)), (.ref a0)])) rfl rfl (hb hby d7_65)
            have N35 := Fr.snoc X35 N33 g_a0
            have Z35 : n0 ≤ h35.size := Nat.le_trans Z33 (Keep.of_wr W35).1
            have K35 : Keep h0 h35 [a0] := K33.wr W35 (Or.inl (List.mem_of_getElem? (i := 0) rfl))
            have E_a0_k35 := E_a0_k33.wr W35
            have F_line_a0_k35 := F_line_a0_k33.other W35 (Or.inr (slot_ne (Or.inl (hw _ (List.mem_of_getElem? (i := 15) rfl))) (Or.inl (hw _ (List.mem_of_getElem? (i := 24) rfl))) (by decide) (t := .int) (t' := .boolean) (by decide) (by decide)))
            have F_column_a0_k35 := F_column_a0_k33.other W35 (Or.inr (slot_ne (Or.inl (hw _ (List.mem_of_getElem? (i := 22) rfl))) (Or.inl (hw _ (List.mem_of_getElem? (i := 24) rfl))) (by decide) (t := .int) (t' := .boolean) (by decide) (by decide)))
            have F_afterCarriageReturn_a0_k35 := F_afterCarriageReturn_a0_k33.same W35
            have ho_line : (own_o7_line i1 w_line w_column w_afterCarriageReturn) = (w_line + (1 : Int32)) := by unfold own_o7_line; rw [if_neg hc3, if_pos hc9, if_neg hc15, if_pos hc22, if_pos hc57]
            have ho_column : (own_o7_column i1 w_line w_column w_afterCarriageReturn) = (0 : Int32) := by unfold own_o7_column; rw [if_neg hc3, if_pos hc9, if_neg hc15, if_pos hc22, if_pos hc57]
            have ho_afterCarriageReturn : (own_o7_afterCarriageReturn i1 w_line w_column w_afterCarriageReturn) = (1 : Int32) := by unfold own_o7_afterCarriageReturn; rw [if_neg hc3, if_pos hc9, if_neg hc15, if_pos hc22, if_pos hc57]
            refine ⟨T35, _, _, X35, e35, N35, K35, E_a0_k35, (by rw [ho_line]; exact F_line_a0_k35), (by rw [ho_column]; exact F_column_a0_k35), (by rw [ho_afterCarriageReturn]; exact F_afterCarriageReturn_a0_k35), fun fs hr => ?_⟩
            refine pre34 _ ?_
            show Steps p.tables e below (T33.setTop (mkF m 57 #[.val (.ref a0), .val (.int i1)] [(.int (13 : Int32)), (.int i1), (.ref a0)])) _
            refine XS.icmpNo X33.here hx rfl (hb hby d7_57) rfl (teq hc57).2 ?_
            show Steps p.tables e below (T33.setTop (mkF m 60 #[.val (.ref a0), .val (.int i1)] [(.ref a0)])) _
            refine XS.iconst X33.here hx rfl (hb hby d7_60) ?_
            show Steps p.tables e below (T33.setTop (mkF m 61 #[.val (.ref a0), .val (.int i1)] [(.int (1 : Int32)), (.ref a0)])) _
            refine XS.goto X33.here hx rfl (pc0 := 61) (pc' := 65) rfl (hb hby d7_61) (by decide) (by decide) ?_
            show Steps p.tables e below (T33.setTop (mkF m 65 #[.val (.ref a0), .val (.int i1)] [(.int (1 : Int32)), (.ref a0)])) _
            refine st35 _ ?_
            show Steps p.tables e below (T35.setTop (mkF m 68 #[.val (.ref a0), .val (.int i1)] [])) _
            exact X35.returnOut hx hret (hb hby d7_68) hr
          · obtain ⟨T36, h36, X36, e36, W36, st36⟩ := putFN X33 hx hZ hown (hw _ (List.mem_of_getElem? (i := 23) rfl)) Via.refl e33 F_afterCarriageReturn_a0_k33 E_a0_k33 (Or.inl (hw _ (List.mem_of_getElem? (i := 24) rfl))) (hw _ (List.mem_of_getElem? (i := 6) rfl)) (ty := .boolean) (v' := (.int (0 : Int32))) (by decide) rfl rfl (g := (mkF m 65 #[.val (.ref a0), .val (.int i1)] [(.int (0 : Int32)), (.ref a0)])) rfl rfl (hb hby d7_65)
            have N36 := Fr.snoc X36 N33 g_a0
            have Z36 : n0 ≤ h36.size := Nat.le_trans Z33 (Keep.of_wr W36).1
            have K36 : Keep h0 h36 [a0] := K33.wr W36 (Or.inl (List.mem_of_getElem? (i := 0) rfl))
            have E_a0_k36 := E_a0_k33.wr W36
            have F_line_a0_k36 := F_line_a0_k33.other W36 (Or.inr (slot_ne (Or.inl (hw _ (List.mem_of_getElem? (i := 15) rfl))) (Or.inl (hw _ (List.mem_of_getElem? (i := 24) rfl))) (by decide) (t := .int) (t' := .boolean) (by decide) (by decide)))
            have F_column_a0_k36 := F_column_a0_k33.other W36 (Or.inr (slot_ne (Or.inl (hw _ (List.mem_of_getElem? (i := 22) rfl))) (Or.inl (hw _ (List.mem_of_getElem? (i := 24) rfl))) (by decide) (t := .int) (t' := .boolean) (by decide) (by decide)))
            have F_afterCarriageReturn_a0_k36 := F_afterCarriageReturn_a0_k33.same W36
            have ho_line : (own_o7_line i1 w_line w_column w_afterCarriageReturn) = (w_line + (1 : Int32)) := by unfold own_o7_line; rw [if_neg hc3, if_pos hc9, if_neg hc15, if_pos hc22, if_neg hc57]
            have ho_column : (own_o7_column i1 w_line w_column w_afterCarriageReturn) = (0 : Int32) := by unfold own_o7_column; rw [if_neg hc3, if_pos hc9, if_neg hc15, if_pos hc22, if_neg hc57]
            have ho_afterCarriageReturn : (own_o7_afterCarriageReturn i1 w_line w_column w_afterCarriageReturn) = (0 : Int32) := by unfold own_o7_afterCarriageReturn; rw [if_neg hc3, if_pos hc9, if_neg hc15, if_pos hc22, if_neg hc57]
            refine ⟨T36, _, _, X36, e36, N36, K36, E_a0_k36, (by rw [ho_line]; exact F_line_a0_k36), (by rw [ho_column]; exact F_column_a0_k36), (by rw [ho_afterCarriageReturn]; exact F_afterCarriageReturn_a0_k36), fun fs hr => ?_⟩
            refine pre34 _ ?_
            show Steps p.tables e below (T33.setTop (mkF m 57 #[.val (.ref a0), .val (.int i1)] [(.int (13 : Int32)), (.int i1), (.ref a0)])) _
            refine XS.icmpYes X33.here hx rfl (pc0 := 57) (pc' := 64) rfl (hb hby d7_57) rfl (feq hc57).2 (by decide) (by decide) ?_
            show Steps p.tables e below (T33.setTop (mkF m 64 #[.val (.ref a0), .val (.int i1)] [(.ref a0)])) _
            refine XS.iconst X33.here hx rfl (hb hby d7_64) ?_
            show Steps p.tables e below (T33.setTop (mkF m 65 #[.val (.ref a0), .val (.int i1)] [(.int (0 : Int32)), (.ref a0)])) _
            refine st36 _ ?_
            show Steps p.tables e below (T36.setTop (mkF m 68 #[.val (.ref a0), .val (.int i1)] [])) _
            exact X36.returnOut hx hret (hb hby d7_68) hr
        · obtain ⟨T37, h37, X37, e37, W37, st37⟩ := putF X29 hx hZ hown (host := "") (Or.inl (hw _ (List.mem_of_getElem? (i := 21) rfl))) Via.refl e29 F_column_a0 E_a0 (Or.inl (hw _ (List.mem_of_getElem? (i := 22) rfl))) (hw _ (List.mem_of_getElem? (i := 6) rfl)) (ty := .int) (by decide) rfl rfl (g := (mkF m 37 #[.val (.ref a0), .val (.int i1)] [(.int (0 : Int32)), (.ref a0)])) rfl rfl (hb hby d7_37)
          have N37 := Fr.snoc X37 N0 g_a0
          have Z37 : n0 ≤ h37.size := Nat.le_trans Z0 (Keep.of_wr W37).1
          have K37 : Keep h0 h37 [a0] := (Keep.refl h0 [a0]).wr W37 (Or.inl (List.mem_of_getElem? (i := 0) rfl))
          have E_a0_k37 := E_a0.wr W37
          have F_line_a0_k37 := F_line_a0.other W37 (Or.inr (slot_ne (Or.inl (hw _ (List.mem_of_getElem? (i := 15) rfl))) (Or.inl (hw _ (List.mem_of_getElem? (i := 22) rfl))) (by decide) (t := .int) (t' := .int) (by decide) (by decide)))
          have F_column_a0_k37 := F_column_a0.same W37
          have F_afterCarriageReturn_a0_k37 := F_afterCarriageReturn_a0.other W37 (Or.inr (slot_ne (Or.inl (hw _ (List.mem_of_getElem? (i := 24) rfl))) (Or.inl (hw _ (List.mem_of_getElem? (i := 22) rfl))) (by decide) (t := .boolean) (t' := .int) (by decide) (by decide)))
          have pre38 : ∀ target, Steps p.tables e below (T37.setTop (mkF m 57 #[.val (.ref a0), .val (.int i1)] [(.int (13 : Int32)), (.int i1), (.ref a0)])) target → Steps p.tables e below (T0.setTop (mkF m 0 #[.val (.ref a0), .val (.int i1)] [])) target := by
            intro target kt
            refine pre30 target ?_
            show Steps p.tables e below (T29.setTop (mkF m 22 #[.val (.ref a0), .val (.int i1)] [(.int w_afterCarriageReturn)])) _
            refine XS.ifYes X29.here hx rfl (pc0 := 22) (pc' := 35) rfl (hb hby d7_22) rfl ((if0 _ _).trans (feq hc22).2) (by decide) (by decide) ?_
            show Steps p.tables e below (T29.setTop (mkF m 35 #[.val (.ref a0), .val (.int i1)] [])) _
            refine XS.aloadN X29.here hx rfl (hb hby d7_35) rfl rfl ?_
            show Steps p.tables e below (T29.setTop (mkF m 36 #[.val (.ref a0), .val (.int i1)] [(.ref a0)])) _
            refine XS.iconst X29.here hx rfl (hb hby d7_36) ?_
            show Steps p.tables e below (T29.setTop (mkF m 37 #[.val (.ref a0), .val (.int i1)] [(.int (0 : Int32)), (.ref a0)])) _
            refine st37 _ ?_
            show Steps p.tables e below (T37.setTop (mkF m 40 #[.val (.ref a0), .val (.int i1)] [])) _
            refine XS.goto X37.here hx rfl (pc0 := 40) (pc' := 53) rfl (hb hby d7_40) (by decide) (by decide) ?_
            show Steps p.tables e below (T37.setTop (mkF m 53 #[.val (.ref a0), .val (.int i1)] [])) _
            refine XS.aloadN X37.here hx rfl (hb hby d7_53) rfl rfl ?_
            show Steps p.tables e below (T37.setTop (mkF m 54 #[.val (.ref a0), .val (.int i1)] [(.ref a0)])) _
            refine XS.iloadN X37.here hx rfl (hb hby d7_54) rfl ?_
            show Steps p.tables e below (T37.setTop (mkF m 55 #[.val (.ref a0), .val (.int i1)] [(.int i1), (.ref a0)])) _
            refine XS.bipush X37.here hx rfl (hb hby d7_55) ?_
            exact kt
          by_cases hc57 : i1 = (13 : Int32)
          · obtain ⟨T39, h39, X39, e39, W39, st39⟩ := putFN X37 hx hZ hown (hw _ (List.mem_of_getElem? (i := 23) rfl)) Via.refl e37 F_afterCarriageReturn_a0_k37 E_a0_k37 (Or.inl (hw _ (List.mem_of_getElem? (i := 24) rfl))) (hw _ (List.mem_of_getElem? (i := 6) rfl)) (ty := .boolean) (v' := (.int (1 : Int32))) (by decide) rfl rfl (g := (mkF m 65 #[.val (.ref a0), .val (.int i1)] [(.int (1 : Int32)), (.ref a0)])) rfl rfl (hb hby d7_65)
            have N39 := Fr.snoc X39 N37 g_a0
            have Z39 : n0 ≤ h39.size := Nat.le_trans Z37 (Keep.of_wr W39).1
            have K39 : Keep h0 h39 [a0] := K37.wr W39 (Or.inl (List.mem_of_getElem? (i := 0) rfl))
            have E_a0_k39 := E_a0_k37.wr W39
            have F_line_a0_k39 := F_line_a0_k37.other W39 (Or.inr (slot_ne (Or.inl (hw _ (List.mem_of_getElem? (i := 15) rfl))) (Or.inl (hw _ (List.mem_of_getElem? (i := 24) rfl))) (by decide) (t := .int) (t' := .boolean) (by decide) (by decide)))
            have F_column_a0_k39 := F_column_a0_k37.other W39 (Or.inr (slot_ne (Or.inl (hw _ (List.mem_of_getElem? (i := 22) rfl))) (Or.inl (hw _ (List.mem_of_getElem? (i := 24) rfl))) (by decide) (t := .int) (t' := .boolean) (by decide) (by decide)))
            have F_afterCarriageReturn_a0_k39 := F_afterCarriageReturn_a0_k37.same W39
            have ho_line : (own_o7_line i1 w_line w_column w_afterCarriageReturn) = w_line := by unfold own_o7_line; rw [if_neg hc3, if_pos hc9, if_neg hc15, if_neg hc22, if_pos hc57]
            have ho_column : (own_o7_column i1 w_line w_column w_afterCarriageReturn) = (0 : Int32) := by unfold own_o7_column; rw [if_neg hc3, if_pos hc9, if_neg hc15, if_neg hc22, if_pos hc57]
            have ho_afterCarriageReturn : (own_o7_afterCarriageReturn i1 w_line w_column w_afterCarriageReturn) = (1 : Int32) := by unfold own_o7_afterCarriageReturn; rw [if_neg hc3, if_pos hc9, if_neg hc15, if_neg hc22, if_pos hc57]
            refine ⟨T39, _, _, X39, e39, N39, K39, E_a0_k39, (by rw [ho_line]; exact F_line_a0_k39), (by rw [ho_column]; exact F_column_a0_k39), (by rw [ho_afterCarriageReturn]; exact F_afterCarriageReturn_a0_k39), fun fs hr => ?_⟩
            refine pre38 _ ?_
            show Steps p.tables e below (T37.setTop (mkF m 57 #[.val (.ref a0), .val (.int i1)] [(.int (13 : Int32)), (.int i1), (.ref a0)])) _
            refine XS.icmpNo X37.here hx rfl (hb hby d7_57) rfl (teq hc57).2 ?_
            show Steps p.tables e below (T37.setTop (mkF m 60 #[.val (.ref a0), .val (.int i1)] [(.ref a0)])) _
            refine XS.iconst X37.here hx rfl (hb hby d7_60) ?_
            show Steps p.tables e below (T37.setTop (mkF m 61 #[.val (.ref a0), .val (.int i1)] [(.int (1 : Int32)), (.ref a0)])) _
            refine XS.goto X37.here hx rfl (pc0 := 61) (pc' := 65) rfl (hb hby d7_61) (by decide) (by decide) ?_
            show Steps p.tables e below (T37.setTop (mkF m 65 #[.val (.ref a0), .val (.int i1)] [(.int (1 : Int32)), (.ref a0)])) _
            refine st39 _ ?_
            show Steps p.tables e below (T39.setTop (mkF m 68 #[.val (.ref a0), .val (.int i1)] [])) _
            exact X39.returnOut hx hret (hb hby d7_68) hr
          · obtain ⟨T40, h40, X40, e40, W40, st40⟩ := putFN X37 hx hZ hown (hw _ (List.mem_of_getElem? (i := 23) rfl)) Via.refl e37 F_afterCarriageReturn_a0_k37 E_a0_k37 (Or.inl (hw _ (List.mem_of_getElem? (i := 24) rfl))) (hw _ (List.mem_of_getElem? (i := 6) rfl)) (ty := .boolean) (v' := (.int (0 : Int32))) (by decide) rfl rfl (g := (mkF m 65 #[.val (.ref a0), .val (.int i1)] [(.int (0 : Int32)), (.ref a0)])) rfl rfl (hb hby d7_65)
            have N40 := Fr.snoc X40 N37 g_a0
            have Z40 : n0 ≤ h40.size := Nat.le_trans Z37 (Keep.of_wr W40).1
            have K40 : Keep h0 h40 [a0] := K37.wr W40 (Or.inl (List.mem_of_getElem? (i := 0) rfl))
            have E_a0_k40 := E_a0_k37.wr W40
            have F_line_a0_k40 := F_line_a0_k37.other W40 (Or.inr (slot_ne (Or.inl (hw _ (List.mem_of_getElem? (i := 15) rfl))) (Or.inl (hw _ (List.mem_of_getElem? (i := 24) rfl))) (by decide) (t := .int) (t' := .boolean) (by decide) (by decide)))
            have F_column_a0_k40 := F_column_a0_k37.other W40 (Or.inr (slot_ne (Or.inl (hw _ (List.mem_of_getElem? (i := 22) rfl))) (Or.inl (hw _ (List.mem_of_getElem? (i := 24) rfl))) (by decide) (t := .int) (t' := .boolean) (by decide) (by decide)))
            have F_afterCarriageReturn_a0_k40 := F_afterCarriageReturn_a0_k37.same W40
            have ho_line : (own_o7_line i1 w_line w_column w_afterCarriageReturn) = w_line := by unfold own_o7_line; rw [if_neg hc3, if_pos hc9, if_neg hc15, if_neg hc22, if_neg hc57]
            have ho_column : (own_o7_column i1 w_line w_column w_afterCarriageReturn) = (0 : Int32) := by unfold own_o7_column; rw [if_neg hc3, if_pos hc9, if_neg hc15, if_neg hc22, if_neg hc57]
            have ho_afterCarriageReturn : (own_o7_afterCarriageReturn i1 w_line w_column w_afterCarriageReturn) = (0 : Int32) := by unfold own_o7_afterCarriageReturn; rw [if_neg hc3, if_pos hc9, if_neg hc15, if_neg hc22, if_neg hc57]
            refine ⟨T40, _, _, X40, e40, N40, K40, E_a0_k40, (by rw [ho_line]; exact F_line_a0_k40), (by rw [ho_column]; exact F_column_a0_k40), (by rw [ho_afterCarriageReturn]; exact F_afterCarriageReturn_a0_k40), fun fs hr => ?_⟩
            refine pre38 _ ?_
            show Steps p.tables e below (T37.setTop (mkF m 57 #[.val (.ref a0), .val (.int i1)] [(.int (13 : Int32)), (.int i1), (.ref a0)])) _
            refine XS.icmpYes X37.here hx rfl (pc0 := 57) (pc' := 64) rfl (hb hby d7_57) rfl (feq hc57).2 (by decide) (by decide) ?_
            show Steps p.tables e below (T37.setTop (mkF m 64 #[.val (.ref a0), .val (.int i1)] [(.ref a0)])) _
            refine XS.iconst X37.here hx rfl (hb hby d7_64) ?_
            show Steps p.tables e below (T37.setTop (mkF m 65 #[.val (.ref a0), .val (.int i1)] [(.int (0 : Int32)), (.ref a0)])) _
            refine st40 _ ?_
            show Steps p.tables e below (T40.setTop (mkF m 68 #[.val (.ref a0), .val (.int i1)] [])) _
            exact X40.returnOut hx hret (hb hby d7_68) hr
    · obtain ⟨T41, X41, e41, st41⟩ := getF X0 hx hZ hown (host := "") (Or.inl (hw _ (List.mem_of_getElem? (i := 21) rfl))) Via.refl e0 F_column_a0 (g := (mkF m 45 #[.val (.ref a0), .val (.int i1)] [(.ref a0), (.ref a0)])) rfl rfl (hb hby d7_45)
      obtain ⟨T42, h42, X42, e42, W42, st42⟩ := putF X41 hx hZ hown (host := "") (Or.inl (hw _ (List.mem_of_getElem? (i := 21) rfl))) Via.refl e41 F_column_a0 E_a0 (Or.inl (hw _ (List.mem_of_getElem? (i := 22) rfl))) (hw _ (List.mem_of_getElem? (i := 6) rfl)) (ty := .int) (by decide) rfl rfl (g := (mkF m 50 #[.val (.ref a0), .val (.int i1)] [(.int (w_column + (1 : Int32))), (.ref a0)])) rfl rfl (hb hby d7_50)
      have N42 := Fr.snoc X42 N0 g_a0
      have Z42 : n0 ≤ h42.size := Nat.le_trans Z0 (Keep.of_wr W42).1
      have K42 : Keep h0 h42 [a0] := (Keep.refl h0 [a0]).wr W42 (Or.inl (List.mem_of_getElem? (i := 0) rfl))
      have E_a0_k42 := E_a0.wr W42
      have F_line_a0_k42 := F_line_a0.other W42 (Or.inr (slot_ne (Or.inl (hw _ (List.mem_of_getElem? (i := 15) rfl))) (Or.inl (hw _ (List.mem_of_getElem? (i := 22) rfl))) (by decide) (t := .int) (t' := .int) (by decide) (by decide)))
      have F_column_a0_k42 := F_column_a0.same W42
      have F_afterCarriageReturn_a0_k42 := F_afterCarriageReturn_a0.other W42 (Or.inr (slot_ne (Or.inl (hw _ (List.mem_of_getElem? (i := 24) rfl))) (Or.inl (hw _ (List.mem_of_getElem? (i := 22) rfl))) (by decide) (t := .boolean) (t' := .int) (by decide) (by decide)))
      have pre43 : ∀ target, Steps p.tables e below (T42.setTop (mkF m 57 #[.val (.ref a0), .val (.int i1)] [(.int (13 : Int32)), (.int i1), (.ref a0)])) target → Steps p.tables e below (T0.setTop (mkF m 0 #[.val (.ref a0), .val (.int i1)] [])) target := by
        intro target kt
        refine pre21 target ?_
        show Steps p.tables e below (T0.setTop (mkF m 9 #[.val (.ref a0), .val (.int i1)] [(.int (13 : Int32)), (.int i1)])) _
        refine XS.icmpYes X0.here hx rfl (pc0 := 9) (pc' := 43) rfl (hb hby d7_9) rfl (feq hc9).2 (by decide) (by decide) ?_
        show Steps p.tables e below (T0.setTop (mkF m 43 #[.val (.ref a0), .val (.int i1)] [])) _
        refine XS.aloadN X0.here hx rfl (hb hby d7_43) rfl rfl ?_
        show Steps p.tables e below (T0.setTop (mkF m 44 #[.val (.ref a0), .val (.int i1)] [(.ref a0)])) _
        refine XS.dup X0.here hx rfl (hb hby d7_44) rfl rfl ?_
        show Steps p.tables e below (T0.setTop (mkF m 45 #[.val (.ref a0), .val (.int i1)] [(.ref a0), (.ref a0)])) _
        refine st41 _ ?_
        show Steps p.tables e below (T41.setTop (mkF m 48 #[.val (.ref a0), .val (.int i1)] [(.int w_column), (.ref a0)])) _
        refine XS.iconst X41.here hx rfl (hb hby d7_48) ?_
        show Steps p.tables e below (T41.setTop (mkF m 49 #[.val (.ref a0), .val (.int i1)] [(.int (1 : Int32)), (.int w_column), (.ref a0)])) _
        refine XS.iadd X41.here hx rfl (hb hby d7_49) rfl ?_
        show Steps p.tables e below (T41.setTop (mkF m 50 #[.val (.ref a0), .val (.int i1)] [(.int (w_column + (1 : Int32))), (.ref a0)])) _
        refine st42 _ ?_
        show Steps p.tables e below (T42.setTop (mkF m 53 #[.val (.ref a0), .val (.int i1)] [])) _
        refine XS.aloadN X42.here hx rfl (hb hby d7_53) rfl rfl ?_
        show Steps p.tables e below (T42.setTop (mkF m 54 #[.val (.ref a0), .val (.int i1)] [(.ref a0)])) _
        refine XS.iloadN X42.here hx rfl (hb hby d7_54) rfl ?_
        show Steps p.tables e below (T42.setTop (mkF m 55 #[.val (.ref a0), .val (.int i1)] [(.int i1), (.ref a0)])) _
        refine XS.bipush X42.here hx rfl (hb hby d7_55) ?_
        exact kt
      by_cases hc57 : i1 = (13 : Int32)
      · obtain ⟨T44, h44, X44, e44, W44, st44⟩ := putFN X42 hx hZ hown (hw _ (List.mem_of_getElem? (i := 23) rfl)) Via.refl e42 F_afterCarriageReturn_a0_k42 E_a0_k42 (Or.inl (hw _ (List.mem_of_getElem? (i := 24) rfl))) (hw _ (List.mem_of_getElem? (i := 6) rfl)) (ty := .boolean) (v' := (.int (1 : Int32))) (by decide) rfl rfl (g := (mkF m 65 #[.val (.ref a0), .val (.int i1)] [(.int (1 : Int32)), (.ref a0)])) rfl rfl (hb hby d7_65)
        have N44 := Fr.snoc X44 N42 g_a0
        have Z44 : n0 ≤ h44.size := Nat.le_trans Z42 (Keep.of_wr W44).1
        have K44 : Keep h0 h44 [a0] := K42.wr W44 (Or.inl (List.mem_of_getElem? (i := 0) rfl))
        have E_a0_k44 := E_a0_k42.wr W44
        have F_line_a0_k44 := F_line_a0_k42.other W44 (Or.inr (slot_ne (Or.inl (hw _ (List.mem_of_getElem? (i := 15) rfl))) (Or.inl (hw _ (List.mem_of_getElem? (i := 24) rfl))) (by decide) (t := .int) (t' := .boolean) (by decide) (by decide)))
        have F_column_a0_k44 := F_column_a0_k42.other W44 (Or.inr (slot_ne (Or.inl (hw _ (List.mem_of_getElem? (i := 22) rfl))) (Or.inl (hw _ (List.mem_of_getElem? (i := 24) rfl))) (by decide) (t := .int) (t' := .boolean) (by decide) (by decide)))
        have F_afterCarriageReturn_a0_k44 := F_afterCarriageReturn_a0_k42.same W44
        have ho_line : (own_o7_line i1 w_line w_column w_afterCarriageReturn) = w_line := by unfold own_o7_line; rw [if_neg hc3, if_neg hc9, if_pos hc57]
        have ho_column : (own_o7_column i1 w_line w_column w_afterCarriageReturn) = (w_column + (1 : Int32)) := by unfold own_o7_column; rw [if_neg hc3, if_neg hc9, if_pos hc57]
        have ho_afterCarriageReturn : (own_o7_afterCarriageReturn i1 w_line w_column w_afterCarriageReturn) = (1 : Int32) := by unfold own_o7_afterCarriageReturn; rw [if_neg hc3, if_neg hc9, if_pos hc57]
        refine ⟨T44, _, _, X44, e44, N44, K44, E_a0_k44, (by rw [ho_line]; exact F_line_a0_k44), (by rw [ho_column]; exact F_column_a0_k44), (by rw [ho_afterCarriageReturn]; exact F_afterCarriageReturn_a0_k44), fun fs hr => ?_⟩
        refine pre43 _ ?_
        show Steps p.tables e below (T42.setTop (mkF m 57 #[.val (.ref a0), .val (.int i1)] [(.int (13 : Int32)), (.int i1), (.ref a0)])) _
        refine XS.icmpNo X42.here hx rfl (hb hby d7_57) rfl (teq hc57).2 ?_
        show Steps p.tables e below (T42.setTop (mkF m 60 #[.val (.ref a0), .val (.int i1)] [(.ref a0)])) _
        refine XS.iconst X42.here hx rfl (hb hby d7_60) ?_
        show Steps p.tables e below (T42.setTop (mkF m 61 #[.val (.ref a0), .val (.int i1)] [(.int (1 : Int32)), (.ref a0)])) _
        refine XS.goto X42.here hx rfl (pc0 := 61) (pc' := 65) rfl (hb hby d7_61) (by decide) (by decide) ?_
        show Steps p.tables e below (T42.setTop (mkF m 65 #[.val (.ref a0), .val (.int i1)] [(.int (1 : Int32)), (.ref a0)])) _
        refine st44 _ ?_
        show Steps p.tables e below (T44.setTop (mkF m 68 #[.val (.ref a0), .val (.int i1)] [])) _
        exact X44.returnOut hx hret (hb hby d7_68) hr
      · obtain ⟨T45, h45, X45, e45, W45, st45⟩ := putFN X42 hx hZ hown (hw _ (List.mem_of_getElem? (i := 23) rfl)) Via.refl e42 F_afterCarriageReturn_a0_k42 E_a0_k42 (Or.inl (hw _ (List.mem_of_getElem? (i := 24) rfl))) (hw _ (List.mem_of_getElem? (i := 6) rfl)) (ty := .boolean) (v' := (.int (0 : Int32))) (by decide) rfl rfl (g := (mkF m 65 #[.val (.ref a0), .val (.int i1)] [(.int (0 : Int32)), (.ref a0)])) rfl rfl (hb hby d7_65)
        have N45 := Fr.snoc X45 N42 g_a0
        have Z45 : n0 ≤ h45.size := Nat.le_trans Z42 (Keep.of_wr W45).1
        have K45 : Keep h0 h45 [a0] := K42.wr W45 (Or.inl (List.mem_of_getElem? (i := 0) rfl))
        have E_a0_k45 := E_a0_k42.wr W45
        have F_line_a0_k45 := F_line_a0_k42.other W45 (Or.inr (slot_ne (Or.inl (hw _ (List.mem_of_getElem? (i := 15) rfl))) (Or.inl (hw _ (List.mem_of_getElem? (i := 24) rfl))) (by decide) (t := .int) (t' := .boolean) (by decide) (by decide)))
        have F_column_a0_k45 := F_column_a0_k42.other W45 (Or.inr (slot_ne (Or.inl (hw _ (List.mem_of_getElem? (i := 22) rfl))) (Or.inl (hw _ (List.mem_of_getElem? (i := 24) rfl))) (by decide) (t := .int) (t' := .boolean) (by decide) (by decide)))
        have F_afterCarriageReturn_a0_k45 := F_afterCarriageReturn_a0_k42.same W45
        have ho_line : (own_o7_line i1 w_line w_column w_afterCarriageReturn) = w_line := by unfold own_o7_line; rw [if_neg hc3, if_neg hc9, if_neg hc57]
        have ho_column : (own_o7_column i1 w_line w_column w_afterCarriageReturn) = (w_column + (1 : Int32)) := by unfold own_o7_column; rw [if_neg hc3, if_neg hc9, if_neg hc57]
        have ho_afterCarriageReturn : (own_o7_afterCarriageReturn i1 w_line w_column w_afterCarriageReturn) = (0 : Int32) := by unfold own_o7_afterCarriageReturn; rw [if_neg hc3, if_neg hc9, if_neg hc57]
        refine ⟨T45, _, _, X45, e45, N45, K45, E_a0_k45, (by rw [ho_line]; exact F_line_a0_k45), (by rw [ho_column]; exact F_column_a0_k45), (by rw [ho_afterCarriageReturn]; exact F_afterCarriageReturn_a0_k45), fun fs hr => ?_⟩
        refine pre43 _ ?_
        show Steps p.tables e below (T42.setTop (mkF m 57 #[.val (.ref a0), .val (.int i1)] [(.int (13 : Int32)), (.int i1), (.ref a0)])) _
        refine XS.icmpYes X42.here hx rfl (pc0 := 57) (pc' := 64) rfl (hb hby d7_57) rfl (feq hc57).2 (by decide) (by decide) ?_
        show Steps p.tables e below (T42.setTop (mkF m 64 #[.val (.ref a0), .val (.int i1)] [(.ref a0)])) _
        refine XS.iconst X42.here hx rfl (hb hby d7_64) ?_
        show Steps p.tables e below (T42.setTop (mkF m 65 #[.val (.ref a0), .val (.int i1)] [(.int (0 : Int32)), (.ref a0)])) _
        refine st45 _ ?_
        show Steps p.tables e below (T45.setTop (mkF m 68 #[.val (.ref a0), .val (.int i1)] [])) _
        exact X45.returnOut hx hret (hb hby d7_68) hr
def Q7 (Z : State) (a0 : Addr) (i1 : Int32) (w_line : Int32) (w_column : Int32) (w_afterCarriageReturn : Int32) (h0 : Heap) (n0 : Nat) (v : Option Value) (h : Heap) (L : List Loc) : Prop := v = none ∧ Fr n0 L ∧ Keep h0 h [a0] ∧ Exa Z h a0 "com/example/saho/saho/load/LineCounter" ∧ Fld Z h a0 "com/example/saho/saho/load/LineCounter" "line" "I" (.int (own_o7_line i1 w_line w_column w_afterCarriageReturn)) ∧ Fld Z h a0 "com/example/saho/saho/load/LineCounter" "column" "I" (.int (own_o7_column i1 w_line w_column w_afterCarriageReturn)) ∧ Fld Z h a0 "com/example/saho/saho/load/LineCounter" "afterCarriageReturn" "Z" (.int (own_o7_afterCarriageReturn i1 w_line w_column w_afterCarriageReturn))
set_option maxRecDepth 65536 in
set_option maxHeartbeats 40000000 in
theorem rm7 (l : Launch) (Z : State) (a0_ : Array Value) (hw : ∀ d ∈ tables_1, d.before a0_ Z = true) (ws : List Jvm.Cond) (a0 : Addr) (i1 : Int32) (w_line : Int32) (w_column : Int32) (w_afterCarriageReturn : Int32) (h0 : Heap) (n0 : Nat) (Z0 : n0 ≤ h0.size) (E_a0 : Exa Z h0 a0 "com/example/saho/saho/load/LineCounter") (g_a0 : n0 ≤ a0) (F_line_a0 : Fld Z h0 a0 "com/example/saho/saho/load/LineCounter" "line" "I" (.int w_line)) (F_column_a0 : Fld Z h0 a0 "com/example/saho/saho/load/LineCounter" "column" "I" (.int w_column)) (F_afterCarriageReturn_a0 : Fld Z h0 a0 "com/example/saho/saho/load/LineCounter" "afterCarriageReturn" "Z" (.int w_afterCarriageReturn)) :
    MetFree l (⟨"com/example/saho/saho/load/LineCounter", "advance", "(C)V"⟩ : MethodName) (head1 (Jvm.Cond.code (⟨"com/example/saho/saho/load/LineCounter", "advance", "(C)V"⟩ : MethodName) prog_21_method_3_code 2 none :: ws) ({ frames := 0, cells := 0, slots := 0, locals := 0 } : Room)) (fun a U => a = #[(.ref a0), (.int i1)] ∧ Z.Warmed39 U.vm ∧ U.heap = h0) (fun _ _ _ _ _ => True) (fun _ U o U' => ∃ v L, o = .returned v ∧ Q7 Z a0 i1 w_line w_column w_afterCarriageReturn h0 n0 v U'.heap L ∧ FrameEnd U o U' L ({ frames := 0, cells := 0, slots := 0, locals := 0 } : Room).cells ({ frames := 0, cells := 0, slots := 0, locals := 0 } : Room).slots) := by
  refine MetFree.of_bodySF (plainFor_of_name pn_7) hisR ?_
  intro p e s m args below meth c s₁ Bd hml0 hP hK
  obtain ⟨rfl, hZ, hh⟩ := hP
  have hx := Bd.exec
  have hby := Bd.bytes
  have hml : c.maxLocals = 2 := hml0
  have hown : s.vm.findClass "com/example/saho/saho/load/LineCounter" = some m.cls := findClass_of_methodNamed Bd.named
  have X0 : Stand p l e ({ frames := 0, cells := 0, slots := 0, locals := 0 } : Room) s m #[(.ref a0), (.int i1)] below meth c s₁ [] 0 0 := Stand.of_body Bd
  have e0 : s₁.heap = h0 := by rw [← hh, Bd.state]; rfl
  obtain ⟨T', h', L', X', e', N', K', G0', G1', G2', G3', st'⟩ := own_b7_0 hx hZ hw hby hml hown Bd.returns  a0 i1 w_line w_column w_afterCarriageReturn X0 e0 (Fr.nil n0) Z0 E_a0 g_a0 F_line_a0 F_column_a0 F_afterCarriageReturn_a0
  obtain ⟨fs, hr, hrun, hended, hW, hsame⟩ := X'.leave (v := none) (fun _ => rfl)
  refine ⟨_, _, castTop (ef_7 m a0 i1) (st' fs hr), hrun, hended, _, _, rfl, ?_, ⟨_, rfl⟩, hW, hsame.mono (by decide) (by decide)⟩
  subst e'
  exact ⟨rfl, N', K', G0', G1', G2', G3'⟩
theorem d8_0 : decode prog_21_method_6_code 0 = .ok (.aload_n 0, 1) := by decide +kernel
theorem d8_1 : decode prog_21_method_6_code 1 = .ok (.getfield 7, 3) := by decide +kernel
theorem d8_4 : decode prog_21_method_6_code 4 = .ok (.ireturn, 1) := by decide +kernel
theorem pn_8 : plainName "com/example/saho/saho/load/LineCounter" = true := by first | (simp [plainName, overriddenIn]; done) | decide +kernel
theorem ef_8 (m : MethodId) (a0 : Addr) : entryFrame m #[(.ref a0)] 1 = mkF m 0 #[.val (.ref a0)] [] := by first | (simp [entryFrame, mkF, argsToLocals, Value.category]; done) | rfl
def own_f8_0 (w_line_a0 : Int32) : Int32 :=
  w_line_a0
set_option maxRecDepth 65536 in
set_option maxHeartbeats 40000000 in
theorem own_b8_0 {p : Program} {l : Launch} {e : Env} {s : State} {m : MethodId} {args : Array Value} {below : List Frame} {meth : Method} {c : Code} {Z : State} {a0_ : Array Value} (hx : p.tables.exec = Jvm.exec) (hZ : Z.Warmed39 s.vm) (hw : ∀ d ∈ tables_1, d.before a0_ Z = true) (hby : c.code = prog_21_method_6_code) (hml : c.maxLocals = 1) (hown : s.vm.findClass "com/example/saho/saho/load/LineCounter" = some m.cls) (hret : meth.sig.returnType = some .int) {T0 : State} {locs : List Loc} {cells slots : Nat} {h0 : Heap} (a0 : Addr) (w_line_a0 : Int32)
    (X0 : Stand p l e ({ frames := 0, cells := 0, slots := 0, locals := 0 } : Room) s m args below meth c T0 locs cells slots) (e0 : T0.heap = h0) (hcl : cells ≤ ({ frames := 0, cells := 0, slots := 0, locals := 0 } : Room).cells) (hsl : slots ≤ ({ frames := 0, cells := 0, slots := 0, locals := 0 } : Room).slots) (F_line_a0 : Fld Z h0 a0 "com/example/saho/saho/load/LineCounter" "line" "I" (.int w_line_a0)) :
    ∃ T', Stand p l e ({ frames := 0, cells := 0, slots := 0, locals := 0 } : Room) s m args below meth c T' locs cells slots ∧ T'.heap = h0 ∧ ∀ fs, (∀ (f : JFrame) (acts : List Action), f.method = m → f.locked = none → f.entered = [] → (doReturn e (T'.setTop f) acts (some (.int (own_f8_0 w_line_a0)))).1 = T'.setFrames fs) → Steps p.tables e below (T0.setTop (mkF m 0 #[.val (.ref a0)] [])) (T'.setFrames fs) := by
  obtain ⟨T1, X1, e1, st1⟩ := getF X0 hx hZ hown (host := "") (Or.inl (hw _ (List.mem_of_getElem? (i := 14) rfl))) Via.refl e0 F_line_a0 (g := (mkF m 1 #[.val (.ref a0)] [(.ref a0)])) rfl rfl (hb hby d8_1)
  refine ⟨T1, X1, e1, fun fs hr => ?_⟩
  have hv : (own_f8_0 w_line_a0) = w_line_a0 := by unfold own_f8_0; rfl
  rw [hv] at hr
  show Steps p.tables e below (T0.setTop (mkF m 0 #[.val (.ref a0)] [])) _
  refine XS.aloadN X0.here hx rfl (hb hby d8_0) rfl rfl ?_
  show Steps p.tables e below (T0.setTop (mkF m 1 #[.val (.ref a0)] [(.ref a0)])) _
  refine st1 _ ?_
  show Steps p.tables e below (T1.setTop (mkF m 4 #[.val (.ref a0)] [(.int w_line_a0)])) _
  exact retI X1 hx hret (hb hby d8_4) hr
def Q8 (Z : State) (a0 : Addr) (w_line_a0 : Int32) (h0 : Heap) (n0 : Nat) (v : Option Value) (h : Heap) (L : List Loc) : Prop := v = some (.int (own_f8_0 w_line_a0)) ∧ L = [] ∧ h = h0
set_option maxRecDepth 65536 in
set_option maxHeartbeats 40000000 in
theorem rm8 (l : Launch) (Z : State) (a0_ : Array Value) (hw : ∀ d ∈ tables_1, d.before a0_ Z = true) (ws : List Jvm.Cond) (a0 : Addr) (w_line_a0 : Int32) (h0 : Heap) (n0 : Nat) (Z0 : n0 ≤ h0.size) (F_line_a0 : Fld Z h0 a0 "com/example/saho/saho/load/LineCounter" "line" "I" (.int w_line_a0)) :
    MetFree l (⟨"com/example/saho/saho/load/LineCounter", "line", "()I"⟩ : MethodName) (head1 (Jvm.Cond.code (⟨"com/example/saho/saho/load/LineCounter", "line", "()I"⟩ : MethodName) prog_21_method_6_code 1 (some .int) :: ws) ({ frames := 0, cells := 0, slots := 0, locals := 0 } : Room)) (fun a U => a = #[(.ref a0)] ∧ Z.Warmed39 U.vm ∧ U.heap = h0) (fun _ _ _ _ _ => True) (fun _ U o U' => ∃ v L, o = .returned v ∧ Q8 Z a0 w_line_a0 h0 n0 v U'.heap L ∧ FrameEnd U o U' L ({ frames := 0, cells := 0, slots := 0, locals := 0 } : Room).cells ({ frames := 0, cells := 0, slots := 0, locals := 0 } : Room).slots) := by
  refine MetFree.of_bodySF (plainFor_of_name pn_8) hisR ?_
  intro p e s m args below meth c s₁ Bd hml0 hP hK
  obtain ⟨rfl, hZ, hh⟩ := hP
  have hx := Bd.exec
  have hby := Bd.bytes
  have hml : c.maxLocals = 1 := hml0
  have hown : s.vm.findClass "com/example/saho/saho/load/LineCounter" = some m.cls := findClass_of_methodNamed Bd.named
  have X0 : Stand p l e ({ frames := 0, cells := 0, slots := 0, locals := 0 } : Room) s m #[(.ref a0)] below meth c s₁ [] 0 0 := Stand.of_body Bd
  have e0 : s₁.heap = h0 := by rw [← hh, Bd.state]; rfl
  obtain ⟨T', X', e', st'⟩ := own_b8_0 hx hZ hw hby hml hown Bd.returns  a0 w_line_a0 X0 e0 (by decide) (by decide) F_line_a0
  obtain ⟨fs, hr, hrun, hended, hW, hsame⟩ := X'.leave (v := some (.int (own_f8_0 w_line_a0))) (fun h => by rw [Bd.returns] at h; cases h)
  refine ⟨_, _, castTop (ef_8 m a0) (st' fs hr), hrun, hended, _, _, rfl, ?_, ⟨_, rfl⟩, hW, hsame.mono (by decide) (by decide)⟩
  exact ⟨rfl, rfl, e'⟩
theorem d9_0 : decode prog_21_method_7_code 0 = .ok (.aload_n 0, 1) := by decide +kernel
theorem d9_1 : decode prog_21_method_7_code 1 = .ok (.getfield 14, 3) := by decide +kernel
theorem d9_4 : decode prog_21_method_7_code 4 = .ok (.iconst 1, 1) := by decide +kernel
theorem d9_5 : decode prog_21_method_7_code 5 = .ok (.iadd, 1) := by decide +kernel
theorem d9_6 : decode prog_21_method_7_code 6 = .ok (.ireturn, 1) := by decide +kernel
theorem pn_9 : plainName "com/example/saho/saho/load/LineCounter" = true := by first | (simp [plainName, overriddenIn]; done) | decide +kernel
theorem ef_9 (m : MethodId) (a0 : Addr) : entryFrame m #[(.ref a0)] 1 = mkF m 0 #[.val (.ref a0)] [] := by first | (simp [entryFrame, mkF, argsToLocals, Value.category]; done) | rfl
def own_f9_0 (w_column_a0 : Int32) : Int32 :=
  (w_column_a0 + (1 : Int32))
set_option maxRecDepth 65536 in
set_option maxHeartbeats 40000000 in
theorem own_b9_0 {p : Program} {l : Launch} {e : Env} {s : State} {m : MethodId} {args : Array Value} {below : List Frame} {meth : Method} {c : Code} {Z : State} {a0_ : Array Value} (hx : p.tables.exec = Jvm.exec) (hZ : Z.Warmed39 s.vm) (hw : ∀ d ∈ tables_1, d.before a0_ Z = true) (hby : c.code = prog_21_method_7_code) (hml : c.maxLocals = 1) (hown : s.vm.findClass "com/example/saho/saho/load/LineCounter" = some m.cls) (hret : meth.sig.returnType = some .int) {T0 : State} {locs : List Loc} {cells slots : Nat} {h0 : Heap} (a0 : Addr) (w_column_a0 : Int32)
    (X0 : Stand p l e ({ frames := 0, cells := 0, slots := 0, locals := 0 } : Room) s m args below meth c T0 locs cells slots) (e0 : T0.heap = h0) (hcl : cells ≤ ({ frames := 0, cells := 0, slots := 0, locals := 0 } : Room).cells) (hsl : slots ≤ ({ frames := 0, cells := 0, slots := 0, locals := 0 } : Room).slots) (F_column_a0 : Fld Z h0 a0 "com/example/saho/saho/load/LineCounter" "column" "I" (.int w_column_a0)) :
    ∃ T', Stand p l e ({ frames := 0, cells := 0, slots := 0, locals := 0 } : Room) s m args below meth c T' locs cells slots ∧ T'.heap = h0 ∧ ∀ fs, (∀ (f : JFrame) (acts : List Action), f.method = m → f.locked = none → f.entered = [] → (doReturn e (T'.setTop f) acts (some (.int (own_f9_0 w_column_a0)))).1 = T'.setFrames fs) → Steps p.tables e below (T0.setTop (mkF m 0 #[.val (.ref a0)] [])) (T'.setFrames fs) := by
  obtain ⟨T1, X1, e1, st1⟩ := getF X0 hx hZ hown (host := "") (Or.inl (hw _ (List.mem_of_getElem? (i := 21) rfl))) Via.refl e0 F_column_a0 (g := (mkF m 1 #[.val (.ref a0)] [(.ref a0)])) rfl rfl (hb hby d9_1)
  refine ⟨T1, X1, e1, fun fs hr => ?_⟩
  have hv : (own_f9_0 w_column_a0) = (w_column_a0 + (1 : Int32)) := by unfold own_f9_0; rfl
  rw [hv] at hr
  show Steps p.tables e below (T0.setTop (mkF m 0 #[.val (.ref a0)] [])) _
  refine XS.aloadN X0.here hx rfl (hb hby d9_0) rfl rfl ?_
  show Steps p.tables e below (T0.setTop (mkF m 1 #[.val (.ref a0)] [(.ref a0)])) _
  refine st1 _ ?_
  show Steps p.tables e below (T1.setTop (mkF m 4 #[.val (.ref a0)] [(.int w_column_a0)])) _
  refine XS.iconst X1.here hx rfl (hb hby d9_4) ?_
  show Steps p.tables e below (T1.setTop (mkF m 5 #[.val (.ref a0)] [(.int (1 : Int32)), (.int w_column_a0)])) _
  refine XS.iadd X1.here hx rfl (hb hby d9_5) rfl ?_
  show Steps p.tables e below (T1.setTop (mkF m 6 #[.val (.ref a0)] [(.int (w_column_a0 + (1 : Int32)))])) _
  exact retI X1 hx hret (hb hby d9_6) hr
def Q9 (Z : State) (a0 : Addr) (w_column_a0 : Int32) (h0 : Heap) (n0 : Nat) (v : Option Value) (h : Heap) (L : List Loc) : Prop := v = some (.int (own_f9_0 w_column_a0)) ∧ L = [] ∧ h = h0
set_option maxRecDepth 65536 in
set_option maxHeartbeats 40000000 in
theorem rm9 (l : Launch) (Z : State) (a0_ : Array Value) (hw : ∀ d ∈ tables_1, d.before a0_ Z = true) (ws : List Jvm.Cond) (a0 : Addr) (w_column_a0 : Int32) (h0 : Heap) (n0 : Nat) (Z0 : n0 ≤ h0.size) (F_column_a0 : Fld Z h0 a0 "com/example/saho/saho/load/LineCounter" "column" "I" (.int w_column_a0)) :
    MetFree l (⟨"com/example/saho/saho/load/LineCounter", "nextColumn", "()I"⟩ : MethodName) (head1 (Jvm.Cond.code (⟨"com/example/saho/saho/load/LineCounter", "nextColumn", "()I"⟩ : MethodName) prog_21_method_7_code 1 (some .int) :: ws) ({ frames := 0, cells := 0, slots := 0, locals := 0 } : Room)) (fun a U => a = #[(.ref a0)] ∧ Z.Warmed39 U.vm ∧ U.heap = h0) (fun _ _ _ _ _ => True) (fun _ U o U' => ∃ v L, o = .returned v ∧ Q9 Z a0 w_column_a0 h0 n0 v U'.heap L ∧ FrameEnd U o U' L ({ frames := 0, cells := 0, slots := 0, locals := 0 } : Room).cells ({ frames := 0, cells := 0, slots := 0, locals := 0 } : Room).slots) := by
  refine MetFree.of_bodySF (plainFor_of_name pn_9) hisR ?_
  intro p e s m args below meth c s₁ Bd hml0 hP hK
  obtain ⟨rfl, hZ, hh⟩ := hP
  have hx := Bd.exec
  have hby := Bd.bytes
  have hml : c.maxLocals = 1 := hml0
  have hown : s.vm.findClass "com/example/saho/saho/load/LineCounter" = some m.cls := findClass_of_methodNamed Bd.named
  have X0 : Stand p l e ({ frames := 0, cells := 0, slots := 0, locals := 0 } : Room) s m #[(.ref a0)] below meth c s₁ [] 0 0 := Stand.of_body Bd
  have e0 : s₁.heap = h0 := by rw [← hh, Bd.state]; rfl
  obtain ⟨T', X', e', st'⟩ := own_b9_0 hx hZ hw hby hml hown Bd.returns  a0 w_column_a0 X0 e0 (by decide) (by decide) F_column_a0
  obtain ⟨fs, hr, hrun, hended, hW, hsame⟩ := X'.leave (v := some (.int (own_f9_0 w_column_a0))) (fun h => by rw [Bd.returns] at h; cases h)
  refine ⟨_, _, castTop (ef_9 m a0) (st' fs hr), hrun, hended, _, _, rfl, ?_, ⟨_, rfl⟩, hW, hsame.mono (by decide) (by decide)⟩
  exact ⟨rfl, rfl, e'⟩
theorem pn_0 : plainName "com/example/saho/saho/load/LineCounterAdvancePinLaw" = true := by first | (simp [plainName, overriddenIn]; done) | decide +kernel
theorem pd_0_0 : parseMethodDescriptor "(I)C" = some ⟨[.int], some .char⟩ := by decide +kernel
theorem pd_0_1 : parseMethodDescriptor "()V" = some ⟨[], none⟩ := by decide +kernel
theorem pd_0_2 : parseMethodDescriptor "(I)V" = some ⟨[.int], none⟩ := by decide +kernel
theorem pd_0_3 : parseMethodDescriptor "(C)Z" = some ⟨[.char], some .boolean⟩ := by decide +kernel
theorem pd_0_4 : parseMethodDescriptor "(CC)I" = some ⟨[.char, .char], some .int⟩ := by decide +kernel
theorem pd_0_5 : parseMethodDescriptor "(C)V" = some ⟨[.char], none⟩ := by decide +kernel
theorem pd_0_6 : parseMethodDescriptor "()I" = some ⟨[], some .int⟩ := by decide +kernel
theorem ef_0 (m : MethodId) (i0 : Int32) (i1 : Int32) (i2 : Int32) (i3 : Int32) : entryFrame m #[(.int i0), (.int i1), (.int i2), (.int i3)] maxLocals = mkF m 0 #[.val (.int i0), .val (.int i1), .val (.int i2), .val (.int i3), .unset, .unset, .unset, .unset, .unset, .unset, .unset, .unset, .unset, .unset, .unset, .unset, .unset, .unset] [] := by first | (simp [entryFrame, mkF, argsToLocals, Value.category, maxLocals]; done) | rfl
def own_f0_276 (i0 : Int32) (i1 : Int32) (i2 : Int32) (i3 : Int32) (i4 : Int32) (i5 : Int32) (i6 : Int32) (i7 : Int32) (i9 : Int32) (i10 : Int32) (i11 : Int32) (i12 : Int32) (i13 : Int32) (i14 : Int32) (i15 : Int32) (i16 : Int32) (u0 : Int32) (w_line_a8 : Int32) (w_column_a8 : Int32) (w_afterCarriageReturn_a8 : Int32) : Int32 :=
  (if i15 = (0 : Int32) then (0 : Int32) else (if i16 = (0 : Int32) then (0 : Int32) else (if u0 = (0 : Int32) then (0 : Int32) else (1 : Int32))))
def own_f0_275 (i0 : Int32) (i1 : Int32) (i2 : Int32) (i3 : Int32) (i4 : Int32) (i5 : Int32) (i6 : Int32) (i7 : Int32) (i9 : Int32) (i10 : Int32) (i11 : Int32) (i12 : Int32) (i13 : Int32) (i14 : Int32) (i15 : Int32) (i16 : Int32) (w_line_a8 : Int32) (w_column_a8 : Int32) (w_afterCarriageReturn_a8 : Int32) : Int32 :=
  (own_f0_276 i0 i1 i2 i3 i4 i5 i6 i7 i9 i10 i11 i12 i13 i14 i15 i16 (0 : Int32) w_line_a8 w_column_a8 w_afterCarriageReturn_a8)
def own_f0_242 (i0 : Int32) (i1 : Int32) (i2 : Int32) (i3 : Int32) (i4 : Int32) (i5 : Int32) (i6 : Int32) (i7 : Int32) (i9 : Int32) (i10 : Int32) (i11 : Int32) (i12 : Int32) (i13 : Int32) (i14 : Int32) (i15 : Int32) (u0 : Int32) (w_line_a8 : Int32) (w_column_a8 : Int32) (w_afterCarriageReturn_a8 : Int32) : Int32 :=
  (if (own_f8_0 (own_o7_line i6 w_line_a8 w_column_a8 w_afterCarriageReturn_a8)) = i11 then (if (own_f9_0 (own_o7_column i6 w_line_a8 w_column_a8 w_afterCarriageReturn_a8)) = i14 then (own_f0_276 i0 i1 i2 i3 i4 i5 i6 i7 i9 i10 i11 i12 i13 i14 i15 u0 (1 : Int32) (own_o7_line i6 w_line_a8 w_column_a8 w_afterCarriageReturn_a8) (own_o7_column i6 w_line_a8 w_column_a8 w_afterCarriageReturn_a8) (own_o7_afterCarriageReturn i6 w_line_a8 w_column_a8 w_afterCarriageReturn_a8)) else (own_f0_275 i0 i1 i2 i3 i4 i5 i6 i7 i9 i10 i11 i12 i13 i14 i15 u0 (own_o7_line i6 w_line_a8 w_column_a8 w_afterCarriageReturn_a8) (own_o7_column i6 w_line_a8 w_column_a8 w_afterCarriageReturn_a8) (own_o7_afterCarriageReturn i6 w_line_a8 w_column_a8 w_afterCarriageReturn_a8))) else (own_f0_275 i0 i1 i2 i3 i4 i5 i6 i7 i9 i10 i11 i12 i13 i14 i15 u0 (own_o7_line i6 w_line_a8 w_column_a8 w_afterCarriageReturn_a8) (own_o7_column i6 w_line_a8 w_column_a8 w_afterCarriageReturn_a8) (own_o7_afterCarriageReturn i6 w_line_a8 w_column_a8 w_afterCarriageReturn_a8)))
def own_f0_241 (i0 : Int32) (i1 : Int32) (i2 : Int32) (i3 : Int32) (i4 : Int32) (i5 : Int32) (i6 : Int32) (i7 : Int32) (i9 : Int32) (i10 : Int32) (i11 : Int32) (i12 : Int32) (i13 : Int32) (i14 : Int32) (i15 : Int32) (w_line_a8 : Int32) (w_column_a8 : Int32) (w_afterCarriageReturn_a8 : Int32) : Int32 :=
  (own_f0_242 i0 i1 i2 i3 i4 i5 i6 i7 i9 i10 i11 i12 i13 i14 i15 (0 : Int32) w_line_a8 w_column_a8 w_afterCarriageReturn_a8)
def own_f0_208 (i0 : Int32) (i1 : Int32) (i2 : Int32) (i3 : Int32) (i4 : Int32) (i5 : Int32) (i6 : Int32) (i7 : Int32) (i9 : Int32) (i10 : Int32) (i11 : Int32) (i12 : Int32) (i13 : Int32) (i14 : Int32) (u0 : Int32) (w_line_a8 : Int32) (w_column_a8 : Int32) (w_afterCarriageReturn_a8 : Int32) : Int32 :=
  (if (own_f8_0 (own_o7_line i5 w_line_a8 w_column_a8 w_afterCarriageReturn_a8)) = i10 then (if (own_f9_0 (own_o7_column i5 w_line_a8 w_column_a8 w_afterCarriageReturn_a8)) = i13 then (own_f0_242 i0 i1 i2 i3 i4 i5 i6 i7 i9 i10 i11 i12 i13 i14 u0 (1 : Int32) (own_o7_line i5 w_line_a8 w_column_a8 w_afterCarriageReturn_a8) (own_o7_column i5 w_line_a8 w_column_a8 w_afterCarriageReturn_a8) (own_o7_afterCarriageReturn i5 w_line_a8 w_column_a8 w_afterCarriageReturn_a8)) else (own_f0_241 i0 i1 i2 i3 i4 i5 i6 i7 i9 i10 i11 i12 i13 i14 u0 (own_o7_line i5 w_line_a8 w_column_a8 w_afterCarriageReturn_a8) (own_o7_column i5 w_line_a8 w_column_a8 w_afterCarriageReturn_a8) (own_o7_afterCarriageReturn i5 w_line_a8 w_column_a8 w_afterCarriageReturn_a8))) else (own_f0_241 i0 i1 i2 i3 i4 i5 i6 i7 i9 i10 i11 i12 i13 i14 u0 (own_o7_line i5 w_line_a8 w_column_a8 w_afterCarriageReturn_a8) (own_o7_column i5 w_line_a8 w_column_a8 w_afterCarriageReturn_a8) (own_o7_afterCarriageReturn i5 w_line_a8 w_column_a8 w_afterCarriageReturn_a8)))
def own_f0_207 (i0 : Int32) (i1 : Int32) (i2 : Int32) (i3 : Int32) (i4 : Int32) (i5 : Int32) (i6 : Int32) (i7 : Int32) (i9 : Int32) (i10 : Int32) (i11 : Int32) (i12 : Int32) (i13 : Int32) (i14 : Int32) (w_line_a8 : Int32) (w_column_a8 : Int32) (w_afterCarriageReturn_a8 : Int32) : Int32 :=
  (own_f0_208 i0 i1 i2 i3 i4 i5 i6 i7 i9 i10 i11 i12 i13 i14 (0 : Int32) w_line_a8 w_column_a8 w_afterCarriageReturn_a8)
def own_f0_174 (i0 : Int32) (i1 : Int32) (i2 : Int32) (i3 : Int32) (i4 : Int32) (i5 : Int32) (i6 : Int32) (i7 : Int32) (i9 : Int32) (i10 : Int32) (i11 : Int32) (i12 : Int32) (i13 : Int32) (u0 : Int32) (w_line_a8 : Int32) (w_column_a8 : Int32) (w_afterCarriageReturn_a8 : Int32) : Int32 :=
  (if (own_f8_0 (own_o7_line i4 w_line_a8 w_column_a8 w_afterCarriageReturn_a8)) = i9 then (if (own_f9_0 (own_o7_column i4 w_line_a8 w_column_a8 w_afterCarriageReturn_a8)) = i12 then (own_f0_208 i0 i1 i2 i3 i4 i5 i6 i7 i9 i10 i11 i12 i13 u0 (1 : Int32) (own_o7_line i4 w_line_a8 w_column_a8 w_afterCarriageReturn_a8) (own_o7_column i4 w_line_a8 w_column_a8 w_afterCarriageReturn_a8) (own_o7_afterCarriageReturn i4 w_line_a8 w_column_a8 w_afterCarriageReturn_a8)) else (own_f0_207 i0 i1 i2 i3 i4 i5 i6 i7 i9 i10 i11 i12 i13 u0 (own_o7_line i4 w_line_a8 w_column_a8 w_afterCarriageReturn_a8) (own_o7_column i4 w_line_a8 w_column_a8 w_afterCarriageReturn_a8) (own_o7_afterCarriageReturn i4 w_line_a8 w_column_a8 w_afterCarriageReturn_a8))) else (own_f0_207 i0 i1 i2 i3 i4 i5 i6 i7 i9 i10 i11 i12 i13 u0 (own_o7_line i4 w_line_a8 w_column_a8 w_afterCarriageReturn_a8) (own_o7_column i4 w_line_a8 w_column_a8 w_afterCarriageReturn_a8) (own_o7_afterCarriageReturn i4 w_line_a8 w_column_a8 w_afterCarriageReturn_a8)))
def own_f0_132 (i0 : Int32) (i1 : Int32) (i2 : Int32) (i3 : Int32) (i4 : Int32) (i5 : Int32) (i6 : Int32) (i7 : Int32) (i9 : Int32) (i10 : Int32) (i11 : Int32) (i12 : Int32) (u0 : Int32) (w_line_a8 : Int32) (w_column_a8 : Int32) (w_afterCarriageReturn_a8 : Int32) : Int32 :=
  (if (own_f5_0 i6) = (0 : Int32) then (if (own_f5_0 i5) = (0 : Int32) then (if (own_f5_0 i4) = (0 : Int32) then (own_f0_174 i0 i1 i2 i3 i4 i5 i6 i7 i9 i10 i11 i12 u0 (i7 + (4 : Int32)) w_line_a8 w_column_a8 w_afterCarriageReturn_a8) else (own_f0_174 i0 i1 i2 i3 i4 i5 i6 i7 i9 i10 i11 i12 u0 (3 : Int32) w_line_a8 w_column_a8 w_afterCarriageReturn_a8)) else (own_f0_174 i0 i1 i2 i3 i4 i5 i6 i7 i9 i10 i11 i12 u0 (2 : Int32) w_line_a8 w_column_a8 w_afterCarriageReturn_a8)) else (own_f0_174 i0 i1 i2 i3 i4 i5 i6 i7 i9 i10 i11 i12 u0 (1 : Int32) w_line_a8 w_column_a8 w_afterCarriageReturn_a8))
def own_f0_102 (i0 : Int32) (i1 : Int32) (i2 : Int32) (i3 : Int32) (i4 : Int32) (i5 : Int32) (i6 : Int32) (i7 : Int32) (i9 : Int32) (i10 : Int32) (i11 : Int32) (u0 : Int32) (w_line_a8 : Int32) (w_column_a8 : Int32) (w_afterCarriageReturn_a8 : Int32) : Int32 :=
  (if (own_f5_0 i5) = (0 : Int32) then (if (own_f5_0 i4) = (0 : Int32) then (own_f0_132 i0 i1 i2 i3 i4 i5 i6 i7 i9 i10 i11 u0 (i7 + (3 : Int32)) w_line_a8 w_column_a8 w_afterCarriageReturn_a8) else (own_f0_132 i0 i1 i2 i3 i4 i5 i6 i7 i9 i10 i11 u0 (2 : Int32) w_line_a8 w_column_a8 w_afterCarriageReturn_a8)) else (own_f0_132 i0 i1 i2 i3 i4 i5 i6 i7 i9 i10 i11 u0 (1 : Int32) w_line_a8 w_column_a8 w_afterCarriageReturn_a8))
def own_f0_59 (i0 : Int32) (i1 : Int32) (i2 : Int32) (i3 : Int32) (i4 : Int32) (i5 : Int32) (i6 : Int32) (i7 : Int32) (u0 : Int32) (u1 : Int32) (w_line_a8 : Int32) (w_column_a8 : Int32) (w_afterCarriageReturn_a8 : Int32) : Int32 :=
  (if (own_f5_0 i4) = (0 : Int32) then (own_f0_102 i0 i1 i2 i3 i4 i5 i6 i7 (u1 + u0) ((u1 + u0) + (own_f6_0 i4 i5)) (((u1 + u0) + (own_f6_0 i4 i5)) + (own_f6_0 i5 i6)) (i7 + (2 : Int32)) w_line_a8 w_column_a8 w_afterCarriageReturn_a8) else (own_f0_102 i0 i1 i2 i3 i4 i5 i6 i7 (u1 + u0) ((u1 + u0) + (own_f6_0 i4 i5)) (((u1 + u0) + (own_f6_0 i4 i5)) + (own_f6_0 i5 i6)) (1 : Int32) w_line_a8 w_column_a8 w_afterCarriageReturn_a8))
def own_f0_45 (i0 : Int32) (i1 : Int32) (i2 : Int32) (i3 : Int32) (i4 : Int32) (i5 : Int32) (i6 : Int32) (i7 : Int32) (w_line_a8 : Int32) (w_column_a8 : Int32) (w_afterCarriageReturn_a8 : Int32) : Int32 :=
  (if (own_f5_0 i4) = (0 : Int32) then (own_f0_59 i0 i1 i2 i3 i4 i5 i6 i7 (0 : Int32) (1 : Int32) w_line_a8 w_column_a8 w_afterCarriageReturn_a8) else (own_f0_59 i0 i1 i2 i3 i4 i5 i6 i7 (1 : Int32) (1 : Int32) w_line_a8 w_column_a8 w_afterCarriageReturn_a8))
def own_f0_0 (i0 : Int32) (i1 : Int32) (i2 : Int32) (i3 : Int32) : Int32 :=
  (if (0 : Int32) < (i3 &&& (65535 : Int32)) then (own_f0_45 i0 i1 i2 i3 (own_f1_0 i0) (own_f1_0 i1) (own_f1_0 i2) (i3 &&& (65535 : Int32)) (own_o2_line (0 : Int32) (0 : Int32) (0 : Int32)) (own_o4_column (i3 &&& (65535 : Int32)) (own_o2_line (0 : Int32) (0 : Int32) (0 : Int32)) (0 : Int32) (0 : Int32)) (own_o4_afterCarriageReturn (i3 &&& (65535 : Int32)) (own_o2_line (0 : Int32) (0 : Int32) (0 : Int32)) (0 : Int32) (0 : Int32))) else (own_f0_45 i0 i1 i2 i3 (own_f1_0 i0) (own_f1_0 i1) (own_f1_0 i2) (i3 &&& (65535 : Int32)) (own_o2_line (0 : Int32) (0 : Int32) (0 : Int32)) (0 : Int32) (0 : Int32)))
set_option maxRecDepth 65536 in
set_option maxHeartbeats 40000000 in
theorem own_b0_276 {p : Program} {l : Launch} {e : Env} {s : State} {m : MethodId} {args : Array Value} {below : List Frame} {meth : Method} {c : Code} {Z : State} {a0_ : Array Value} {n0 : Nat} (hx : p.tables.exec = Jvm.exec) (hZ : Z.Warmed39 s.vm) (hw : ∀ d ∈ tables_1, d.before a0_ Z = true) (hby : c.code = code) (hml : c.maxLocals = 18) (hown : s.vm.findClass "com/example/saho/saho/load/LineCounterAdvancePinLaw" = some m.cls) (hret : meth.sig.returnType = some .boolean) {T0 : State} {locs : List Loc} {h0 : Heap} (i0 : Int32) (i1 : Int32) (i2 : Int32) (i3 : Int32) (i4 : Int32) (i5 : Int32) (i6 : Int32) (i7 : Int32) (a8 : Addr) (i9 : Int32) (i10 : Int32) (i11 : Int32) (i12 : Int32) (i13 : Int32) (i14 : Int32) (i15 : Int32) (i16 : Int32) (u0 : Int32) (w_line_a8 : Int32) (w_column_a8 : Int32) (w_afterCarriageReturn_a8 : Int32)
    (X0 : Stand p l e room_1 s m args below meth c T0 locs 1 3) (e0 : T0.heap = h0) (N0 : Fr n0 locs) (Z0 : n0 ≤ h0.size) (g_a8 : n0 ≤ a8) (E_a8 : Exa Z h0 a8 "com/example/saho/saho/load/LineCounter") (F_line_a8 : Fld Z h0 a8 "com/example/saho/saho/load/LineCounter" "line" "I" (.int w_line_a8)) (F_column_a8 : Fld Z h0 a8 "com/example/saho/saho/load/LineCounter" "column" "I" (.int w_column_a8)) (F_afterCarriageReturn_a8 : Fld Z h0 a8 "com/example/saho/saho/load/LineCounter" "afterCarriageReturn" "Z" (.int w_afterCarriageReturn_a8)) :
    ∃ T' locs' cells' slots', Stand p l e room_1 s m args below meth c T' locs' cells' slots' ∧ Fr n0 locs' ∧ cells' ≤ room_1.cells ∧ slots' ≤ room_1.slots ∧ ∀ fs, (∀ (f : JFrame) (acts : List Action), f.method = m → f.locked = none → f.entered = [] → (doReturn e (T'.setTop f) acts (some (.int (own_f0_276 i0 i1 i2 i3 i4 i5 i6 i7 i9 i10 i11 i12 i13 i14 i15 i16 u0 w_line_a8 w_column_a8 w_afterCarriageReturn_a8)))).1 = T'.setFrames fs) → Steps p.tables e below (T0.setTop (mkF m 276 #[.val (.int i0), .val (.int i1), .val (.int i2), .val (.int i3), .val (.int i4), .val (.int i5), .val (.int i6), .val (.int i7), .val (.ref a8), .val (.int i9), .val (.int i10), .val (.int i11), .val (.int i12), .val (.int i13), .val (.int i14), .val (.int i15), .val (.int i16), .unset] [(.int u0)])) (T'.setFrames fs) := by
  have pre1 : ∀ target, Steps p.tables e below (T0.setTop (mkF m 280 #[.val (.int i0), .val (.int i1), .val (.int i2), .val (.int i3), .val (.int i4), .val (.int i5), .val (.int i6), .val (.int i7), .val (.ref a8), .val (.int i9), .val (.int i10), .val (.int i11), .val (.int i12), .val (.int i13), .val (.int i14), .val (.int i15), .val (.int i16), .val (.int u0)] [(.int i15)])) target → Steps p.tables e below (T0.setTop (mkF m 276 #[.val (.int i0), .val (.int i1), .val (.int i2), .val (.int i3), .val (.int i4), .val (.int i5), .val (.int i6), .val (.int i7), .val (.ref a8), .val (.int i9), .val (.int i10), .val (.int i11), .val (.int i12), .val (.int i13), .val (.int i14), .val (.int i15), .val (.int i16), .unset] [(.int u0)])) target := by
    intro target kt
    show Steps p.tables e below (T0.setTop (mkF m 276 #[.val (.int i0), .val (.int i1), .val (.int i2), .val (.int i3), .val (.int i4), .val (.int i5), .val (.int i6), .val (.int i7), .val (.ref a8), .val (.int i9), .val (.int i10), .val (.int i11), .val (.int i12), .val (.int i13), .val (.int i14), .val (.int i15), .val (.int i16), .unset] [(.int u0)])) _
    refine XS.istore X0.here hx rfl (hb hby at_276) rfl (l' := #[.val (.int i0), .val (.int i1), .val (.int i2), .val (.int i3), .val (.int i4), .val (.int i5), .val (.int i6), .val (.int i7), .val (.ref a8), .val (.int i9), .val (.int i10), .val (.int i11), .val (.int i12), .val (.int i13), .val (.int i14), .val (.int i15), .val (.int i16), .val (.int u0)]) rfl ?_
    show Steps p.tables e below (T0.setTop (mkF m 278 #[.val (.int i0), .val (.int i1), .val (.int i2), .val (.int i3), .val (.int i4), .val (.int i5), .val (.int i6), .val (.int i7), .val (.ref a8), .val (.int i9), .val (.int i10), .val (.int i11), .val (.int i12), .val (.int i13), .val (.int i14), .val (.int i15), .val (.int i16), .val (.int u0)] [])) _
    refine XS.iload X0.here hx rfl (hb hby at_278) rfl ?_
    exact kt
  by_cases hc280 : i15 = (0 : Int32)
  · refine ⟨T0, _, _, _, X0, N0, (by decide), (by decide), fun fs hr => ?_⟩
    have hv : (own_f0_276 i0 i1 i2 i3 i4 i5 i6 i7 i9 i10 i11 i12 i13 i14 i15 i16 u0 w_line_a8 w_column_a8 w_afterCarriageReturn_a8) = (0 : Int32) := by unfold own_f0_276; rw [if_pos hc280]
    rw [hv] at hr
    refine pre1 _ ?_
    show Steps p.tables e below (T0.setTop (mkF m 280 #[.val (.int i0), .val (.int i1), .val (.int i2), .val (.int i3), .val (.int i4), .val (.int i5), .val (.int i6), .val (.int i7), .val (.ref a8), .val (.int i9), .val (.int i10), .val (.int i11), .val (.int i12), .val (.int i13), .val (.int i14), .val (.int i15), .val (.int i16), .val (.int u0)] [(.int i15)])) _
    refine XS.ifYes X0.here hx rfl (pc0 := 280) (pc' := 297) rfl (hb hby at_280) rfl ((if0 _ _).trans (teq hc280).1) (by decide) (by decide) ?_
    show Steps p.tables e below (T0.setTop (mkF m 297 #[.val (.int i0), .val (.int i1), .val (.int i2), .val (.int i3), .val (.int i4), .val (.int i5), .val (.int i6), .val (.int i7), .val (.ref a8), .val (.int i9), .val (.int i10), .val (.int i11), .val (.int i12), .val (.int i13), .val (.int i14), .val (.int i15), .val (.int i16), .val (.int u0)] [])) _
    refine XS.iconst X0.here hx rfl (hb hby at_297) ?_
    show Steps p.tables e below (T0.setTop (mkF m 298 #[.val (.int i0), .val (.int i1), .val (.int i2), .val (.int i3), .val (.int i4), .val (.int i5), .val (.int i6), .val (.int i7), .val (.ref a8), .val (.int i9), .val (.int i10), .val (.int i11), .val (.int i12), .val (.int i13), .val (.int i14), .val (.int i15), .val (.int i16), .val (.int u0)] [(.int (0 : Int32))])) _
    exact retN X0 hx (t := .boolean) hret (by simp) (hb hby at_298) hr
  · have pre2 : ∀ target, Steps p.tables e below (T0.setTop (mkF m 285 #[.val (.int i0), .val (.int i1), .val (.int i2), .val (.int i3), .val (.int i4), .val (.int i5), .val (.int i6), .val (.int i7), .val (.ref a8), .val (.int i9), .val (.int i10), .val (.int i11), .val (.int i12), .val (.int i13), .val (.int i14), .val (.int i15), .val (.int i16), .val (.int u0)] [(.int i16)])) target → Steps p.tables e below (T0.setTop (mkF m 276 #[.val (.int i0), .val (.int i1), .val (.int i2), .val (.int i3), .val (.int i4), .val (.int i5), .val (.int i6), .val (.int i7), .val (.ref a8), .val (.int i9), .val (.int i10), .val (.int i11), .val (.int i12), .val (.int i13), .val (.int i14), .val (.int i15), .val (.int i16), .unset] [(.int u0)])) target := by
      intro target kt
      refine pre1 target ?_
      show Steps p.tables e below (T0.setTop (mkF m 280 #[.val (.int i0), .val (.int i1), .val (.int i2), .val (.int i3), .val (.int i4), .val (.int i5), .val (.int i6), .val (.int i7), .val (.ref a8), .val (.int i9), .val (.int i10), .val (.int i11), .val (.int i12), .val (.int i13), .val (.int i14), .val (.int i15), .val (.int i16), .val (.int u0)] [(.int i15)])) _
      refine XS.ifNo X0.here hx rfl (hb hby at_280) rfl ((if0 _ _).trans (feq hc280).1) ?_
      show Steps p.tables e below (T0.setTop (mkF m 283 #[.val (.int i0), .val (.int i1), .val (.int i2), .val (.int i3), .val (.int i4), .val (.int i5), .val (.int i6), .val (.int i7), .val (.ref a8), .val (.int i9), .val (.int i10), .val (.int i11), .val (.int i12), .val (.int i13), .val (.int i14), .val (.int i15), .val (.int i16), .val (.int u0)] [])) _
      refine XS.iload X0.here hx rfl (hb hby at_283) rfl ?_
      exact kt
    by_cases hc285 : i16 = (0 : Int32)
    · refine ⟨T0, _, _, _, X0, N0, (by decide), (by decide), fun fs hr => ?_⟩
      have hv : (own_f0_276 i0 i1 i2 i3 i4 i5 i6 i7 i9 i10 i11 i12 i13 i14 i15 i16 u0 w_line_a8 w_column_a8 w_afterCarriageReturn_a8) = (0 : Int32) := by unfold own_f0_276; rw [if_neg hc280, if_pos hc285]
      rw [hv] at hr
      refine pre2 _ ?_
      show Steps p.tables e below (T0.setTop (mkF m 285 #[.val (.int i0), .val (.int i1), .val (.int i2), .val (.int i3), .val (.int i4), .val (.int i5), .val (.int i6), .val (.int i7), .val (.ref a8), .val (.int i9), .val (.int i10), .val (.int i11), .val (.int i12), .val (.int i13), .val (.int i14), .val (.int i15), .val (.int i16), .val (.int u0)] [(.int i16)])) _
      refine XS.ifYes X0.here hx rfl (pc0 := 285) (pc' := 297) rfl (hb hby at_285) rfl ((if0 _ _).trans (teq hc285).1) (by decide) (by decide) ?_
      show Steps p.tables e below (T0.setTop (mkF m 297 #[.val (.int i0), .val (.int i1), .val (.int i2), .val (.int i3), .val (.int i4), .val (.int i5), .val (.int i6), .val (.int i7), .val (.ref a8), .val (.int i9), .val (.int i10), .val (.int i11), .val (.int i12), .val (.int i13), .val (.int i14), .val (.int i15), .val (.int i16), .val (.int u0)] [])) _
      refine XS.iconst X0.here hx rfl (hb hby at_297) ?_
      show Steps p.tables e below (T0.setTop (mkF m 298 #[.val (.int i0), .val (.int i1), .val (.int i2), .val (.int i3), .val (.int i4), .val (.int i5), .val (.int i6), .val (.int i7), .val (.ref a8), .val (.int i9), .val (.int i10), .val (.int i11), .val (.int i12), .val (.int i13), .val (.int i14), .val (.int i15), .val (.int i16), .val (.int u0)] [(.int (0 : Int32))])) _
      exact retN X0 hx (t := .boolean) hret (by simp) (hb hby at_298) hr
    · have pre3 : ∀ target, Steps p.tables e below (T0.setTop (mkF m 290 #[.val (.int i0), .val (.int i1), .val (.int i2), .val (.int i3), .val (.int i4), .val (.int i5), .val (.int i6), .val (.int i7), .val (.ref a8), .val (.int i9), .val (.int i10), .val (.int i11), .val (.int i12), .val (.int i13), .val (.int i14), .val (.int i15), .val (.int i16), .val (.int u0)] [(.int u0)])) target → Steps p.tables e below (T0.setTop (mkF m 276 #[.val (.int i0), .val (.int i1), .val (.int i2), .val (.int i3), .val (.int i4), .val (.int i5), .val (.int i6), .val (.int i7), .val (.ref a8), .val (.int i9), .val (.int i10), .val (.int i11), .val (.int i12), .val (.int i13), .val (.int i14), .val (.int i15), .val (.int i16), .unset] [(.int u0)])) target := by
        intro target kt
        refine pre2 target ?_
        show Steps p.tables e below (T0.setTop (mkF m 285 #[.val (.int i0), .val (.int i1), .val (.int i2), .val (.int i3), .val (.int i4), .val (.int i5), .val (.int i6), .val (.int i7), .val (.ref a8), .val (.int i9), .val (.int i10), .val (.int i11), .val (.int i12), .val (.int i13), .val (.int i14), .val (.int i15), .val (.int i16), .val (.int u0)] [(.int i16)])) _
        refine XS.ifNo X0.here hx rfl (hb hby at_285) rfl ((if0 _ _).trans (feq hc285).1) ?_
        show Steps p.tables e below (T0.setTop (mkF m 288 #[.val (.int i0), .val (.int i1), .val (.int i2), .val (.int i3), .val (.int i4), .val (.int i5), .val (.int i6), .val (.int i7), .val (.ref a8), .val (.int i9), .val (.int i10), .val (.int i11), .val (.int i12), .val (.int i13), .val (.int i14), .val (.int i15), .val (.int i16), .val (.int u0)] [])) _
        refine XS.iload X0.here hx rfl (hb hby at_288) rfl ?_
        exact kt
      by_cases hc290 : u0 = (0 : Int32)
      · refine ⟨T0, _, _, _, X0, N0, (by decide), (by decide), fun fs hr => ?_⟩
        have hv : (own_f0_276 i0 i1 i2 i3 i4 i5 i6 i7 i9 i10 i11 i12 i13 i14 i15 i16 u0 w_line_a8 w_column_a8 w_afterCarriageReturn_a8) = (0 : Int32) := by unfold own_f0_276; rw [if_neg hc280, if_neg hc285, if_pos hc290]
        rw [hv] at hr
        refine pre3 _ ?_
        show Steps p.tables e below (T0.setTop (mkF m 290 #[.val (.int i0), .val (.int i1), .val (.int i2), .val (.int i3), .val (.int i4), .val (.int i5), .val (.int i6), .val (.int i7), .val (.ref a8), .val (.int i9), .val (.int i10), .val (.int i11), .val (.int i12), .val (.int i13), .val (.int i14), .val (.int i15), .val (.int i16), .val (.int u0)] [(.int u0)])) _
        refine XS.ifYes X0.here hx rfl (pc0 := 290) (pc' := 297) rfl (hb hby at_290) rfl ((if0 _ _).trans (teq hc290).1) (by decide) (by decide) ?_
        show Steps p.tables e below (T0.setTop (mkF m 297 #[.val (.int i0), .val (.int i1), .val (.int i2), .val (.int i3), .val (.int i4), .val (.int i5), .val (.int i6), .val (.int i7), .val (.ref a8), .val (.int i9), .val (.int i10), .val (.int i11), .val (.int i12), .val (.int i13), .val (.int i14), .val (.int i15), .val (.int i16), .val (.int u0)] [])) _
        refine XS.iconst X0.here hx rfl (hb hby at_297) ?_
        show Steps p.tables e below (T0.setTop (mkF m 298 #[.val (.int i0), .val (.int i1), .val (.int i2), .val (.int i3), .val (.int i4), .val (.int i5), .val (.int i6), .val (.int i7), .val (.ref a8), .val (.int i9), .val (.int i10), .val (.int i11), .val (.int i12), .val (.int i13), .val (.int i14), .val (.int i15), .val (.int i16), .val (.int u0)] [(.int (0 : Int32))])) _
        exact retN X0 hx (t := .boolean) hret (by simp) (hb hby at_298) hr
      · refine ⟨T0, _, _, _, X0, N0, (by decide), (by decide), fun fs hr => ?_⟩
        have hv : (own_f0_276 i0 i1 i2 i3 i4 i5 i6 i7 i9 i10 i11 i12 i13 i14 i15 i16 u0 w_line_a8 w_column_a8 w_afterCarriageReturn_a8) = (1 : Int32) := by unfold own_f0_276; rw [if_neg hc280, if_neg hc285, if_neg hc290]
        rw [hv] at hr
        refine pre3 _ ?_
        show Steps p.tables e below (T0.setTop (mkF m 290 #[.val (.int i0), .val (.int i1), .val (.int i2), .val (.int i3), .val (.int i4), .val (.int i5), .val (.int i6), .val (.int i7), .val (.ref a8), .val (.int i9), .val (.int i10), .val (.int i11), .val (.int i12), .val (.int i13), .val (.int i14), .val (.int i15), .val (.int i16), .val (.int u0)] [(.int u0)])) _
        refine XS.ifNo X0.here hx rfl (hb hby at_290) rfl ((if0 _ _).trans (feq hc290).1) ?_
        show Steps p.tables e below (T0.setTop (mkF m 293 #[.val (.int i0), .val (.int i1), .val (.int i2), .val (.int i3), .val (.int i4), .val (.int i5), .val (.int i6), .val (.int i7), .val (.ref a8), .val (.int i9), .val (.int i10), .val (.int i11), .val (.int i12), .val (.int i13), .val (.int i14), .val (.int i15), .val (.int i16), .val (.int u0)] [])) _
        refine XS.iconst X0.here hx rfl (hb hby at_293) ?_
        show Steps p.tables e below (T0.setTop (mkF m 294 #[.val (.int i0), .val (.int i1), .val (.int i2), .val (.int i3), .val (.int i4), .val (.int i5), .val (.int i6), .val (.int i7), .val (.ref a8), .val (.int i9), .val (.int i10), .val (.int i11), .val (.int i12), .val (.int i13), .val (.int i14), .val (.int i15), .val (.int i16), .val (.int u0)] [(.int (1 : Int32))])) _
        refine XS.goto X0.here hx rfl (pc0 := 294) (pc' := 298) rfl (hb hby at_294) (by decide) (by decide) ?_
        show Steps p.tables e below (T0.setTop (mkF m 298 #[.val (.int i0), .val (.int i1), .val (.int i2), .val (.int i3), .val (.int i4), .val (.int i5), .val (.int i6), .val (.int i7), .val (.ref a8), .val (.int i9), .val (.int i10), .val (.int i11), .val (.int i12), .val (.int i13), .val (.int i14), .val (.int i15), .val (.int i16), .val (.int u0)] [(.int (1 : Int32))])) _
        exact retN X0 hx (t := .boolean) hret (by simp) (hb hby at_298) hr
set_option maxRecDepth 65536 in
set_option maxHeartbeats 40000000 in
theorem own_b0_275 {p : Program} {l : Launch} {e : Env} {s : State} {m : MethodId} {args : Array Value} {below : List Frame} {meth : Method} {c : Code} {Z : State} {a0_ : Array Value} {n0 : Nat} (hx : p.tables.exec = Jvm.exec) (hZ : Z.Warmed39 s.vm) (hw : ∀ d ∈ tables_1, d.before a0_ Z = true) (hby : c.code = code) (hml : c.maxLocals = 18) (hown : s.vm.findClass "com/example/saho/saho/load/LineCounterAdvancePinLaw" = some m.cls) (hret : meth.sig.returnType = some .boolean) {T0 : State} {locs : List Loc} {h0 : Heap} (i0 : Int32) (i1 : Int32) (i2 : Int32) (i3 : Int32) (i4 : Int32) (i5 : Int32) (i6 : Int32) (i7 : Int32) (a8 : Addr) (i9 : Int32) (i10 : Int32) (i11 : Int32) (i12 : Int32) (i13 : Int32) (i14 : Int32) (i15 : Int32) (i16 : Int32) (w_line_a8 : Int32) (w_column_a8 : Int32) (w_afterCarriageReturn_a8 : Int32)
    (X0 : Stand p l e room_1 s m args below meth c T0 locs 1 3) (e0 : T0.heap = h0) (N0 : Fr n0 locs) (Z0 : n0 ≤ h0.size) (g_a8 : n0 ≤ a8) (E_a8 : Exa Z h0 a8 "com/example/saho/saho/load/LineCounter") (F_line_a8 : Fld Z h0 a8 "com/example/saho/saho/load/LineCounter" "line" "I" (.int w_line_a8)) (F_column_a8 : Fld Z h0 a8 "com/example/saho/saho/load/LineCounter" "column" "I" (.int w_column_a8)) (F_afterCarriageReturn_a8 : Fld Z h0 a8 "com/example/saho/saho/load/LineCounter" "afterCarriageReturn" "Z" (.int w_afterCarriageReturn_a8)) :
    ∃ T' locs' cells' slots', Stand p l e room_1 s m args below meth c T' locs' cells' slots' ∧ Fr n0 locs' ∧ cells' ≤ room_1.cells ∧ slots' ≤ room_1.slots ∧ ∀ fs, (∀ (f : JFrame) (acts : List Action), f.method = m → f.locked = none → f.entered = [] → (doReturn e (T'.setTop f) acts (some (.int (own_f0_275 i0 i1 i2 i3 i4 i5 i6 i7 i9 i10 i11 i12 i13 i14 i15 i16 w_line_a8 w_column_a8 w_afterCarriageReturn_a8)))).1 = T'.setFrames fs) → Steps p.tables e below (T0.setTop (mkF m 275 #[.val (.int i0), .val (.int i1), .val (.int i2), .val (.int i3), .val (.int i4), .val (.int i5), .val (.int i6), .val (.int i7), .val (.ref a8), .val (.int i9), .val (.int i10), .val (.int i11), .val (.int i12), .val (.int i13), .val (.int i14), .val (.int i15), .val (.int i16), .unset] [])) (T'.setFrames fs) := by
  have pre1 : ∀ target, Steps p.tables e below (T0.setTop (mkF m 276 #[.val (.int i0), .val (.int i1), .val (.int i2), .val (.int i3), .val (.int i4), .val (.int i5), .val (.int i6), .val (.int i7), .val (.ref a8), .val (.int i9), .val (.int i10), .val (.int i11), .val (.int i12), .val (.int i13), .val (.int i14), .val (.int i15), .val (.int i16), .unset] [(.int (0 : Int32))])) target → Steps p.tables e below (T0.setTop (mkF m 275 #[.val (.int i0), .val (.int i1), .val (.int i2), .val (.int i3), .val (.int i4), .val (.int i5), .val (.int i6), .val (.int i7), .val (.ref a8), .val (.int i9), .val (.int i10), .val (.int i11), .val (.int i12), .val (.int i13), .val (.int i14), .val (.int i15), .val (.int i16), .unset] [])) target := by
    intro target kt
    show Steps p.tables e below (T0.setTop (mkF m 275 #[.val (.int i0), .val (.int i1), .val (.int i2), .val (.int i3), .val (.int i4), .val (.int i5), .val (.int i6), .val (.int i7), .val (.ref a8), .val (.int i9), .val (.int i10), .val (.int i11), .val (.int i12), .val (.int i13), .val (.int i14), .val (.int i15), .val (.int i16), .unset] [])) _
    refine XS.iconst X0.here hx rfl (hb hby at_275) ?_
    exact kt
  obtain ⟨T2, L2, k2, n2, X2, N2, hk2', hn2, st2⟩ := own_b0_276 hx hZ hw hby hml hown hret i0 i1 i2 i3 i4 i5 i6 i7 a8 i9 i10 i11 i12 i13 i14 i15 i16 (0 : Int32) w_line_a8 w_column_a8 w_afterCarriageReturn_a8 X0 e0 N0 Z0 g_a8 E_a8 F_line_a8 F_column_a8 F_afterCarriageReturn_a8 
  have hv : (own_f0_275 i0 i1 i2 i3 i4 i5 i6 i7 i9 i10 i11 i12 i13 i14 i15 i16 w_line_a8 w_column_a8 w_afterCarriageReturn_a8) = (own_f0_276 i0 i1 i2 i3 i4 i5 i6 i7 i9 i10 i11 i12 i13 i14 i15 i16 (0 : Int32) w_line_a8 w_column_a8 w_afterCarriageReturn_a8) := by unfold own_f0_275; rfl
  exact ⟨T2, L2, k2, n2, X2, N2, hk2', hn2, fun fs hr => pre1 _ (st2 fs (by rw [hv] at hr; exact hr))⟩
set_option maxRecDepth 65536 in
set_option maxHeartbeats 40000000 in
theorem own_b0_242 {p : Program} {l : Launch} {e : Env} {s : State} {m : MethodId} {args : Array Value} {below : List Frame} {meth : Method} {c : Code} {Z : State} {a0_ : Array Value} {n0 : Nat} (hx : p.tables.exec = Jvm.exec) (hZ : Z.Warmed39 s.vm) (hw : ∀ d ∈ tables_1, d.before a0_ Z = true) (hby : c.code = code) (hml : c.maxLocals = 18) (hown : s.vm.findClass "com/example/saho/saho/load/LineCounterAdvancePinLaw" = some m.cls) (hret : meth.sig.returnType = some .boolean) {T0 : State} {locs : List Loc} {h0 : Heap} (i0 : Int32) (i1 : Int32) (i2 : Int32) (i3 : Int32) (i4 : Int32) (i5 : Int32) (i6 : Int32) (i7 : Int32) (a8 : Addr) (i9 : Int32) (i10 : Int32) (i11 : Int32) (i12 : Int32) (i13 : Int32) (i14 : Int32) (i15 : Int32) (u0 : Int32) (w_line_a8 : Int32) (w_column_a8 : Int32) (w_afterCarriageReturn_a8 : Int32)
    (X0 : Stand p l e room_1 s m args below meth c T0 locs 1 3) (e0 : T0.heap = h0) (N0 : Fr n0 locs) (Z0 : n0 ≤ h0.size) (g_a8 : n0 ≤ a8) (E_a8 : Exa Z h0 a8 "com/example/saho/saho/load/LineCounter") (F_line_a8 : Fld Z h0 a8 "com/example/saho/saho/load/LineCounter" "line" "I" (.int w_line_a8)) (F_column_a8 : Fld Z h0 a8 "com/example/saho/saho/load/LineCounter" "column" "I" (.int w_column_a8)) (F_afterCarriageReturn_a8 : Fld Z h0 a8 "com/example/saho/saho/load/LineCounter" "afterCarriageReturn" "Z" (.int w_afterCarriageReturn_a8)) :
    ∃ T' locs' cells' slots', Stand p l e room_1 s m args below meth c T' locs' cells' slots' ∧ Fr n0 locs' ∧ cells' ≤ room_1.cells ∧ slots' ≤ room_1.slots ∧ ∀ fs, (∀ (f : JFrame) (acts : List Action), f.method = m → f.locked = none → f.entered = [] → (doReturn e (T'.setTop f) acts (some (.int (own_f0_242 i0 i1 i2 i3 i4 i5 i6 i7 i9 i10 i11 i12 i13 i14 i15 u0 w_line_a8 w_column_a8 w_afterCarriageReturn_a8)))).1 = T'.setFrames fs) → Steps p.tables e below (T0.setTop (mkF m 242 #[.val (.int i0), .val (.int i1), .val (.int i2), .val (.int i3), .val (.int i4), .val (.int i5), .val (.int i6), .val (.int i7), .val (.ref a8), .val (.int i9), .val (.int i10), .val (.int i11), .val (.int i12), .val (.int i13), .val (.int i14), .val (.int i15), .unset, .unset] [(.int u0)])) (T'.setFrames fs) := by
  obtain ⟨cq1, kq1, q1a, q1b, q1c⟩ := isOf hZ e0 E_a8
  obtain ⟨_, _, ⟨T1, L1, k1, n1⟩, -, X1, ⟨Lc1, hQ1, l1, y1, z1⟩, st1⟩ := X0.virtualBack hx (y := (⟨"com/example/saho/saho/load/LineCounter", "advance", "(C)V"⟩ : MethodName)) (z := (⟨"com/example/saho/saho/load/LineCounter", "advance", "(C)V"⟩ : MethodName)) hown (mvT hZ (hw _ (List.mem_of_getElem? (i := 31) rfl))) (mvT hZ (hw _ (List.mem_of_getElem? (i := 32) rfl))) (notFace_of_selects (args := #[]) (mvT hZ (hw _ (List.mem_of_getElem? (i := 34) rfl)))) (mvT hZ (hw _ (List.mem_of_getElem? (i := 34) rfl))) (mvT hZ (hw _ (List.mem_of_getElem? (i := 33) rfl))) (by decide) (backOf (W := 0) (rm7 l Z a0_ hw [] a8 i6 w_line_a8 w_column_a8 w_afterCarriageReturn_a8 h0 n0 Z0 E_a8 g_a8 F_line_a8 F_column_a8 F_afterCarriageReturn_a8) hZ (hw _ (List.mem_of_getElem? (i := 35) rfl)) (hw _ (List.mem_of_getElem? (i := 7) rfl)) (by decide) (by decide)) q1a q1c (g := (mkF m 248 #[.val (.int i0), .val (.int i1), .val (.int i2), .val (.int i3), .val (.int i4), .val (.int i5), .val (.int i6), .val (.int i7), .val (.ref a8), .val (.int i9), .val (.int i10), .val (.int i11), .val (.int i12), .val (.int i13), .val (.int i14), .val (.int i15), .val (.int u0), .unset] [(.int i6), (.ref a8)])) rfl (by rw [hml]; rfl) (Steps.refl _) (argsL := [(.int i6)]) (rest := []) (lenOf pd_0_5 rfl) rfl (by show 2 * 0 + _ ≤ _; exact Nat.le_of_eq rfl) (hb hby at_248) (fun _ _ => ⟨rfl, e0, (by decide : 1 + 0 ≤ room_1.cells), (by decide : 3 + 0 ≤ room_1.slots)⟩)
  dsimp only [Pt.U, Pt.locs, Pt.cells, Pt.slots] at X1 l1 y1 z1 st1 hQ1
  subst l1 y1 z1
  obtain ⟨rfl, Nq1, Kq1, Eq1, Gq1_line, Gq1_column, Gq1_afterCarriageReturn⟩ := hQ1
  have N1 := Fr.app N0 Nq1
  have Z1 : n0 ≤ T1.heap.size := Nat.le_trans Z0 Kq1.1
  have E_a8_k1 := Eq1
  have F_line_a8_k1 := Gq1_line
  have F_column_a8_k1 := Gq1_column
  have F_afterCarriageReturn_a8_k1 := Gq1_afterCarriageReturn
  obtain ⟨cq2, kq2, q2a, q2b, q2c⟩ := isOf hZ rfl E_a8_k1
  obtain ⟨_, _, ⟨T2, L2, k2, n2⟩, -, X2, ⟨Lc2, hQ2, l2, y2, z2⟩, st2⟩ := X1.virtualBack hx (y := (⟨"com/example/saho/saho/load/LineCounter", "line", "()I"⟩ : MethodName)) (z := (⟨"com/example/saho/saho/load/LineCounter", "line", "()I"⟩ : MethodName)) hown (mvT hZ (hw _ (List.mem_of_getElem? (i := 36) rfl))) (mvT hZ (hw _ (List.mem_of_getElem? (i := 37) rfl))) (notFace_of_selects (args := #[]) (mvT hZ (hw _ (List.mem_of_getElem? (i := 39) rfl)))) (mvT hZ (hw _ (List.mem_of_getElem? (i := 39) rfl))) (mvT hZ (hw _ (List.mem_of_getElem? (i := 38) rfl))) (by decide) (backOf (W := 0) (rm8 l Z a0_ hw [] a8 (own_o7_line i6 w_line_a8 w_column_a8 w_afterCarriageReturn_a8) T1.heap n0 Z1 F_line_a8_k1) hZ (hw _ (List.mem_of_getElem? (i := 40) rfl)) (hw _ (List.mem_of_getElem? (i := 7) rfl)) (by decide) (by decide)) q2a q2c (g := (mkF m 253 #[.val (.int i0), .val (.int i1), .val (.int i2), .val (.int i3), .val (.int i4), .val (.int i5), .val (.int i6), .val (.int i7), .val (.ref a8), .val (.int i9), .val (.int i10), .val (.int i11), .val (.int i12), .val (.int i13), .val (.int i14), .val (.int i15), .val (.int u0), .unset] [(.ref a8)])) rfl (by rw [hml]; rfl) (Steps.refl _) (argsL := []) (rest := []) (lenOf pd_0_6 rfl) rfl (by show 2 * 0 + _ ≤ _; exact Nat.le_of_eq rfl) (hb hby at_253) (fun _ _ => ⟨rfl, rfl, (by decide : 1 + 0 ≤ room_1.cells), (by decide : 3 + 0 ≤ room_1.slots)⟩)
  dsimp only [Pt.U, Pt.locs, Pt.cells, Pt.slots] at X2 l2 y2 z2 st2 hQ2
  subst l2 y2 z2
  obtain ⟨rfl, rfl, e2⟩ := hQ2
  rw [List.append_nil] at X2
  have pre3 : ∀ target, Steps p.tables e below (T2.setTop (mkF m 258 #[.val (.int i0), .val (.int i1), .val (.int i2), .val (.int i3), .val (.int i4), .val (.int i5), .val (.int i6), .val (.int i7), .val (.ref a8), .val (.int i9), .val (.int i10), .val (.int i11), .val (.int i12), .val (.int i13), .val (.int i14), .val (.int i15), .val (.int u0), .unset] [(.int i11), (.int (own_f8_0 (own_o7_line i6 w_line_a8 w_column_a8 w_afterCarriageReturn_a8)))])) target → Steps p.tables e below (T0.setTop (mkF m 242 #[.val (.int i0), .val (.int i1), .val (.int i2), .val (.int i3), .val (.int i4), .val (.int i5), .val (.int i6), .val (.int i7), .val (.ref a8), .val (.int i9), .val (.int i10), .val (.int i11), .val (.int i12), .val (.int i13), .val (.int i14), .val (.int i15), .unset, .unset] [(.int u0)])) target := by
    intro target kt
    show Steps p.tables e below (T0.setTop (mkF m 242 #[.val (.int i0), .val (.int i1), .val (.int i2), .val (.int i3), .val (.int i4), .val (.int i5), .val (.int i6), .val (.int i7), .val (.ref a8), .val (.int i9), .val (.int i10), .val (.int i11), .val (.int i12), .val (.int i13), .val (.int i14), .val (.int i15), .unset, .unset] [(.int u0)])) _
    refine XS.istore X0.here hx rfl (hb hby at_242) rfl (l' := #[.val (.int i0), .val (.int i1), .val (.int i2), .val (.int i3), .val (.int i4), .val (.int i5), .val (.int i6), .val (.int i7), .val (.ref a8), .val (.int i9), .val (.int i10), .val (.int i11), .val (.int i12), .val (.int i13), .val (.int i14), .val (.int i15), .val (.int u0), .unset]) rfl ?_
    show Steps p.tables e below (T0.setTop (mkF m 244 #[.val (.int i0), .val (.int i1), .val (.int i2), .val (.int i3), .val (.int i4), .val (.int i5), .val (.int i6), .val (.int i7), .val (.ref a8), .val (.int i9), .val (.int i10), .val (.int i11), .val (.int i12), .val (.int i13), .val (.int i14), .val (.int i15), .val (.int u0), .unset] [])) _
    refine XS.aload X0.here hx rfl (hb hby at_244) rfl rfl ?_
    show Steps p.tables e below (T0.setTop (mkF m 246 #[.val (.int i0), .val (.int i1), .val (.int i2), .val (.int i3), .val (.int i4), .val (.int i5), .val (.int i6), .val (.int i7), .val (.ref a8), .val (.int i9), .val (.int i10), .val (.int i11), .val (.int i12), .val (.int i13), .val (.int i14), .val (.int i15), .val (.int u0), .unset] [(.ref a8)])) _
    refine XS.iload X0.here hx rfl (hb hby at_246) rfl ?_
    show Steps p.tables e below (T0.setTop (mkF m 248 #[.val (.int i0), .val (.int i1), .val (.int i2), .val (.int i3), .val (.int i4), .val (.int i5), .val (.int i6), .val (.int i7), .val (.ref a8), .val (.int i9), .val (.int i10), .val (.int i11), .val (.int i12), .val (.int i13), .val (.int i14), .val (.int i15), .val (.int u0), .unset] [(.int i6), (.ref a8)])) _
    refine st1.trans ?_
    show Steps p.tables e below (T1.setTop (mkF m 251 #[.val (.int i0), .val (.int i1), .val (.int i2), .val (.int i3), .val (.int i4), .val (.int i5), .val (.int i6), .val (.int i7), .val (.ref a8), .val (.int i9), .val (.int i10), .val (.int i11), .val (.int i12), .val (.int i13), .val (.int i14), .val (.int i15), .val (.int u0), .unset] [])) _
    refine XS.aload X1.here hx rfl (hb hby at_251) rfl rfl ?_
    show Steps p.tables e below (T1.setTop (mkF m 253 #[.val (.int i0), .val (.int i1), .val (.int i2), .val (.int i3), .val (.int i4), .val (.int i5), .val (.int i6), .val (.int i7), .val (.ref a8), .val (.int i9), .val (.int i10), .val (.int i11), .val (.int i12), .val (.int i13), .val (.int i14), .val (.int i15), .val (.int u0), .unset] [(.ref a8)])) _
    refine st2.trans ?_
    show Steps p.tables e below (T2.setTop (mkF m 256 #[.val (.int i0), .val (.int i1), .val (.int i2), .val (.int i3), .val (.int i4), .val (.int i5), .val (.int i6), .val (.int i7), .val (.ref a8), .val (.int i9), .val (.int i10), .val (.int i11), .val (.int i12), .val (.int i13), .val (.int i14), .val (.int i15), .val (.int u0), .unset] [(.int (own_f8_0 (own_o7_line i6 w_line_a8 w_column_a8 w_afterCarriageReturn_a8)))])) _
    refine XS.iload X2.here hx rfl (hb hby at_256) rfl ?_
    exact kt
  by_cases hc258 : (own_f8_0 (own_o7_line i6 w_line_a8 w_column_a8 w_afterCarriageReturn_a8)) = i11
  · obtain ⟨cq4, kq4, q4a, q4b, q4c⟩ := isOf hZ e2 E_a8_k1
    obtain ⟨_, _, ⟨T4, L4, k4, n4⟩, -, X4, ⟨Lc4, hQ4, l4, y4, z4⟩, st4⟩ := X2.virtualBack hx (y := (⟨"com/example/saho/saho/load/LineCounter", "nextColumn", "()I"⟩ : MethodName)) (z := (⟨"com/example/saho/saho/load/LineCounter", "nextColumn", "()I"⟩ : MethodName)) hown (mvT hZ (hw _ (List.mem_of_getElem? (i := 41) rfl))) (mvT hZ (hw _ (List.mem_of_getElem? (i := 42) rfl))) (notFace_of_selects (args := #[]) (mvT hZ (hw _ (List.mem_of_getElem? (i := 44) rfl)))) (mvT hZ (hw _ (List.mem_of_getElem? (i := 44) rfl))) (mvT hZ (hw _ (List.mem_of_getElem? (i := 43) rfl))) (by decide) (backOf (W := 0) (rm9 l Z a0_ hw [] a8 (own_o7_column i6 w_line_a8 w_column_a8 w_afterCarriageReturn_a8) T1.heap n0 Z1 F_column_a8_k1) hZ (hw _ (List.mem_of_getElem? (i := 45) rfl)) (hw _ (List.mem_of_getElem? (i := 7) rfl)) (by decide) (by decide)) q4a q4c (g := (mkF m 263 #[.val (.int i0), .val (.int i1), .val (.int i2), .val (.int i3), .val (.int i4), .val (.int i5), .val (.int i6), .val (.int i7), .val (.ref a8), .val (.int i9), .val (.int i10), .val (.int i11), .val (.int i12), .val (.int i13), .val (.int i14), .val (.int i15), .val (.int u0), .unset] [(.ref a8)])) rfl (by rw [hml]; rfl) (Steps.refl _) (argsL := []) (rest := []) (lenOf pd_0_6 rfl) rfl (by show 2 * 0 + _ ≤ _; exact Nat.le_of_eq rfl) (hb hby at_263) (fun _ _ => ⟨rfl, e2, (by decide : 1 + 0 ≤ room_1.cells), (by decide : 3 + 0 ≤ room_1.slots)⟩)
    dsimp only [Pt.U, Pt.locs, Pt.cells, Pt.slots] at X4 l4 y4 z4 st4 hQ4
    subst l4 y4 z4
    obtain ⟨rfl, rfl, e4⟩ := hQ4
    rw [List.append_nil] at X4
    have pre5 : ∀ target, Steps p.tables e below (T4.setTop (mkF m 268 #[.val (.int i0), .val (.int i1), .val (.int i2), .val (.int i3), .val (.int i4), .val (.int i5), .val (.int i6), .val (.int i7), .val (.ref a8), .val (.int i9), .val (.int i10), .val (.int i11), .val (.int i12), .val (.int i13), .val (.int i14), .val (.int i15), .val (.int u0), .unset] [(.int i14), (.int (own_f9_0 (own_o7_column i6 w_line_a8 w_column_a8 w_afterCarriageReturn_a8)))])) target → Steps p.tables e below (T0.setTop (mkF m 242 #[.val (.int i0), .val (.int i1), .val (.int i2), .val (.int i3), .val (.int i4), .val (.int i5), .val (.int i6), .val (.int i7), .val (.ref a8), .val (.int i9), .val (.int i10), .val (.int i11), .val (.int i12), .val (.int i13), .val (.int i14), .val (.int i15), .unset, .unset] [(.int u0)])) target := by
      intro target kt
      refine pre3 target ?_
      show Steps p.tables e below (T2.setTop (mkF m 258 #[.val (.int i0), .val (.int i1), .val (.int i2), .val (.int i3), .val (.int i4), .val (.int i5), .val (.int i6), .val (.int i7), .val (.ref a8), .val (.int i9), .val (.int i10), .val (.int i11), .val (.int i12), .val (.int i13), .val (.int i14), .val (.int i15), .val (.int u0), .unset] [(.int i11), (.int (own_f8_0 (own_o7_line i6 w_line_a8 w_column_a8 w_afterCarriageReturn_a8)))])) _
      refine XS.icmpNo X2.here hx rfl (hb hby at_258) rfl (teq hc258).2 ?_
      show Steps p.tables e below (T2.setTop (mkF m 261 #[.val (.int i0), .val (.int i1), .val (.int i2), .val (.int i3), .val (.int i4), .val (.int i5), .val (.int i6), .val (.int i7), .val (.ref a8), .val (.int i9), .val (.int i10), .val (.int i11), .val (.int i12), .val (.int i13), .val (.int i14), .val (.int i15), .val (.int u0), .unset] [])) _
      refine XS.aload X2.here hx rfl (hb hby at_261) rfl rfl ?_
      show Steps p.tables e below (T2.setTop (mkF m 263 #[.val (.int i0), .val (.int i1), .val (.int i2), .val (.int i3), .val (.int i4), .val (.int i5), .val (.int i6), .val (.int i7), .val (.ref a8), .val (.int i9), .val (.int i10), .val (.int i11), .val (.int i12), .val (.int i13), .val (.int i14), .val (.int i15), .val (.int u0), .unset] [(.ref a8)])) _
      refine st4.trans ?_
      show Steps p.tables e below (T4.setTop (mkF m 266 #[.val (.int i0), .val (.int i1), .val (.int i2), .val (.int i3), .val (.int i4), .val (.int i5), .val (.int i6), .val (.int i7), .val (.ref a8), .val (.int i9), .val (.int i10), .val (.int i11), .val (.int i12), .val (.int i13), .val (.int i14), .val (.int i15), .val (.int u0), .unset] [(.int (own_f9_0 (own_o7_column i6 w_line_a8 w_column_a8 w_afterCarriageReturn_a8)))])) _
      refine XS.iload X4.here hx rfl (hb hby at_266) rfl ?_
      exact kt
    by_cases hc268 : (own_f9_0 (own_o7_column i6 w_line_a8 w_column_a8 w_afterCarriageReturn_a8)) = i14
    · have pre6 : ∀ target, Steps p.tables e below (T4.setTop (mkF m 276 #[.val (.int i0), .val (.int i1), .val (.int i2), .val (.int i3), .val (.int i4), .val (.int i5), .val (.int i6), .val (.int i7), .val (.ref a8), .val (.int i9), .val (.int i10), .val (.int i11), .val (.int i12), .val (.int i13), .val (.int i14), .val (.int i15), .val (.int u0), .unset] [(.int (1 : Int32))])) target → Steps p.tables e below (T0.setTop (mkF m 242 #[.val (.int i0), .val (.int i1), .val (.int i2), .val (.int i3), .val (.int i4), .val (.int i5), .val (.int i6), .val (.int i7), .val (.ref a8), .val (.int i9), .val (.int i10), .val (.int i11), .val (.int i12), .val (.int i13), .val (.int i14), .val (.int i15), .unset, .unset] [(.int u0)])) target := by
        intro target kt
        refine pre5 target ?_
        show Steps p.tables e below (T4.setTop (mkF m 268 #[.val (.int i0), .val (.int i1), .val (.int i2), .val (.int i3), .val (.int i4), .val (.int i5), .val (.int i6), .val (.int i7), .val (.ref a8), .val (.int i9), .val (.int i10), .val (.int i11), .val (.int i12), .val (.int i13), .val (.int i14), .val (.int i15), .val (.int u0), .unset] [(.int i14), (.int (own_f9_0 (own_o7_column i6 w_line_a8 w_column_a8 w_afterCarriageReturn_a8)))])) _
        refine XS.icmpNo X4.here hx rfl (hb hby at_268) rfl (teq hc268).2 ?_
        show Steps p.tables e below (T4.setTop (mkF m 271 #[.val (.int i0), .val (.int i1), .val (.int i2), .val (.int i3), .val (.int i4), .val (.int i5), .val (.int i6), .val (.int i7), .val (.ref a8), .val (.int i9), .val (.int i10), .val (.int i11), .val (.int i12), .val (.int i13), .val (.int i14), .val (.int i15), .val (.int u0), .unset] [])) _
        refine XS.iconst X4.here hx rfl (hb hby at_271) ?_
        show Steps p.tables e below (T4.setTop (mkF m 272 #[.val (.int i0), .val (.int i1), .val (.int i2), .val (.int i3), .val (.int i4), .val (.int i5), .val (.int i6), .val (.int i7), .val (.ref a8), .val (.int i9), .val (.int i10), .val (.int i11), .val (.int i12), .val (.int i13), .val (.int i14), .val (.int i15), .val (.int u0), .unset] [(.int (1 : Int32))])) _
        refine XS.goto X4.here hx rfl (pc0 := 272) (pc' := 276) rfl (hb hby at_272) (by decide) (by decide) ?_
        exact kt
      obtain ⟨T7, L7, k7, n7, X7, N7, hk7', hn7, st7⟩ := own_b0_276 hx hZ hw hby hml hown hret i0 i1 i2 i3 i4 i5 i6 i7 a8 i9 i10 i11 i12 i13 i14 i15 u0 (1 : Int32) (own_o7_line i6 w_line_a8 w_column_a8 w_afterCarriageReturn_a8) (own_o7_column i6 w_line_a8 w_column_a8 w_afterCarriageReturn_a8) (own_o7_afterCarriageReturn i6 w_line_a8 w_column_a8 w_afterCarriageReturn_a8) X4 e4 N1 Z1 g_a8 E_a8_k1 F_line_a8_k1 F_column_a8_k1 F_afterCarriageReturn_a8_k1 
      have hv : (own_f0_242 i0 i1 i2 i3 i4 i5 i6 i7 i9 i10 i11 i12 i13 i14 i15 u0 w_line_a8 w_column_a8 w_afterCarriageReturn_a8) = (own_f0_276 i0 i1 i2 i3 i4 i5 i6 i7 i9 i10 i11 i12 i13 i14 i15 u0 (1 : Int32) (own_o7_line i6 w_line_a8 w_column_a8 w_afterCarriageReturn_a8) (own_o7_column i6 w_line_a8 w_column_a8 w_afterCarriageReturn_a8) (own_o7_afterCarriageReturn i6 w_line_a8 w_column_a8 w_afterCarriageReturn_a8)) := by unfold own_f0_242; rw [if_pos hc258, if_pos hc268]
      exact ⟨T7, L7, k7, n7, X7, N7, hk7', hn7, fun fs hr => pre6 _ (st7 fs (by rw [hv] at hr; exact hr))⟩
    · have pre8 : ∀ target, Steps p.tables e below (T4.setTop (mkF m 275 #[.val (.int i0), .val (.int i1), .val (.int i2), .val (.int i3), .val (.int i4), .val (.int i5), .val (.int i6), .val (.int i7), .val (.ref a8), .val (.int i9), .val (.int i10), .val (.int i11), .val (.int i12), .val (.int i13), .val (.int i14), .val (.int i15), .val (.int u0), .unset] [])) target → Steps p.tables e below (T0.setTop (mkF m 242 #[.val (.int i0), .val (.int i1), .val (.int i2), .val (.int i3), .val (.int i4), .val (.int i5), .val (.int i6), .val (.int i7), .val (.ref a8), .val (.int i9), .val (.int i10), .val (.int i11), .val (.int i12), .val (.int i13), .val (.int i14), .val (.int i15), .unset, .unset] [(.int u0)])) target := by
        intro target kt
        refine pre5 target ?_
        show Steps p.tables e below (T4.setTop (mkF m 268 #[.val (.int i0), .val (.int i1), .val (.int i2), .val (.int i3), .val (.int i4), .val (.int i5), .val (.int i6), .val (.int i7), .val (.ref a8), .val (.int i9), .val (.int i10), .val (.int i11), .val (.int i12), .val (.int i13), .val (.int i14), .val (.int i15), .val (.int u0), .unset] [(.int i14), (.int (own_f9_0 (own_o7_column i6 w_line_a8 w_column_a8 w_afterCarriageReturn_a8)))])) _
        refine XS.icmpYes X4.here hx rfl (pc0 := 268) (pc' := 275) rfl (hb hby at_268) rfl (feq hc268).2 (by decide) (by decide) ?_
        exact kt
      obtain ⟨T9, L9, k9, n9, X9, N9, hk9', hn9, st9⟩ := own_b0_275 hx hZ hw hby hml hown hret i0 i1 i2 i3 i4 i5 i6 i7 a8 i9 i10 i11 i12 i13 i14 i15 u0 (own_o7_line i6 w_line_a8 w_column_a8 w_afterCarriageReturn_a8) (own_o7_column i6 w_line_a8 w_column_a8 w_afterCarriageReturn_a8) (own_o7_afterCarriageReturn i6 w_line_a8 w_column_a8 w_afterCarriageReturn_a8) X4 e4 N1 Z1 g_a8 E_a8_k1 F_line_a8_k1 F_column_a8_k1 F_afterCarriageReturn_a8_k1 
      have hv : (own_f0_242 i0 i1 i2 i3 i4 i5 i6 i7 i9 i10 i11 i12 i13 i14 i15 u0 w_line_a8 w_column_a8 w_afterCarriageReturn_a8) = (own_f0_275 i0 i1 i2 i3 i4 i5 i6 i7 i9 i10 i11 i12 i13 i14 i15 u0 (own_o7_line i6 w_line_a8 w_column_a8 w_afterCarriageReturn_a8) (own_o7_column i6 w_line_a8 w_column_a8 w_afterCarriageReturn_a8) (own_o7_afterCarriageReturn i6 w_line_a8 w_column_a8 w_afterCarriageReturn_a8)) := by unfold own_f0_242; rw [if_pos hc258, if_neg hc268]
      exact ⟨T9, L9, k9, n9, X9, N9, hk9', hn9, fun fs hr => pre8 _ (st9 fs (by rw [hv] at hr; exact hr))⟩
  · have pre10 : ∀ target, Steps p.tables e below (T2.setTop (mkF m 275 #[.val (.int i0), .val (.int i1), .val (.int i2), .val (.int i3), .val (.int i4), .val (.int i5), .val (.int i6), .val (.int i7), .val (.ref a8), .val (.int i9), .val (.int i10), .val (.int i11), .val (.int i12), .val (.int i13), .val (.int i14), .val (.int i15), .val (.int u0), .unset] [])) target → Steps p.tables e below (T0.setTop (mkF m 242 #[.val (.int i0), .val (.int i1), .val (.int i2), .val (.int i3), .val (.int i4), .val (.int i5), .val (.int i6), .val (.int i7), .val (.ref a8), .val (.int i9), .val (.int i10), .val (.int i11), .val (.int i12), .val (.int i13), .val (.int i14), .val (.int i15), .unset, .unset] [(.int u0)])) target := by
      intro target kt
      refine pre3 target ?_
      show Steps p.tables e below (T2.setTop (mkF m 258 #[.val (.int i0), .val (.int i1), .val (.int i2), .val (.int i3), .val (.int i4), .val (.int i5), .val (.int i6), .val (.int i7), .val (.ref a8), .val (.int i9), .val (.int i10), .val (.int i11), .val (.int i12), .val (.int i13), .val (.int i14), .val (.int i15), .val (.int u0), .unset] [(.int i11), (.int (own_f8_0 (own_o7_line i6 w_line_a8 w_column_a8 w_afterCarriageReturn_a8)))])) _
      refine XS.icmpYes X2.here hx rfl (pc0 := 258) (pc' := 275) rfl (hb hby at_258) rfl (feq hc258).2 (by decide) (by decide) ?_
      exact kt
    obtain ⟨T11, L11, k11, n11, X11, N11, hk11', hn11, st11⟩ := own_b0_275 hx hZ hw hby hml hown hret i0 i1 i2 i3 i4 i5 i6 i7 a8 i9 i10 i11 i12 i13 i14 i15 u0 (own_o7_line i6 w_line_a8 w_column_a8 w_afterCarriageReturn_a8) (own_o7_column i6 w_line_a8 w_column_a8 w_afterCarriageReturn_a8) (own_o7_afterCarriageReturn i6 w_line_a8 w_column_a8 w_afterCarriageReturn_a8) X2 e2 N1 Z1 g_a8 E_a8_k1 F_line_a8_k1 F_column_a8_k1 F_afterCarriageReturn_a8_k1 
    have hv : (own_f0_242 i0 i1 i2 i3 i4 i5 i6 i7 i9 i10 i11 i12 i13 i14 i15 u0 w_line_a8 w_column_a8 w_afterCarriageReturn_a8) = (own_f0_275 i0 i1 i2 i3 i4 i5 i6 i7 i9 i10 i11 i12 i13 i14 i15 u0 (own_o7_line i6 w_line_a8 w_column_a8 w_afterCarriageReturn_a8) (own_o7_column i6 w_line_a8 w_column_a8 w_afterCarriageReturn_a8) (own_o7_afterCarriageReturn i6 w_line_a8 w_column_a8 w_afterCarriageReturn_a8)) := by unfold own_f0_242; rw [if_neg hc258]
    exact ⟨T11, L11, k11, n11, X11, N11, hk11', hn11, fun fs hr => pre10 _ (st11 fs (by rw [hv] at hr; exact hr))⟩
set_option maxRecDepth 65536 in
set_option maxHeartbeats 40000000 in
theorem own_b0_241 {p : Program} {l : Launch} {e : Env} {s : State} {m : MethodId} {args : Array Value} {below : List Frame} {meth : Method} {c : Code} {Z : State} {a0_ : Array Value} {n0 : Nat} (hx : p.tables.exec = Jvm.exec) (hZ : Z.Warmed39 s.vm) (hw : ∀ d ∈ tables_1, d.before a0_ Z = true) (hby : c.code = code) (hml : c.maxLocals = 18) (hown : s.vm.findClass "com/example/saho/saho/load/LineCounterAdvancePinLaw" = some m.cls) (hret : meth.sig.returnType = some .boolean) {T0 : State} {locs : List Loc} {h0 : Heap} (i0 : Int32) (i1 : Int32) (i2 : Int32) (i3 : Int32) (i4 : Int32) (i5 : Int32) (i6 : Int32) (i7 : Int32) (a8 : Addr) (i9 : Int32) (i10 : Int32) (i11 : Int32) (i12 : Int32) (i13 : Int32) (i14 : Int32) (i15 : Int32) (w_line_a8 : Int32) (w_column_a8 : Int32) (w_afterCarriageReturn_a8 : Int32)
    (X0 : Stand p l e room_1 s m args below meth c T0 locs 1 3) (e0 : T0.heap = h0) (N0 : Fr n0 locs) (Z0 : n0 ≤ h0.size) (g_a8 : n0 ≤ a8) (E_a8 : Exa Z h0 a8 "com/example/saho/saho/load/LineCounter") (F_line_a8 : Fld Z h0 a8 "com/example/saho/saho/load/LineCounter" "line" "I" (.int w_line_a8)) (F_column_a8 : Fld Z h0 a8 "com/example/saho/saho/load/LineCounter" "column" "I" (.int w_column_a8)) (F_afterCarriageReturn_a8 : Fld Z h0 a8 "com/example/saho/saho/load/LineCounter" "afterCarriageReturn" "Z" (.int w_afterCarriageReturn_a8)) :
    ∃ T' locs' cells' slots', Stand p l e room_1 s m args below meth c T' locs' cells' slots' ∧ Fr n0 locs' ∧ cells' ≤ room_1.cells ∧ slots' ≤ room_1.slots ∧ ∀ fs, (∀ (f : JFrame) (acts : List Action), f.method = m → f.locked = none → f.entered = [] → (doReturn e (T'.setTop f) acts (some (.int (own_f0_241 i0 i1 i2 i3 i4 i5 i6 i7 i9 i10 i11 i12 i13 i14 i15 w_line_a8 w_column_a8 w_afterCarriageReturn_a8)))).1 = T'.setFrames fs) → Steps p.tables e below (T0.setTop (mkF m 241 #[.val (.int i0), .val (.int i1), .val (.int i2), .val (.int i3), .val (.int i4), .val (.int i5), .val (.int i6), .val (.int i7), .val (.ref a8), .val (.int i9), .val (.int i10), .val (.int i11), .val (.int i12), .val (.int i13), .val (.int i14), .val (.int i15), .unset, .unset] [])) (T'.setFrames fs) := by
  have pre1 : ∀ target, Steps p.tables e below (T0.setTop (mkF m 242 #[.val (.int i0), .val (.int i1), .val (.int i2), .val (.int i3), .val (.int i4), .val (.int i5), .val (.int i6), .val (.int i7), .val (.ref a8), .val (.int i9), .val (.int i10), .val (.int i11), .val (.int i12), .val (.int i13), .val (.int i14), .val (.int i15), .unset, .unset] [(.int (0 : Int32))])) target → Steps p.tables e below (T0.setTop (mkF m 241 #[.val (.int i0), .val (.int i1), .val (.int i2), .val (.int i3), .val (.int i4), .val (.int i5), .val (.int i6), .val (.int i7), .val (.ref a8), .val (.int i9), .val (.int i10), .val (.int i11), .val (.int i12), .val (.int i13), .val (.int i14), .val (.int i15), .unset, .unset] [])) target := by
    intro target kt
    show Steps p.tables e below (T0.setTop (mkF m 241 #[.val (.int i0), .val (.int i1), .val (.int i2), .val (.int i3), .val (.int i4), .val (.int i5), .val (.int i6), .val (.int i7), .val (.ref a8), .val (.int i9), .val (.int i10), .val (.int i11), .val (.int i12), .val (.int i13), .val (.int i14), .val (.int i15), .unset, .unset] [])) _
    refine XS.iconst X0.here hx rfl (hb hby at_241) ?_
    exact kt
  obtain ⟨T2, L2, k2, n2, X2, N2, hk2', hn2, st2⟩ := own_b0_242 hx hZ hw hby hml hown hret i0 i1 i2 i3 i4 i5 i6 i7 a8 i9 i10 i11 i12 i13 i14 i15 (0 : Int32) w_line_a8 w_column_a8 w_afterCarriageReturn_a8 X0 e0 N0 Z0 g_a8 E_a8 F_line_a8 F_column_a8 F_afterCarriageReturn_a8 
  have hv : (own_f0_241 i0 i1 i2 i3 i4 i5 i6 i7 i9 i10 i11 i12 i13 i14 i15 w_line_a8 w_column_a8 w_afterCarriageReturn_a8) = (own_f0_242 i0 i1 i2 i3 i4 i5 i6 i7 i9 i10 i11 i12 i13 i14 i15 (0 : Int32) w_line_a8 w_column_a8 w_afterCarriageReturn_a8) := by unfold own_f0_241; rfl
  exact ⟨T2, L2, k2, n2, X2, N2, hk2', hn2, fun fs hr => pre1 _ (st2 fs (by rw [hv] at hr; exact hr))⟩
set_option maxRecDepth 65536 in
set_option maxHeartbeats 40000000 in
theorem own_b0_208 {p : Program} {l : Launch} {e : Env} {s : State} {m : MethodId} {args : Array Value} {below : List Frame} {meth : Method} {c : Code} {Z : State} {a0_ : Array Value} {n0 : Nat} (hx : p.tables.exec = Jvm.exec) (hZ : Z.Warmed39 s.vm) (hw : ∀ d ∈ tables_1, d.before a0_ Z = true) (hby : c.code = code) (hml : c.maxLocals = 18) (hown : s.vm.findClass "com/example/saho/saho/load/LineCounterAdvancePinLaw" = some m.cls) (hret : meth.sig.returnType = some .boolean) {T0 : State} {locs : List Loc} {h0 : Heap} (i0 : Int32) (i1 : Int32) (i2 : Int32) (i3 : Int32) (i4 : Int32) (i5 : Int32) (i6 : Int32) (i7 : Int32) (a8 : Addr) (i9 : Int32) (i10 : Int32) (i11 : Int32) (i12 : Int32) (i13 : Int32) (i14 : Int32) (u0 : Int32) (w_line_a8 : Int32) (w_column_a8 : Int32) (w_afterCarriageReturn_a8 : Int32)
    (X0 : Stand p l e room_1 s m args below meth c T0 locs 1 3) (e0 : T0.heap = h0) (N0 : Fr n0 locs) (Z0 : n0 ≤ h0.size) (g_a8 : n0 ≤ a8) (E_a8 : Exa Z h0 a8 "com/example/saho/saho/load/LineCounter") (F_line_a8 : Fld Z h0 a8 "com/example/saho/saho/load/LineCounter" "line" "I" (.int w_line_a8)) (F_column_a8 : Fld Z h0 a8 "com/example/saho/saho/load/LineCounter" "column" "I" (.int w_column_a8)) (F_afterCarriageReturn_a8 : Fld Z h0 a8 "com/example/saho/saho/load/LineCounter" "afterCarriageReturn" "Z" (.int w_afterCarriageReturn_a8)) :
    ∃ T' locs' cells' slots', Stand p l e room_1 s m args below meth c T' locs' cells' slots' ∧ Fr n0 locs' ∧ cells' ≤ room_1.cells ∧ slots' ≤ room_1.slots ∧ ∀ fs, (∀ (f : JFrame) (acts : List Action), f.method = m → f.locked = none → f.entered = [] → (doReturn e (T'.setTop f) acts (some (.int (own_f0_208 i0 i1 i2 i3 i4 i5 i6 i7 i9 i10 i11 i12 i13 i14 u0 w_line_a8 w_column_a8 w_afterCarriageReturn_a8)))).1 = T'.setFrames fs) → Steps p.tables e below (T0.setTop (mkF m 208 #[.val (.int i0), .val (.int i1), .val (.int i2), .val (.int i3), .val (.int i4), .val (.int i5), .val (.int i6), .val (.int i7), .val (.ref a8), .val (.int i9), .val (.int i10), .val (.int i11), .val (.int i12), .val (.int i13), .val (.int i14), .unset, .unset, .unset] [(.int u0)])) (T'.setFrames fs) := by
  obtain ⟨cq1, kq1, q1a, q1b, q1c⟩ := isOf hZ e0 E_a8
  obtain ⟨_, _, ⟨T1, L1, k1, n1⟩, -, X1, ⟨Lc1, hQ1, l1, y1, z1⟩, st1⟩ := X0.virtualBack hx (y := (⟨"com/example/saho/saho/load/LineCounter", "advance", "(C)V"⟩ : MethodName)) (z := (⟨"com/example/saho/saho/load/LineCounter", "advance", "(C)V"⟩ : MethodName)) hown (mvT hZ (hw _ (List.mem_of_getElem? (i := 31) rfl))) (mvT hZ (hw _ (List.mem_of_getElem? (i := 32) rfl))) (notFace_of_selects (args := #[]) (mvT hZ (hw _ (List.mem_of_getElem? (i := 34) rfl)))) (mvT hZ (hw _ (List.mem_of_getElem? (i := 34) rfl))) (mvT hZ (hw _ (List.mem_of_getElem? (i := 33) rfl))) (by decide) (backOf (W := 0) (rm7 l Z a0_ hw [] a8 i5 w_line_a8 w_column_a8 w_afterCarriageReturn_a8 h0 n0 Z0 E_a8 g_a8 F_line_a8 F_column_a8 F_afterCarriageReturn_a8) hZ (hw _ (List.mem_of_getElem? (i := 35) rfl)) (hw _ (List.mem_of_getElem? (i := 7) rfl)) (by decide) (by decide)) q1a q1c (g := (mkF m 214 #[.val (.int i0), .val (.int i1), .val (.int i2), .val (.int i3), .val (.int i4), .val (.int i5), .val (.int i6), .val (.int i7), .val (.ref a8), .val (.int i9), .val (.int i10), .val (.int i11), .val (.int i12), .val (.int i13), .val (.int i14), .val (.int u0), .unset, .unset] [(.int i5), (.ref a8)])) rfl (by rw [hml]; rfl) (Steps.refl _) (argsL := [(.int i5)]) (rest := []) (lenOf pd_0_5 rfl) rfl (by show 2 * 0 + _ ≤ _; exact Nat.le_of_eq rfl) (hb hby at_214) (fun _ _ => ⟨rfl, e0, (by decide : 1 + 0 ≤ room_1.cells), (by decide : 3 + 0 ≤ room_1.slots)⟩)
  dsimp only [Pt.U, Pt.locs, Pt.cells, Pt.slots] at X1 l1 y1 z1 st1 hQ1
  subst l1 y1 z1
  obtain ⟨rfl, Nq1, Kq1, Eq1, Gq1_line, Gq1_column, Gq1_afterCarriageReturn⟩ := hQ1
  have N1 := Fr.app N0 Nq1
  have Z1 : n0 ≤ T1.heap.size := Nat.le_trans Z0 Kq1.1
  have E_a8_k1 := Eq1
  have F_line_a8_k1 := Gq1_line
  have F_column_a8_k1 := Gq1_column
  have F_afterCarriageReturn_a8_k1 := Gq1_afterCarriageReturn
  obtain ⟨cq2, kq2, q2a, q2b, q2c⟩ := isOf hZ rfl E_a8_k1
  obtain ⟨_, _, ⟨T2, L2, k2, n2⟩, -, X2, ⟨Lc2, hQ2, l2, y2, z2⟩, st2⟩ := X1.virtualBack hx (y := (⟨"com/example/saho/saho/load/LineCounter", "line", "()I"⟩ : MethodName)) (z := (⟨"com/example/saho/saho/load/LineCounter", "line", "()I"⟩ : MethodName)) hown (mvT hZ (hw _ (List.mem_of_getElem? (i := 36) rfl))) (mvT hZ (hw _ (List.mem_of_getElem? (i := 37) rfl))) (notFace_of_selects (args := #[]) (mvT hZ (hw _ (List.mem_of_getElem? (i := 39) rfl)))) (mvT hZ (hw _ (List.mem_of_getElem? (i := 39) rfl))) (mvT hZ (hw _ (List.mem_of_getElem? (i := 38) rfl))) (by decide) (backOf (W := 0) (rm8 l Z a0_ hw [] a8 (own_o7_line i5 w_line_a8 w_column_a8 w_afterCarriageReturn_a8) T1.heap n0 Z1 F_line_a8_k1) hZ (hw _ (List.mem_of_getElem? (i := 40) rfl)) (hw _ (List.mem_of_getElem? (i := 7) rfl)) (by decide) (by decide)) q2a q2c (g := (mkF m 219 #[.val (.int i0), .val (.int i1), .val (.int i2), .val (.int i3), .val (.int i4), .val (.int i5), .val (.int i6), .val (.int i7), .val (.ref a8), .val (.int i9), .val (.int i10), .val (.int i11), .val (.int i12), .val (.int i13), .val (.int i14), .val (.int u0), .unset, .unset] [(.ref a8)])) rfl (by rw [hml]; rfl) (Steps.refl _) (argsL := []) (rest := []) (lenOf pd_0_6 rfl) rfl (by show 2 * 0 + _ ≤ _; exact Nat.le_of_eq rfl) (hb hby at_219) (fun _ _ => ⟨rfl, rfl, (by decide : 1 + 0 ≤ room_1.cells), (by decide : 3 + 0 ≤ room_1.slots)⟩)
  dsimp only [Pt.U, Pt.locs, Pt.cells, Pt.slots] at X2 l2 y2 z2 st2 hQ2
  subst l2 y2 z2
  obtain ⟨rfl, rfl, e2⟩ := hQ2
  rw [List.append_nil] at X2
  have pre3 : ∀ target, Steps p.tables e below (T2.setTop (mkF m 224 #[.val (.int i0), .val (.int i1), .val (.int i2), .val (.int i3), .val (.int i4), .val (.int i5), .val (.int i6), .val (.int i7), .val (.ref a8), .val (.int i9), .val (.int i10), .val (.int i11), .val (.int i12), .val (.int i13), .val (.int i14), .val (.int u0), .unset, .unset] [(.int i10), (.int (own_f8_0 (own_o7_line i5 w_line_a8 w_column_a8 w_afterCarriageReturn_a8)))])) target → Steps p.tables e below (T0.setTop (mkF m 208 #[.val (.int i0), .val (.int i1), .val (.int i2), .val (.int i3), .val (.int i4), .val (.int i5), .val (.int i6), .val (.int i7), .val (.ref a8), .val (.int i9), .val (.int i10), .val (.int i11), .val (.int i12), .val (.int i13), .val (.int i14), .unset, .unset, .unset] [(.int u0)])) target := by
    intro target kt
    show Steps p.tables e below (T0.setTop (mkF m 208 #[.val (.int i0), .val (.int i1), .val (.int i2), .val (.int i3), .val (.int i4), .val (.int i5), .val (.int i6), .val (.int i7), .val (.ref a8), .val (.int i9), .val (.int i10), .val (.int i11), .val (.int i12), .val (.int i13), .val (.int i14), .unset, .unset, .unset] [(.int u0)])) _
    refine XS.istore X0.here hx rfl (hb hby at_208) rfl (l' := #[.val (.int i0), .val (.int i1), .val (.int i2), .val (.int i3), .val (.int i4), .val (.int i5), .val (.int i6), .val (.int i7), .val (.ref a8), .val (.int i9), .val (.int i10), .val (.int i11), .val (.int i12), .val (.int i13), .val (.int i14), .val (.int u0), .unset, .unset]) rfl ?_
    show Steps p.tables e below (T0.setTop (mkF m 210 #[.val (.int i0), .val (.int i1), .val (.int i2), .val (.int i3), .val (.int i4), .val (.int i5), .val (.int i6), .val (.int i7), .val (.ref a8), .val (.int i9), .val (.int i10), .val (.int i11), .val (.int i12), .val (.int i13), .val (.int i14), .val (.int u0), .unset, .unset] [])) _
    refine XS.aload X0.here hx rfl (hb hby at_210) rfl rfl ?_
    show Steps p.tables e below (T0.setTop (mkF m 212 #[.val (.int i0), .val (.int i1), .val (.int i2), .val (.int i3), .val (.int i4), .val (.int i5), .val (.int i6), .val (.int i7), .val (.ref a8), .val (.int i9), .val (.int i10), .val (.int i11), .val (.int i12), .val (.int i13), .val (.int i14), .val (.int u0), .unset, .unset] [(.ref a8)])) _
    refine XS.iload X0.here hx rfl (hb hby at_212) rfl ?_
    show Steps p.tables e below (T0.setTop (mkF m 214 #[.val (.int i0), .val (.int i1), .val (.int i2), .val (.int i3), .val (.int i4), .val (.int i5), .val (.int i6), .val (.int i7), .val (.ref a8), .val (.int i9), .val (.int i10), .val (.int i11), .val (.int i12), .val (.int i13), .val (.int i14), .val (.int u0), .unset, .unset] [(.int i5), (.ref a8)])) _
    refine st1.trans ?_
    show Steps p.tables e below (T1.setTop (mkF m 217 #[.val (.int i0), .val (.int i1), .val (.int i2), .val (.int i3), .val (.int i4), .val (.int i5), .val (.int i6), .val (.int i7), .val (.ref a8), .val (.int i9), .val (.int i10), .val (.int i11), .val (.int i12), .val (.int i13), .val (.int i14), .val (.int u0), .unset, .unset] [])) _
    refine XS.aload X1.here hx rfl (hb hby at_217) rfl rfl ?_
    show Steps p.tables e below (T1.setTop (mkF m 219 #[.val (.int i0), .val (.int i1), .val (.int i2), .val (.int i3), .val (.int i4), .val (.int i5), .val (.int i6), .val (.int i7), .val (.ref a8), .val (.int i9), .val (.int i10), .val (.int i11), .val (.int i12), .val (.int i13), .val (.int i14), .val (.int u0), .unset, .unset] [(.ref a8)])) _
    refine st2.trans ?_
    show Steps p.tables e below (T2.setTop (mkF m 222 #[.val (.int i0), .val (.int i1), .val (.int i2), .val (.int i3), .val (.int i4), .val (.int i5), .val (.int i6), .val (.int i7), .val (.ref a8), .val (.int i9), .val (.int i10), .val (.int i11), .val (.int i12), .val (.int i13), .val (.int i14), .val (.int u0), .unset, .unset] [(.int (own_f8_0 (own_o7_line i5 w_line_a8 w_column_a8 w_afterCarriageReturn_a8)))])) _
    refine XS.iload X2.here hx rfl (hb hby at_222) rfl ?_
    exact kt
  by_cases hc224 : (own_f8_0 (own_o7_line i5 w_line_a8 w_column_a8 w_afterCarriageReturn_a8)) = i10
  · obtain ⟨cq4, kq4, q4a, q4b, q4c⟩ := isOf hZ e2 E_a8_k1
    obtain ⟨_, _, ⟨T4, L4, k4, n4⟩, -, X4, ⟨Lc4, hQ4, l4, y4, z4⟩, st4⟩ := X2.virtualBack hx (y := (⟨"com/example/saho/saho/load/LineCounter", "nextColumn", "()I"⟩ : MethodName)) (z := (⟨"com/example/saho/saho/load/LineCounter", "nextColumn", "()I"⟩ : MethodName)) hown (mvT hZ (hw _ (List.mem_of_getElem? (i := 41) rfl))) (mvT hZ (hw _ (List.mem_of_getElem? (i := 42) rfl))) (notFace_of_selects (args := #[]) (mvT hZ (hw _ (List.mem_of_getElem? (i := 44) rfl)))) (mvT hZ (hw _ (List.mem_of_getElem? (i := 44) rfl))) (mvT hZ (hw _ (List.mem_of_getElem? (i := 43) rfl))) (by decide) (backOf (W := 0) (rm9 l Z a0_ hw [] a8 (own_o7_column i5 w_line_a8 w_column_a8 w_afterCarriageReturn_a8) T1.heap n0 Z1 F_column_a8_k1) hZ (hw _ (List.mem_of_getElem? (i := 45) rfl)) (hw _ (List.mem_of_getElem? (i := 7) rfl)) (by decide) (by decide)) q4a q4c (g := (mkF m 229 #[.val (.int i0), .val (.int i1), .val (.int i2), .val (.int i3), .val (.int i4), .val (.int i5), .val (.int i6), .val (.int i7), .val (.ref a8), .val (.int i9), .val (.int i10), .val (.int i11), .val (.int i12), .val (.int i13), .val (.int i14), .val (.int u0), .unset, .unset] [(.ref a8)])) rfl (by rw [hml]; rfl) (Steps.refl _) (argsL := []) (rest := []) (lenOf pd_0_6 rfl) rfl (by show 2 * 0 + _ ≤ _; exact Nat.le_of_eq rfl) (hb hby at_229) (fun _ _ => ⟨rfl, e2, (by decide : 1 + 0 ≤ room_1.cells), (by decide : 3 + 0 ≤ room_1.slots)⟩)
    dsimp only [Pt.U, Pt.locs, Pt.cells, Pt.slots] at X4 l4 y4 z4 st4 hQ4
    subst l4 y4 z4
    obtain ⟨rfl, rfl, e4⟩ := hQ4
    rw [List.append_nil] at X4
    have pre5 : ∀ target, Steps p.tables e below (T4.setTop (mkF m 234 #[.val (.int i0), .val (.int i1), .val (.int i2), .val (.int i3), .val (.int i4), .val (.int i5), .val (.int i6), .val (.int i7), .val (.ref a8), .val (.int i9), .val (.int i10), .val (.int i11), .val (.int i12), .val (.int i13), .val (.int i14), .val (.int u0), .unset, .unset] [(.int i13), (.int (own_f9_0 (own_o7_column i5 w_line_a8 w_column_a8 w_afterCarriageReturn_a8)))])) target → Steps p.tables e below (T0.setTop (mkF m 208 #[.val (.int i0), .val (.int i1), .val (.int i2), .val (.int i3), .val (.int i4), .val (.int i5), .val (.int i6), .val (.int i7), .val (.ref a8), .val (.int i9), .val (.int i10), .val (.int i11), .val (.int i12), .val (.int i13), .val (.int i14), .unset, .unset, .unset] [(.int u0)])) target := by
      intro target kt
      refine pre3 target ?_
      show Steps p.tables e below (T2.setTop (mkF m 224 #[.val (.int i0), .val (.int i1), .val (.int i2), .val (.int i3), .val (.int i4), .val (.int i5), .val (.int i6), .val (.int i7), .val (.ref a8), .val (.int i9), .val (.int i10), .val (.int i11), .val (.int i12), .val (.int i13), .val (.int i14), .val (.int u0), .unset, .unset] [(.int i10), (.int (own_f8_0 (own_o7_line i5 w_line_a8 w_column_a8 w_afterCarriageReturn_a8)))])) _
      refine XS.icmpNo X2.here hx rfl (hb hby at_224) rfl (teq hc224).2 ?_
      show Steps p.tables e below (T2.setTop (mkF m 227 #[.val (.int i0), .val (.int i1), .val (.int i2), .val (.int i3), .val (.int i4), .val (.int i5), .val (.int i6), .val (.int i7), .val (.ref a8), .val (.int i9), .val (.int i10), .val (.int i11), .val (.int i12), .val (.int i13), .val (.int i14), .val (.int u0), .unset, .unset] [])) _
      refine XS.aload X2.here hx rfl (hb hby at_227) rfl rfl ?_
      show Steps p.tables e below (T2.setTop (mkF m 229 #[.val (.int i0), .val (.int i1), .val (.int i2), .val (.int i3), .val (.int i4), .val (.int i5), .val (.int i6), .val (.int i7), .val (.ref a8), .val (.int i9), .val (.int i10), .val (.int i11), .val (.int i12), .val (.int i13), .val (.int i14), .val (.int u0), .unset, .unset] [(.ref a8)])) _
      refine st4.trans ?_
      show Steps p.tables e below (T4.setTop (mkF m 232 #[.val (.int i0), .val (.int i1), .val (.int i2), .val (.int i3), .val (.int i4), .val (.int i5), .val (.int i6), .val (.int i7), .val (.ref a8), .val (.int i9), .val (.int i10), .val (.int i11), .val (.int i12), .val (.int i13), .val (.int i14), .val (.int u0), .unset, .unset] [(.int (own_f9_0 (own_o7_column i5 w_line_a8 w_column_a8 w_afterCarriageReturn_a8)))])) _
      refine XS.iload X4.here hx rfl (hb hby at_232) rfl ?_
      exact kt
    by_cases hc234 : (own_f9_0 (own_o7_column i5 w_line_a8 w_column_a8 w_afterCarriageReturn_a8)) = i13
    · have pre6 : ∀ target, Steps p.tables e below (T4.setTop (mkF m 242 #[.val (.int i0), .val (.int i1), .val (.int i2), .val (.int i3), .val (.int i4), .val (.int i5), .val (.int i6), .val (.int i7), .val (.ref a8), .val (.int i9), .val (.int i10), .val (.int i11), .val (.int i12), .val (.int i13), .val (.int i14), .val (.int u0), .unset, .unset] [(.int (1 : Int32))])) target → Steps p.tables e below (T0.setTop (mkF m 208 #[.val (.int i0), .val (.int i1), .val (.int i2), .val (.int i3), .val (.int i4), .val (.int i5), .val (.int i6), .val (.int i7), .val (.ref a8), .val (.int i9), .val (.int i10), .val (.int i11), .val (.int i12), .val (.int i13), .val (.int i14), .unset, .unset, .unset] [(.int u0)])) target := by
        intro target kt
        refine pre5 target ?_
        show Steps p.tables e below (T4.setTop (mkF m 234 #[.val (.int i0), .val (.int i1), .val (.int i2), .val (.int i3), .val (.int i4), .val (.int i5), .val (.int i6), .val (.int i7), .val (.ref a8), .val (.int i9), .val (.int i10), .val (.int i11), .val (.int i12), .val (.int i13), .val (.int i14), .val (.int u0), .unset, .unset] [(.int i13), (.int (own_f9_0 (own_o7_column i5 w_line_a8 w_column_a8 w_afterCarriageReturn_a8)))])) _
        refine XS.icmpNo X4.here hx rfl (hb hby at_234) rfl (teq hc234).2 ?_
        show Steps p.tables e below (T4.setTop (mkF m 237 #[.val (.int i0), .val (.int i1), .val (.int i2), .val (.int i3), .val (.int i4), .val (.int i5), .val (.int i6), .val (.int i7), .val (.ref a8), .val (.int i9), .val (.int i10), .val (.int i11), .val (.int i12), .val (.int i13), .val (.int i14), .val (.int u0), .unset, .unset] [])) _
        refine XS.iconst X4.here hx rfl (hb hby at_237) ?_
        show Steps p.tables e below (T4.setTop (mkF m 238 #[.val (.int i0), .val (.int i1), .val (.int i2), .val (.int i3), .val (.int i4), .val (.int i5), .val (.int i6), .val (.int i7), .val (.ref a8), .val (.int i9), .val (.int i10), .val (.int i11), .val (.int i12), .val (.int i13), .val (.int i14), .val (.int u0), .unset, .unset] [(.int (1 : Int32))])) _
        refine XS.goto X4.here hx rfl (pc0 := 238) (pc' := 242) rfl (hb hby at_238) (by decide) (by decide) ?_
        exact kt
      obtain ⟨T7, L7, k7, n7, X7, N7, hk7', hn7, st7⟩ := own_b0_242 hx hZ hw hby hml hown hret i0 i1 i2 i3 i4 i5 i6 i7 a8 i9 i10 i11 i12 i13 i14 u0 (1 : Int32) (own_o7_line i5 w_line_a8 w_column_a8 w_afterCarriageReturn_a8) (own_o7_column i5 w_line_a8 w_column_a8 w_afterCarriageReturn_a8) (own_o7_afterCarriageReturn i5 w_line_a8 w_column_a8 w_afterCarriageReturn_a8) X4 e4 N1 Z1 g_a8 E_a8_k1 F_line_a8_k1 F_column_a8_k1 F_afterCarriageReturn_a8_k1 
      have hv : (own_f0_208 i0 i1 i2 i3 i4 i5 i6 i7 i9 i10 i11 i12 i13 i14 u0 w_line_a8 w_column_a8 w_afterCarriageReturn_a8) = (own_f0_242 i0 i1 i2 i3 i4 i5 i6 i7 i9 i10 i11 i12 i13 i14 u0 (1 : Int32) (own_o7_line i5 w_line_a8 w_column_a8 w_afterCarriageReturn_a8) (own_o7_column i5 w_line_a8 w_column_a8 w_afterCarriageReturn_a8) (own_o7_afterCarriageReturn i5 w_line_a8 w_column_a8 w_afterCarriageReturn_a8)) := by unfold own_f0_208; rw [if_pos hc224, if_pos hc234]
      exact ⟨T7, L7, k7, n7, X7, N7, hk7', hn7, fun fs hr => pre6 _ (st7 fs (by rw [hv] at hr; exact hr))⟩
    · have pre8 : ∀ target, Steps p.tables e below (T4.setTop (mkF m 241 #[.val (.int i0), .val (.int i1), .val (.int i2), .val (.int i3), .val (.int i4), .val (.int i5), .val (.int i6), .val (.int i7), .val (.ref a8), .val (.int i9), .val (.int i10), .val (.int i11), .val (.int i12), .val (.int i13), .val (.int i14), .val (.int u0), .unset, .unset] [])) target → Steps p.tables e below (T0.setTop (mkF m 208 #[.val (.int i0), .val (.int i1), .val (.int i2), .val (.int i3), .val (.int i4), .val (.int i5), .val (.int i6), .val (.int i7), .val (.ref a8), .val (.int i9), .val (.int i10), .val (.int i11), .val (.int i12), .val (.int i13), .val (.int i14), .unset, .unset, .unset] [(.int u0)])) target := by
        intro target kt
        refine pre5 target ?_
        show Steps p.tables e below (T4.setTop (mkF m 234 #[.val (.int i0), .val (.int i1), .val (.int i2), .val (.int i3), .val (.int i4), .val (.int i5), .val (.int i6), .val (.int i7), .val (.ref a8), .val (.int i9), .val (.int i10), .val (.int i11), .val (.int i12), .val (.int i13), .val (.int i14), .val (.int u0), .unset, .unset] [(.int i13), (.int (own_f9_0 (own_o7_column i5 w_line_a8 w_column_a8 w_afterCarriageReturn_a8)))])) _
        refine XS.icmpYes X4.here hx rfl (pc0 := 234) (pc' := 241) rfl (hb hby at_234) rfl (feq hc234).2 (by decide) (by decide) ?_
        exact kt
      obtain ⟨T9, L9, k9, n9, X9, N9, hk9', hn9, st9⟩ := own_b0_241 hx hZ hw hby hml hown hret i0 i1 i2 i3 i4 i5 i6 i7 a8 i9 i10 i11 i12 i13 i14 u0 (own_o7_line i5 w_line_a8 w_column_a8 w_afterCarriageReturn_a8) (own_o7_column i5 w_line_a8 w_column_a8 w_afterCarriageReturn_a8) (own_o7_afterCarriageReturn i5 w_line_a8 w_column_a8 w_afterCarriageReturn_a8) X4 e4 N1 Z1 g_a8 E_a8_k1 F_line_a8_k1 F_column_a8_k1 F_afterCarriageReturn_a8_k1 
      have hv : (own_f0_208 i0 i1 i2 i3 i4 i5 i6 i7 i9 i10 i11 i12 i13 i14 u0 w_line_a8 w_column_a8 w_afterCarriageReturn_a8) = (own_f0_241 i0 i1 i2 i3 i4 i5 i6 i7 i9 i10 i11 i12 i13 i14 u0 (own_o7_line i5 w_line_a8 w_column_a8 w_afterCarriageReturn_a8) (own_o7_column i5 w_line_a8 w_column_a8 w_afterCarriageReturn_a8) (own_o7_afterCarriageReturn i5 w_line_a8 w_column_a8 w_afterCarriageReturn_a8)) := by unfold own_f0_208; rw [if_pos hc224, if_neg hc234]
      exact ⟨T9, L9, k9, n9, X9, N9, hk9', hn9, fun fs hr => pre8 _ (st9 fs (by rw [hv] at hr; exact hr))⟩
  · have pre10 : ∀ target, Steps p.tables e below (T2.setTop (mkF m 241 #[.val (.int i0), .val (.int i1), .val (.int i2), .val (.int i3), .val (.int i4), .val (.int i5), .val (.int i6), .val (.int i7), .val (.ref a8), .val (.int i9), .val (.int i10), .val (.int i11), .val (.int i12), .val (.int i13), .val (.int i14), .val (.int u0), .unset, .unset] [])) target → Steps p.tables e below (T0.setTop (mkF m 208 #[.val (.int i0), .val (.int i1), .val (.int i2), .val (.int i3), .val (.int i4), .val (.int i5), .val (.int i6), .val (.int i7), .val (.ref a8), .val (.int i9), .val (.int i10), .val (.int i11), .val (.int i12), .val (.int i13), .val (.int i14), .unset, .unset, .unset] [(.int u0)])) target := by
      intro target kt
      refine pre3 target ?_
      show Steps p.tables e below (T2.setTop (mkF m 224 #[.val (.int i0), .val (.int i1), .val (.int i2), .val (.int i3), .val (.int i4), .val (.int i5), .val (.int i6), .val (.int i7), .val (.ref a8), .val (.int i9), .val (.int i10), .val (.int i11), .val (.int i12), .val (.int i13), .val (.int i14), .val (.int u0), .unset, .unset] [(.int i10), (.int (own_f8_0 (own_o7_line i5 w_line_a8 w_column_a8 w_afterCarriageReturn_a8)))])) _
      refine XS.icmpYes X2.here hx rfl (pc0 := 224) (pc' := 241) rfl (hb hby at_224) rfl (feq hc224).2 (by decide) (by decide) ?_
      exact kt
    obtain ⟨T11, L11, k11, n11, X11, N11, hk11', hn11, st11⟩ := own_b0_241 hx hZ hw hby hml hown hret i0 i1 i2 i3 i4 i5 i6 i7 a8 i9 i10 i11 i12 i13 i14 u0 (own_o7_line i5 w_line_a8 w_column_a8 w_afterCarriageReturn_a8) (own_o7_column i5 w_line_a8 w_column_a8 w_afterCarriageReturn_a8) (own_o7_afterCarriageReturn i5 w_line_a8 w_column_a8 w_afterCarriageReturn_a8) X2 e2 N1 Z1 g_a8 E_a8_k1 F_line_a8_k1 F_column_a8_k1 F_afterCarriageReturn_a8_k1 
    have hv : (own_f0_208 i0 i1 i2 i3 i4 i5 i6 i7 i9 i10 i11 i12 i13 i14 u0 w_line_a8 w_column_a8 w_afterCarriageReturn_a8) = (own_f0_241 i0 i1 i2 i3 i4 i5 i6 i7 i9 i10 i11 i12 i13 i14 u0 (own_o7_line i5 w_line_a8 w_column_a8 w_afterCarriageReturn_a8) (own_o7_column i5 w_line_a8 w_column_a8 w_afterCarriageReturn_a8) (own_o7_afterCarriageReturn i5 w_line_a8 w_column_a8 w_afterCarriageReturn_a8)) := by unfold own_f0_208; rw [if_neg hc224]
    exact ⟨T11, L11, k11, n11, X11, N11, hk11', hn11, fun fs hr => pre10 _ (st11 fs (by rw [hv] at hr; exact hr))⟩
set_option maxRecDepth 65536 in
set_option maxHeartbeats 40000000 in
theorem own_b0_207 {p : Program} {l : Launch} {e : Env} {s : State} {m : MethodId} {args : Array Value} {below : List Frame} {meth : Method} {c : Code} {Z : State} {a0_ : Array Value} {n0 : Nat} (hx : p.tables.exec = Jvm.exec) (hZ : Z.Warmed39 s.vm) (hw : ∀ d ∈ tables_1, d.before a0_ Z = true) (hby : c.code = code) (hml : c.maxLocals = 18) (hown : s.vm.findClass "com/example/saho/saho/load/LineCounterAdvancePinLaw" = some m.cls) (hret : meth.sig.returnType = some .boolean) {T0 : State} {locs : List Loc} {h0 : Heap} (i0 : Int32) (i1 : Int32) (i2 : Int32) (i3 : Int32) (i4 : Int32) (i5 : Int32) (i6 : Int32) (i7 : Int32) (a8 : Addr) (i9 : Int32) (i10 : Int32) (i11 : Int32) (i12 : Int32) (i13 : Int32) (i14 : Int32) (w_line_a8 : Int32) (w_column_a8 : Int32) (w_afterCarriageReturn_a8 : Int32)
    (X0 : Stand p l e room_1 s m args below meth c T0 locs 1 3) (e0 : T0.heap = h0) (N0 : Fr n0 locs) (Z0 : n0 ≤ h0.size) (g_a8 : n0 ≤ a8) (E_a8 : Exa Z h0 a8 "com/example/saho/saho/load/LineCounter") (F_line_a8 : Fld Z h0 a8 "com/example/saho/saho/load/LineCounter" "line" "I" (.int w_line_a8)) (F_column_a8 : Fld Z h0 a8 "com/example/saho/saho/load/LineCounter" "column" "I" (.int w_column_a8)) (F_afterCarriageReturn_a8 : Fld Z h0 a8 "com/example/saho/saho/load/LineCounter" "afterCarriageReturn" "Z" (.int w_afterCarriageReturn_a8)) :
    ∃ T' locs' cells' slots', Stand p l e room_1 s m args below meth c T' locs' cells' slots' ∧ Fr n0 locs' ∧ cells' ≤ room_1.cells ∧ slots' ≤ room_1.slots ∧ ∀ fs, (∀ (f : JFrame) (acts : List Action), f.method = m → f.locked = none → f.entered = [] → (doReturn e (T'.setTop f) acts (some (.int (own_f0_207 i0 i1 i2 i3 i4 i5 i6 i7 i9 i10 i11 i12 i13 i14 w_line_a8 w_column_a8 w_afterCarriageReturn_a8)))).1 = T'.setFrames fs) → Steps p.tables e below (T0.setTop (mkF m 207 #[.val (.int i0), .val (.int i1), .val (.int i2), .val (.int i3), .val (.int i4), .val (.int i5), .val (.int i6), .val (.int i7), .val (.ref a8), .val (.int i9), .val (.int i10), .val (.int i11), .val (.int i12), .val (.int i13), .val (.int i14), .unset, .unset, .unset] [])) (T'.setFrames fs) := by
  have pre1 : ∀ target, Steps p.tables e below (T0.setTop (mkF m 208 #[.val (.int i0), .val (.int i1), .val (.int i2), .val (.int i3), .val (.int i4), .val (.int i5), .val (.int i6), .val (.int i7), .val (.ref a8), .val (.int i9), .val (.int i10), .val (.int i11), .val (.int i12), .val (.int i13), .val (.int i14), .unset, .unset, .unset] [(.int (0 : Int32))])) target → Steps p.tables e below (T0.setTop (mkF m 207 #[.val (.int i0), .val (.int i1), .val (.int i2), .val (.int i3), .val (.int i4), .val (.int i5), .val (.int i6), .val (.int i7), .val (.ref a8), .val (.int i9), .val (.int i10), .val (.int i11), .val (.int i12), .val (.int i13), .val (.int i14), .unset, .unset, .unset] [])) target := by
    intro target kt
    show Steps p.tables e below (T0.setTop (mkF m 207 #[.val (.int i0), .val (.int i1), .val (.int i2), .val (.int i3), .val (.int i4), .val (.int i5), .val (.int i6), .val (.int i7), .val (.ref a8), .val (.int i9), .val (.int i10), .val (.int i11), .val (.int i12), .val (.int i13), .val (.int i14), .unset, .unset, .unset] [])) _
    refine XS.iconst X0.here hx rfl (hb hby at_207) ?_
    exact kt
  obtain ⟨T2, L2, k2, n2, X2, N2, hk2', hn2, st2⟩ := own_b0_208 hx hZ hw hby hml hown hret i0 i1 i2 i3 i4 i5 i6 i7 a8 i9 i10 i11 i12 i13 i14 (0 : Int32) w_line_a8 w_column_a8 w_afterCarriageReturn_a8 X0 e0 N0 Z0 g_a8 E_a8 F_line_a8 F_column_a8 F_afterCarriageReturn_a8 
  have hv : (own_f0_207 i0 i1 i2 i3 i4 i5 i6 i7 i9 i10 i11 i12 i13 i14 w_line_a8 w_column_a8 w_afterCarriageReturn_a8) = (own_f0_208 i0 i1 i2 i3 i4 i5 i6 i7 i9 i10 i11 i12 i13 i14 (0 : Int32) w_line_a8 w_column_a8 w_afterCarriageReturn_a8) := by unfold own_f0_207; rfl
  exact ⟨T2, L2, k2, n2, X2, N2, hk2', hn2, fun fs hr => pre1 _ (st2 fs (by rw [hv] at hr; exact hr))⟩
set_option maxRecDepth 65536 in
set_option maxHeartbeats 40000000 in
theorem own_b0_174 {p : Program} {l : Launch} {e : Env} {s : State} {m : MethodId} {args : Array Value} {below : List Frame} {meth : Method} {c : Code} {Z : State} {a0_ : Array Value} {n0 : Nat} (hx : p.tables.exec = Jvm.exec) (hZ : Z.Warmed39 s.vm) (hw : ∀ d ∈ tables_1, d.before a0_ Z = true) (hby : c.code = code) (hml : c.maxLocals = 18) (hown : s.vm.findClass "com/example/saho/saho/load/LineCounterAdvancePinLaw" = some m.cls) (hret : meth.sig.returnType = some .boolean) {T0 : State} {locs : List Loc} {h0 : Heap} (i0 : Int32) (i1 : Int32) (i2 : Int32) (i3 : Int32) (i4 : Int32) (i5 : Int32) (i6 : Int32) (i7 : Int32) (a8 : Addr) (i9 : Int32) (i10 : Int32) (i11 : Int32) (i12 : Int32) (i13 : Int32) (u0 : Int32) (w_line_a8 : Int32) (w_column_a8 : Int32) (w_afterCarriageReturn_a8 : Int32)
    (X0 : Stand p l e room_1 s m args below meth c T0 locs 1 3) (e0 : T0.heap = h0) (N0 : Fr n0 locs) (Z0 : n0 ≤ h0.size) (g_a8 : n0 ≤ a8) (E_a8 : Exa Z h0 a8 "com/example/saho/saho/load/LineCounter") (F_line_a8 : Fld Z h0 a8 "com/example/saho/saho/load/LineCounter" "line" "I" (.int w_line_a8)) (F_column_a8 : Fld Z h0 a8 "com/example/saho/saho/load/LineCounter" "column" "I" (.int w_column_a8)) (F_afterCarriageReturn_a8 : Fld Z h0 a8 "com/example/saho/saho/load/LineCounter" "afterCarriageReturn" "Z" (.int w_afterCarriageReturn_a8)) :
    ∃ T' locs' cells' slots', Stand p l e room_1 s m args below meth c T' locs' cells' slots' ∧ Fr n0 locs' ∧ cells' ≤ room_1.cells ∧ slots' ≤ room_1.slots ∧ ∀ fs, (∀ (f : JFrame) (acts : List Action), f.method = m → f.locked = none → f.entered = [] → (doReturn e (T'.setTop f) acts (some (.int (own_f0_174 i0 i1 i2 i3 i4 i5 i6 i7 i9 i10 i11 i12 i13 u0 w_line_a8 w_column_a8 w_afterCarriageReturn_a8)))).1 = T'.setFrames fs) → Steps p.tables e below (T0.setTop (mkF m 174 #[.val (.int i0), .val (.int i1), .val (.int i2), .val (.int i3), .val (.int i4), .val (.int i5), .val (.int i6), .val (.int i7), .val (.ref a8), .val (.int i9), .val (.int i10), .val (.int i11), .val (.int i12), .val (.int i13), .unset, .unset, .unset, .unset] [(.int u0)])) (T'.setFrames fs) := by
  obtain ⟨cq1, kq1, q1a, q1b, q1c⟩ := isOf hZ e0 E_a8
  obtain ⟨_, _, ⟨T1, L1, k1, n1⟩, -, X1, ⟨Lc1, hQ1, l1, y1, z1⟩, st1⟩ := X0.virtualBack hx (y := (⟨"com/example/saho/saho/load/LineCounter", "advance", "(C)V"⟩ : MethodName)) (z := (⟨"com/example/saho/saho/load/LineCounter", "advance", "(C)V"⟩ : MethodName)) hown (mvT hZ (hw _ (List.mem_of_getElem? (i := 31) rfl))) (mvT hZ (hw _ (List.mem_of_getElem? (i := 32) rfl))) (notFace_of_selects (args := #[]) (mvT hZ (hw _ (List.mem_of_getElem? (i := 34) rfl)))) (mvT hZ (hw _ (List.mem_of_getElem? (i := 34) rfl))) (mvT hZ (hw _ (List.mem_of_getElem? (i := 33) rfl))) (by decide) (backOf (W := 0) (rm7 l Z a0_ hw [] a8 i4 w_line_a8 w_column_a8 w_afterCarriageReturn_a8 h0 n0 Z0 E_a8 g_a8 F_line_a8 F_column_a8 F_afterCarriageReturn_a8) hZ (hw _ (List.mem_of_getElem? (i := 35) rfl)) (hw _ (List.mem_of_getElem? (i := 7) rfl)) (by decide) (by decide)) q1a q1c (g := (mkF m 180 #[.val (.int i0), .val (.int i1), .val (.int i2), .val (.int i3), .val (.int i4), .val (.int i5), .val (.int i6), .val (.int i7), .val (.ref a8), .val (.int i9), .val (.int i10), .val (.int i11), .val (.int i12), .val (.int i13), .val (.int u0), .unset, .unset, .unset] [(.int i4), (.ref a8)])) rfl (by rw [hml]; rfl) (Steps.refl _) (argsL := [(.int i4)]) (rest := []) (lenOf pd_0_5 rfl) rfl (by show 2 * 0 + _ ≤ _; exact Nat.le_of_eq rfl) (hb hby at_180) (fun _ _ => ⟨rfl, e0, (by decide : 1 + 0 ≤ room_1.cells), (by decide : 3 + 0 ≤ room_1.slots)⟩)
  dsimp only [Pt.U, Pt.locs, Pt.cells, Pt.slots] at X1 l1 y1 z1 st1 hQ1
  subst l1 y1 z1
  obtain ⟨rfl, Nq1, Kq1, Eq1, Gq1_line, Gq1_column, Gq1_afterCarriageReturn⟩ := hQ1
  have N1 := Fr.app N0 Nq1
  have Z1 : n0 ≤ T1.heap.size := Nat.le_trans Z0 Kq1.1
  have E_a8_k1 := Eq1
  have F_line_a8_k1 := Gq1_line
  have F_column_a8_k1 := Gq1_column
  have F_afterCarriageReturn_a8_k1 := Gq1_afterCarriageReturn
  obtain ⟨cq2, kq2, q2a, q2b, q2c⟩ := isOf hZ rfl E_a8_k1
  obtain ⟨_, _, ⟨T2, L2, k2, n2⟩, -, X2, ⟨Lc2, hQ2, l2, y2, z2⟩, st2⟩ := X1.virtualBack hx (y := (⟨"com/example/saho/saho/load/LineCounter", "line", "()I"⟩ : MethodName)) (z := (⟨"com/example/saho/saho/load/LineCounter", "line", "()I"⟩ : MethodName)) hown (mvT hZ (hw _ (List.mem_of_getElem? (i := 36) rfl))) (mvT hZ (hw _ (List.mem_of_getElem? (i := 37) rfl))) (notFace_of_selects (args := #[]) (mvT hZ (hw _ (List.mem_of_getElem? (i := 39) rfl)))) (mvT hZ (hw _ (List.mem_of_getElem? (i := 39) rfl))) (mvT hZ (hw _ (List.mem_of_getElem? (i := 38) rfl))) (by decide) (backOf (W := 0) (rm8 l Z a0_ hw [] a8 (own_o7_line i4 w_line_a8 w_column_a8 w_afterCarriageReturn_a8) T1.heap n0 Z1 F_line_a8_k1) hZ (hw _ (List.mem_of_getElem? (i := 40) rfl)) (hw _ (List.mem_of_getElem? (i := 7) rfl)) (by decide) (by decide)) q2a q2c (g := (mkF m 185 #[.val (.int i0), .val (.int i1), .val (.int i2), .val (.int i3), .val (.int i4), .val (.int i5), .val (.int i6), .val (.int i7), .val (.ref a8), .val (.int i9), .val (.int i10), .val (.int i11), .val (.int i12), .val (.int i13), .val (.int u0), .unset, .unset, .unset] [(.ref a8)])) rfl (by rw [hml]; rfl) (Steps.refl _) (argsL := []) (rest := []) (lenOf pd_0_6 rfl) rfl (by show 2 * 0 + _ ≤ _; exact Nat.le_of_eq rfl) (hb hby at_185) (fun _ _ => ⟨rfl, rfl, (by decide : 1 + 0 ≤ room_1.cells), (by decide : 3 + 0 ≤ room_1.slots)⟩)
  dsimp only [Pt.U, Pt.locs, Pt.cells, Pt.slots] at X2 l2 y2 z2 st2 hQ2
  subst l2 y2 z2
  obtain ⟨rfl, rfl, e2⟩ := hQ2
  rw [List.append_nil] at X2
  have pre3 : ∀ target, Steps p.tables e below (T2.setTop (mkF m 190 #[.val (.int i0), .val (.int i1), .val (.int i2), .val (.int i3), .val (.int i4), .val (.int i5), .val (.int i6), .val (.int i7), .val (.ref a8), .val (.int i9), .val (.int i10), .val (.int i11), .val (.int i12), .val (.int i13), .val (.int u0), .unset, .unset, .unset] [(.int i9), (.int (own_f8_0 (own_o7_line i4 w_line_a8 w_column_a8 w_afterCarriageReturn_a8)))])) target → Steps p.tables e below (T0.setTop (mkF m 174 #[.val (.int i0), .val (.int i1), .val (.int i2), .val (.int i3), .val (.int i4), .val (.int i5), .val (.int i6), .val (.int i7), .val (.ref a8), .val (.int i9), .val (.int i10), .val (.int i11), .val (.int i12), .val (.int i13), .unset, .unset, .unset, .unset] [(.int u0)])) target := by
    intro target kt
    show Steps p.tables e below (T0.setTop (mkF m 174 #[.val (.int i0), .val (.int i1), .val (.int i2), .val (.int i3), .val (.int i4), .val (.int i5), .val (.int i6), .val (.int i7), .val (.ref a8), .val (.int i9), .val (.int i10), .val (.int i11), .val (.int i12), .val (.int i13), .unset, .unset, .unset, .unset] [(.int u0)])) _
    refine XS.istore X0.here hx rfl (hb hby at_174) rfl (l' := #[.val (.int i0), .val (.int i1), .val (.int i2), .val (.int i3), .val (.int i4), .val (.int i5), .val (.int i6), .val (.int i7), .val (.ref a8), .val (.int i9), .val (.int i10), .val (.int i11), .val (.int i12), .val (.int i13), .val (.int u0), .unset, .unset, .unset]) rfl ?_
    show Steps p.tables e below (T0.setTop (mkF m 176 #[.val (.int i0), .val (.int i1), .val (.int i2), .val (.int i3), .val (.int i4), .val (.int i5), .val (.int i6), .val (.int i7), .val (.ref a8), .val (.int i9), .val (.int i10), .val (.int i11), .val (.int i12), .val (.int i13), .val (.int u0), .unset, .unset, .unset] [])) _
    refine XS.aload X0.here hx rfl (hb hby at_176) rfl rfl ?_
    show Steps p.tables e below (T0.setTop (mkF m 178 #[.val (.int i0), .val (.int i1), .val (.int i2), .val (.int i3), .val (.int i4), .val (.int i5), .val (.int i6), .val (.int i7), .val (.ref a8), .val (.int i9), .val (.int i10), .val (.int i11), .val (.int i12), .val (.int i13), .val (.int u0), .unset, .unset, .unset] [(.ref a8)])) _
    refine XS.iload X0.here hx rfl (hb hby at_178) rfl ?_
    show Steps p.tables e below (T0.setTop (mkF m 180 #[.val (.int i0), .val (.int i1), .val (.int i2), .val (.int i3), .val (.int i4), .val (.int i5), .val (.int i6), .val (.int i7), .val (.ref a8), .val (.int i9), .val (.int i10), .val (.int i11), .val (.int i12), .val (.int i13), .val (.int u0), .unset, .unset, .unset] [(.int i4), (.ref a8)])) _
    refine st1.trans ?_
    show Steps p.tables e below (T1.setTop (mkF m 183 #[.val (.int i0), .val (.int i1), .val (.int i2), .val (.int i3), .val (.int i4), .val (.int i5), .val (.int i6), .val (.int i7), .val (.ref a8), .val (.int i9), .val (.int i10), .val (.int i11), .val (.int i12), .val (.int i13), .val (.int u0), .unset, .unset, .unset] [])) _
    refine XS.aload X1.here hx rfl (hb hby at_183) rfl rfl ?_
    show Steps p.tables e below (T1.setTop (mkF m 185 #[.val (.int i0), .val (.int i1), .val (.int i2), .val (.int i3), .val (.int i4), .val (.int i5), .val (.int i6), .val (.int i7), .val (.ref a8), .val (.int i9), .val (.int i10), .val (.int i11), .val (.int i12), .val (.int i13), .val (.int u0), .unset, .unset, .unset] [(.ref a8)])) _
    refine st2.trans ?_
    show Steps p.tables e below (T2.setTop (mkF m 188 #[.val (.int i0), .val (.int i1), .val (.int i2), .val (.int i3), .val (.int i4), .val (.int i5), .val (.int i6), .val (.int i7), .val (.ref a8), .val (.int i9), .val (.int i10), .val (.int i11), .val (.int i12), .val (.int i13), .val (.int u0), .unset, .unset, .unset] [(.int (own_f8_0 (own_o7_line i4 w_line_a8 w_column_a8 w_afterCarriageReturn_a8)))])) _
    refine XS.iload X2.here hx rfl (hb hby at_188) rfl ?_
    exact kt
  by_cases hc190 : (own_f8_0 (own_o7_line i4 w_line_a8 w_column_a8 w_afterCarriageReturn_a8)) = i9
  · obtain ⟨cq4, kq4, q4a, q4b, q4c⟩ := isOf hZ e2 E_a8_k1
    obtain ⟨_, _, ⟨T4, L4, k4, n4⟩, -, X4, ⟨Lc4, hQ4, l4, y4, z4⟩, st4⟩ := X2.virtualBack hx (y := (⟨"com/example/saho/saho/load/LineCounter", "nextColumn", "()I"⟩ : MethodName)) (z := (⟨"com/example/saho/saho/load/LineCounter", "nextColumn", "()I"⟩ : MethodName)) hown (mvT hZ (hw _ (List.mem_of_getElem? (i := 41) rfl))) (mvT hZ (hw _ (List.mem_of_getElem? (i := 42) rfl))) (notFace_of_selects (args := #[]) (mvT hZ (hw _ (List.mem_of_getElem? (i := 44) rfl)))) (mvT hZ (hw _ (List.mem_of_getElem? (i := 44) rfl))) (mvT hZ (hw _ (List.mem_of_getElem? (i := 43) rfl))) (by decide) (backOf (W := 0) (rm9 l Z a0_ hw [] a8 (own_o7_column i4 w_line_a8 w_column_a8 w_afterCarriageReturn_a8) T1.heap n0 Z1 F_column_a8_k1) hZ (hw _ (List.mem_of_getElem? (i := 45) rfl)) (hw _ (List.mem_of_getElem? (i := 7) rfl)) (by decide) (by decide)) q4a q4c (g := (mkF m 195 #[.val (.int i0), .val (.int i1), .val (.int i2), .val (.int i3), .val (.int i4), .val (.int i5), .val (.int i6), .val (.int i7), .val (.ref a8), .val (.int i9), .val (.int i10), .val (.int i11), .val (.int i12), .val (.int i13), .val (.int u0), .unset, .unset, .unset] [(.ref a8)])) rfl (by rw [hml]; rfl) (Steps.refl _) (argsL := []) (rest := []) (lenOf pd_0_6 rfl) rfl (by show 2 * 0 + _ ≤ _; exact Nat.le_of_eq rfl) (hb hby at_195) (fun _ _ => ⟨rfl, e2, (by decide : 1 + 0 ≤ room_1.cells), (by decide : 3 + 0 ≤ room_1.slots)⟩)
    dsimp only [Pt.U, Pt.locs, Pt.cells, Pt.slots] at X4 l4 y4 z4 st4 hQ4
    subst l4 y4 z4
    obtain ⟨rfl, rfl, e4⟩ := hQ4
    rw [List.append_nil] at X4
    have pre5 : ∀ target, Steps p.tables e below (T4.setTop (mkF m 200 #[.val (.int i0), .val (.int i1), .val (.int i2), .val (.int i3), .val (.int i4), .val (.int i5), .val (.int i6), .val (.int i7), .val (.ref a8), .val (.int i9), .val (.int i10), .val (.int i11), .val (.int i12), .val (.int i13), .val (.int u0), .unset, .unset, .unset] [(.int i12), (.int (own_f9_0 (own_o7_column i4 w_line_a8 w_column_a8 w_afterCarriageReturn_a8)))])) target → Steps p.tables e below (T0.setTop (mkF m 174 #[.val (.int i0), .val (.int i1), .val (.int i2), .val (.int i3), .val (.int i4), .val (.int i5), .val (.int i6), .val (.int i7), .val (.ref a8), .val (.int i9), .val (.int i10), .val (.int i11), .val (.int i12), .val (.int i13), .unset, .unset, .unset, .unset] [(.int u0)])) target := by
      intro target kt
      refine pre3 target ?_
      show Steps p.tables e below (T2.setTop (mkF m 190 #[.val (.int i0), .val (.int i1), .val (.int i2), .val (.int i3), .val (.int i4), .val (.int i5), .val (.int i6), .val (.int i7), .val (.ref a8), .val (.int i9), .val (.int i10), .val (.int i11), .val (.int i12), .val (.int i13), .val (.int u0), .unset, .unset, .unset] [(.int i9), (.int (own_f8_0 (own_o7_line i4 w_line_a8 w_column_a8 w_afterCarriageReturn_a8)))])) _
      refine XS.icmpNo X2.here hx rfl (hb hby at_190) rfl (teq hc190).2 ?_
      show Steps p.tables e below (T2.setTop (mkF m 193 #[.val (.int i0), .val (.int i1), .val (.int i2), .val (.int i3), .val (.int i4), .val (.int i5), .val (.int i6), .val (.int i7), .val (.ref a8), .val (.int i9), .val (.int i10), .val (.int i11), .val (.int i12), .val (.int i13), .val (.int u0), .unset, .unset, .unset] [])) _
      refine XS.aload X2.here hx rfl (hb hby at_193) rfl rfl ?_
      show Steps p.tables e below (T2.setTop (mkF m 195 #[.val (.int i0), .val (.int i1), .val (.int i2), .val (.int i3), .val (.int i4), .val (.int i5), .val (.int i6), .val (.int i7), .val (.ref a8), .val (.int i9), .val (.int i10), .val (.int i11), .val (.int i12), .val (.int i13), .val (.int u0), .unset, .unset, .unset] [(.ref a8)])) _
      refine st4.trans ?_
      show Steps p.tables e below (T4.setTop (mkF m 198 #[.val (.int i0), .val (.int i1), .val (.int i2), .val (.int i3), .val (.int i4), .val (.int i5), .val (.int i6), .val (.int i7), .val (.ref a8), .val (.int i9), .val (.int i10), .val (.int i11), .val (.int i12), .val (.int i13), .val (.int u0), .unset, .unset, .unset] [(.int (own_f9_0 (own_o7_column i4 w_line_a8 w_column_a8 w_afterCarriageReturn_a8)))])) _
      refine XS.iload X4.here hx rfl (hb hby at_198) rfl ?_
      exact kt
    by_cases hc200 : (own_f9_0 (own_o7_column i4 w_line_a8 w_column_a8 w_afterCarriageReturn_a8)) = i12
    · have pre6 : ∀ target, Steps p.tables e below (T4.setTop (mkF m 208 #[.val (.int i0), .val (.int i1), .val (.int i2), .val (.int i3), .val (.int i4), .val (.int i5), .val (.int i6), .val (.int i7), .val (.ref a8), .val (.int i9), .val (.int i10), .val (.int i11), .val (.int i12), .val (.int i13), .val (.int u0), .unset, .unset, .unset] [(.int (1 : Int32))])) target → Steps p.tables e below (T0.setTop (mkF m 174 #[.val (.int i0), .val (.int i1), .val (.int i2), .val (.int i3), .val (.int i4), .val (.int i5), .val (.int i6), .val (.int i7), .val (.ref a8), .val (.int i9), .val (.int i10), .val (.int i11), .val (.int i12), .val (.int i13), .unset, .unset, .unset, .unset] [(.int u0)])) target := by
        intro target kt
        refine pre5 target ?_
        show Steps p.tables e below (T4.setTop (mkF m 200 #[.val (.int i0), .val (.int i1), .val (.int i2), .val (.int i3), .val (.int i4), .val (.int i5), .val (.int i6), .val (.int i7), .val (.ref a8), .val (.int i9), .val (.int i10), .val (.int i11), .val (.int i12), .val (.int i13), .val (.int u0), .unset, .unset, .unset] [(.int i12), (.int (own_f9_0 (own_o7_column i4 w_line_a8 w_column_a8 w_afterCarriageReturn_a8)))])) _
        refine XS.icmpNo X4.here hx rfl (hb hby at_200) rfl (teq hc200).2 ?_
        show Steps p.tables e below (T4.setTop (mkF m 203 #[.val (.int i0), .val (.int i1), .val (.int i2), .val (.int i3), .val (.int i4), .val (.int i5), .val (.int i6), .val (.int i7), .val (.ref a8), .val (.int i9), .val (.int i10), .val (.int i11), .val (.int i12), .val (.int i13), .val (.int u0), .unset, .unset, .unset] [])) _
        refine XS.iconst X4.here hx rfl (hb hby at_203) ?_
        show Steps p.tables e below (T4.setTop (mkF m 204 #[.val (.int i0), .val (.int i1), .val (.int i2), .val (.int i3), .val (.int i4), .val (.int i5), .val (.int i6), .val (.int i7), .val (.ref a8), .val (.int i9), .val (.int i10), .val (.int i11), .val (.int i12), .val (.int i13), .val (.int u0), .unset, .unset, .unset] [(.int (1 : Int32))])) _
        refine XS.goto X4.here hx rfl (pc0 := 204) (pc' := 208) rfl (hb hby at_204) (by decide) (by decide) ?_
        exact kt
      obtain ⟨T7, L7, k7, n7, X7, N7, hk7', hn7, st7⟩ := own_b0_208 hx hZ hw hby hml hown hret i0 i1 i2 i3 i4 i5 i6 i7 a8 i9 i10 i11 i12 i13 u0 (1 : Int32) (own_o7_line i4 w_line_a8 w_column_a8 w_afterCarriageReturn_a8) (own_o7_column i4 w_line_a8 w_column_a8 w_afterCarriageReturn_a8) (own_o7_afterCarriageReturn i4 w_line_a8 w_column_a8 w_afterCarriageReturn_a8) X4 e4 N1 Z1 g_a8 E_a8_k1 F_line_a8_k1 F_column_a8_k1 F_afterCarriageReturn_a8_k1 
      have hv : (own_f0_174 i0 i1 i2 i3 i4 i5 i6 i7 i9 i10 i11 i12 i13 u0 w_line_a8 w_column_a8 w_afterCarriageReturn_a8) = (own_f0_208 i0 i1 i2 i3 i4 i5 i6 i7 i9 i10 i11 i12 i13 u0 (1 : Int32) (own_o7_line i4 w_line_a8 w_column_a8 w_afterCarriageReturn_a8) (own_o7_column i4 w_line_a8 w_column_a8 w_afterCarriageReturn_a8) (own_o7_afterCarriageReturn i4 w_line_a8 w_column_a8 w_afterCarriageReturn_a8)) := by unfold own_f0_174; rw [if_pos hc190, if_pos hc200]
      exact ⟨T7, L7, k7, n7, X7, N7, hk7', hn7, fun fs hr => pre6 _ (st7 fs (by rw [hv] at hr; exact hr))⟩
    · have pre8 : ∀ target, Steps p.tables e below (T4.setTop (mkF m 207 #[.val (.int i0), .val (.int i1), .val (.int i2), .val (.int i3), .val (.int i4), .val (.int i5), .val (.int i6), .val (.int i7), .val (.ref a8), .val (.int i9), .val (.int i10), .val (.int i11), .val (.int i12), .val (.int i13), .val (.int u0), .unset, .unset, .unset] [])) target → Steps p.tables e below (T0.setTop (mkF m 174 #[.val (.int i0), .val (.int i1), .val (.int i2), .val (.int i3), .val (.int i4), .val (.int i5), .val (.int i6), .val (.int i7), .val (.ref a8), .val (.int i9), .val (.int i10), .val (.int i11), .val (.int i12), .val (.int i13), .unset, .unset, .unset, .unset] [(.int u0)])) target := by
        intro target kt
        refine pre5 target ?_
        show Steps p.tables e below (T4.setTop (mkF m 200 #[.val (.int i0), .val (.int i1), .val (.int i2), .val (.int i3), .val (.int i4), .val (.int i5), .val (.int i6), .val (.int i7), .val (.ref a8), .val (.int i9), .val (.int i10), .val (.int i11), .val (.int i12), .val (.int i13), .val (.int u0), .unset, .unset, .unset] [(.int i12), (.int (own_f9_0 (own_o7_column i4 w_line_a8 w_column_a8 w_afterCarriageReturn_a8)))])) _
        refine XS.icmpYes X4.here hx rfl (pc0 := 200) (pc' := 207) rfl (hb hby at_200) rfl (feq hc200).2 (by decide) (by decide) ?_
        exact kt
      obtain ⟨T9, L9, k9, n9, X9, N9, hk9', hn9, st9⟩ := own_b0_207 hx hZ hw hby hml hown hret i0 i1 i2 i3 i4 i5 i6 i7 a8 i9 i10 i11 i12 i13 u0 (own_o7_line i4 w_line_a8 w_column_a8 w_afterCarriageReturn_a8) (own_o7_column i4 w_line_a8 w_column_a8 w_afterCarriageReturn_a8) (own_o7_afterCarriageReturn i4 w_line_a8 w_column_a8 w_afterCarriageReturn_a8) X4 e4 N1 Z1 g_a8 E_a8_k1 F_line_a8_k1 F_column_a8_k1 F_afterCarriageReturn_a8_k1 
      have hv : (own_f0_174 i0 i1 i2 i3 i4 i5 i6 i7 i9 i10 i11 i12 i13 u0 w_line_a8 w_column_a8 w_afterCarriageReturn_a8) = (own_f0_207 i0 i1 i2 i3 i4 i5 i6 i7 i9 i10 i11 i12 i13 u0 (own_o7_line i4 w_line_a8 w_column_a8 w_afterCarriageReturn_a8) (own_o7_column i4 w_line_a8 w_column_a8 w_afterCarriageReturn_a8) (own_o7_afterCarriageReturn i4 w_line_a8 w_column_a8 w_afterCarriageReturn_a8)) := by unfold own_f0_174; rw [if_pos hc190, if_neg hc200]
      exact ⟨T9, L9, k9, n9, X9, N9, hk9', hn9, fun fs hr => pre8 _ (st9 fs (by rw [hv] at hr; exact hr))⟩
  · have pre10 : ∀ target, Steps p.tables e below (T2.setTop (mkF m 207 #[.val (.int i0), .val (.int i1), .val (.int i2), .val (.int i3), .val (.int i4), .val (.int i5), .val (.int i6), .val (.int i7), .val (.ref a8), .val (.int i9), .val (.int i10), .val (.int i11), .val (.int i12), .val (.int i13), .val (.int u0), .unset, .unset, .unset] [])) target → Steps p.tables e below (T0.setTop (mkF m 174 #[.val (.int i0), .val (.int i1), .val (.int i2), .val (.int i3), .val (.int i4), .val (.int i5), .val (.int i6), .val (.int i7), .val (.ref a8), .val (.int i9), .val (.int i10), .val (.int i11), .val (.int i12), .val (.int i13), .unset, .unset, .unset, .unset] [(.int u0)])) target := by
      intro target kt
      refine pre3 target ?_
      show Steps p.tables e below (T2.setTop (mkF m 190 #[.val (.int i0), .val (.int i1), .val (.int i2), .val (.int i3), .val (.int i4), .val (.int i5), .val (.int i6), .val (.int i7), .val (.ref a8), .val (.int i9), .val (.int i10), .val (.int i11), .val (.int i12), .val (.int i13), .val (.int u0), .unset, .unset, .unset] [(.int i9), (.int (own_f8_0 (own_o7_line i4 w_line_a8 w_column_a8 w_afterCarriageReturn_a8)))])) _
      refine XS.icmpYes X2.here hx rfl (pc0 := 190) (pc' := 207) rfl (hb hby at_190) rfl (feq hc190).2 (by decide) (by decide) ?_
      exact kt
    obtain ⟨T11, L11, k11, n11, X11, N11, hk11', hn11, st11⟩ := own_b0_207 hx hZ hw hby hml hown hret i0 i1 i2 i3 i4 i5 i6 i7 a8 i9 i10 i11 i12 i13 u0 (own_o7_line i4 w_line_a8 w_column_a8 w_afterCarriageReturn_a8) (own_o7_column i4 w_line_a8 w_column_a8 w_afterCarriageReturn_a8) (own_o7_afterCarriageReturn i4 w_line_a8 w_column_a8 w_afterCarriageReturn_a8) X2 e2 N1 Z1 g_a8 E_a8_k1 F_line_a8_k1 F_column_a8_k1 F_afterCarriageReturn_a8_k1 
    have hv : (own_f0_174 i0 i1 i2 i3 i4 i5 i6 i7 i9 i10 i11 i12 i13 u0 w_line_a8 w_column_a8 w_afterCarriageReturn_a8) = (own_f0_207 i0 i1 i2 i3 i4 i5 i6 i7 i9 i10 i11 i12 i13 u0 (own_o7_line i4 w_line_a8 w_column_a8 w_afterCarriageReturn_a8) (own_o7_column i4 w_line_a8 w_column_a8 w_afterCarriageReturn_a8) (own_o7_afterCarriageReturn i4 w_line_a8 w_column_a8 w_afterCarriageReturn_a8)) := by unfold own_f0_174; rw [if_neg hc190]
    exact ⟨T11, L11, k11, n11, X11, N11, hk11', hn11, fun fs hr => pre10 _ (st11 fs (by rw [hv] at hr; exact hr))⟩
set_option maxRecDepth 65536 in
set_option maxHeartbeats 40000000 in
theorem own_b0_132 {p : Program} {l : Launch} {e : Env} {s : State} {m : MethodId} {args : Array Value} {below : List Frame} {meth : Method} {c : Code} {Z : State} {a0_ : Array Value} {n0 : Nat} (hx : p.tables.exec = Jvm.exec) (hZ : Z.Warmed39 s.vm) (hw : ∀ d ∈ tables_1, d.before a0_ Z = true) (hby : c.code = code) (hml : c.maxLocals = 18) (hown : s.vm.findClass "com/example/saho/saho/load/LineCounterAdvancePinLaw" = some m.cls) (hret : meth.sig.returnType = some .boolean) {T0 : State} {locs : List Loc} {h0 : Heap} (i0 : Int32) (i1 : Int32) (i2 : Int32) (i3 : Int32) (i4 : Int32) (i5 : Int32) (i6 : Int32) (i7 : Int32) (a8 : Addr) (i9 : Int32) (i10 : Int32) (i11 : Int32) (i12 : Int32) (u0 : Int32) (w_line_a8 : Int32) (w_column_a8 : Int32) (w_afterCarriageReturn_a8 : Int32)
    (X0 : Stand p l e room_1 s m args below meth c T0 locs 1 3) (e0 : T0.heap = h0) (N0 : Fr n0 locs) (Z0 : n0 ≤ h0.size) (g_a8 : n0 ≤ a8) (E_a8 : Exa Z h0 a8 "com/example/saho/saho/load/LineCounter") (F_line_a8 : Fld Z h0 a8 "com/example/saho/saho/load/LineCounter" "line" "I" (.int w_line_a8)) (F_column_a8 : Fld Z h0 a8 "com/example/saho/saho/load/LineCounter" "column" "I" (.int w_column_a8)) (F_afterCarriageReturn_a8 : Fld Z h0 a8 "com/example/saho/saho/load/LineCounter" "afterCarriageReturn" "Z" (.int w_afterCarriageReturn_a8)) :
    ∃ T' locs' cells' slots', Stand p l e room_1 s m args below meth c T' locs' cells' slots' ∧ Fr n0 locs' ∧ cells' ≤ room_1.cells ∧ slots' ≤ room_1.slots ∧ ∀ fs, (∀ (f : JFrame) (acts : List Action), f.method = m → f.locked = none → f.entered = [] → (doReturn e (T'.setTop f) acts (some (.int (own_f0_132 i0 i1 i2 i3 i4 i5 i6 i7 i9 i10 i11 i12 u0 w_line_a8 w_column_a8 w_afterCarriageReturn_a8)))).1 = T'.setFrames fs) → Steps p.tables e below (T0.setTop (mkF m 132 #[.val (.int i0), .val (.int i1), .val (.int i2), .val (.int i3), .val (.int i4), .val (.int i5), .val (.int i6), .val (.int i7), .val (.ref a8), .val (.int i9), .val (.int i10), .val (.int i11), .val (.int i12), .unset, .unset, .unset, .unset, .unset] [(.int u0)])) (T'.setFrames fs) := by
  obtain ⟨_, _, ⟨T1, L1, k1, n1⟩, -, X1, ⟨Lc1, hQ1, l1, y1, z1⟩, st1⟩ := Jvm.LawKit.callS X0 hx (y := (⟨"com/example/saho/saho/load/LineCounterAdvancePinLaw", "nl", "(C)Z"⟩ : MethodName)) hown (mvT hZ (hw _ (List.mem_of_getElem? (i := 25) rfl))) (mvT hZ (hw _ (List.mem_of_getElem? (i := 26) rfl))) (mvT hZ (hw _ (List.mem_of_getElem? (i := 2) rfl))) (mvT hZ (hw _ (List.mem_of_getElem? (i := 27) rfl))) (by decide) (backOf (W := 0) (rm5 l Z a0_ hw [] i6  h0 n0 Z0 ) hZ (hw _ (List.mem_of_getElem? (i := 27) rfl)) (hw _ (List.mem_of_getElem? (i := 2) rfl)) (by decide) (by decide)) (g := (mkF m 136 #[.val (.int i0), .val (.int i1), .val (.int i2), .val (.int i3), .val (.int i4), .val (.int i5), .val (.int i6), .val (.int i7), .val (.ref a8), .val (.int i9), .val (.int i10), .val (.int i11), .val (.int i12), .val (.int u0), .unset, .unset, .unset, .unset] [(.int i6)])) rfl (by rw [hml]; rfl) (argsL := [(.int i6)]) (rest := []) (lenOf pd_0_3 rfl) rfl (by show 2 * 0 + _ ≤ _; exact Nat.le_of_eq rfl) (hb hby at_136) (fun _ _ => ⟨rfl, e0, (by decide : 1 + 0 ≤ room_1.cells), (by decide : 3 + 0 ≤ room_1.slots)⟩)
  dsimp only [Pt.U, Pt.locs, Pt.cells, Pt.slots] at X1 l1 y1 z1 st1 hQ1
  subst l1 y1 z1
  obtain ⟨rfl, rfl, e1⟩ := hQ1
  rw [List.append_nil] at X1
  have pre2 : ∀ target, Steps p.tables e below (T1.setTop (mkF m 139 #[.val (.int i0), .val (.int i1), .val (.int i2), .val (.int i3), .val (.int i4), .val (.int i5), .val (.int i6), .val (.int i7), .val (.ref a8), .val (.int i9), .val (.int i10), .val (.int i11), .val (.int i12), .val (.int u0), .unset, .unset, .unset, .unset] [(.int (own_f5_0 i6))])) target → Steps p.tables e below (T0.setTop (mkF m 132 #[.val (.int i0), .val (.int i1), .val (.int i2), .val (.int i3), .val (.int i4), .val (.int i5), .val (.int i6), .val (.int i7), .val (.ref a8), .val (.int i9), .val (.int i10), .val (.int i11), .val (.int i12), .unset, .unset, .unset, .unset, .unset] [(.int u0)])) target := by
    intro target kt
    show Steps p.tables e below (T0.setTop (mkF m 132 #[.val (.int i0), .val (.int i1), .val (.int i2), .val (.int i3), .val (.int i4), .val (.int i5), .val (.int i6), .val (.int i7), .val (.ref a8), .val (.int i9), .val (.int i10), .val (.int i11), .val (.int i12), .unset, .unset, .unset, .unset, .unset] [(.int u0)])) _
    refine XS.istore X0.here hx rfl (hb hby at_132) rfl (l' := #[.val (.int i0), .val (.int i1), .val (.int i2), .val (.int i3), .val (.int i4), .val (.int i5), .val (.int i6), .val (.int i7), .val (.ref a8), .val (.int i9), .val (.int i10), .val (.int i11), .val (.int i12), .val (.int u0), .unset, .unset, .unset, .unset]) rfl ?_
    show Steps p.tables e below (T0.setTop (mkF m 134 #[.val (.int i0), .val (.int i1), .val (.int i2), .val (.int i3), .val (.int i4), .val (.int i5), .val (.int i6), .val (.int i7), .val (.ref a8), .val (.int i9), .val (.int i10), .val (.int i11), .val (.int i12), .val (.int u0), .unset, .unset, .unset, .unset] [])) _
    refine XS.iload X0.here hx rfl (hb hby at_134) rfl ?_
    show Steps p.tables e below (T0.setTop (mkF m 136 #[.val (.int i0), .val (.int i1), .val (.int i2), .val (.int i3), .val (.int i4), .val (.int i5), .val (.int i6), .val (.int i7), .val (.ref a8), .val (.int i9), .val (.int i10), .val (.int i11), .val (.int i12), .val (.int u0), .unset, .unset, .unset, .unset] [(.int i6)])) _
    refine st1 _ ?_
    exact kt
  by_cases hc139 : (own_f5_0 i6) = (0 : Int32)
  · obtain ⟨_, _, ⟨T3, L3, k3, n3⟩, -, X3, ⟨Lc3, hQ3, l3, y3, z3⟩, st3⟩ := Jvm.LawKit.callS X1 hx (y := (⟨"com/example/saho/saho/load/LineCounterAdvancePinLaw", "nl", "(C)Z"⟩ : MethodName)) hown (mvT hZ (hw _ (List.mem_of_getElem? (i := 25) rfl))) (mvT hZ (hw _ (List.mem_of_getElem? (i := 26) rfl))) (mvT hZ (hw _ (List.mem_of_getElem? (i := 2) rfl))) (mvT hZ (hw _ (List.mem_of_getElem? (i := 27) rfl))) (by decide) (backOf (W := 0) (rm5 l Z a0_ hw [] i5  h0 n0 Z0 ) hZ (hw _ (List.mem_of_getElem? (i := 27) rfl)) (hw _ (List.mem_of_getElem? (i := 2) rfl)) (by decide) (by decide)) (g := (mkF m 148 #[.val (.int i0), .val (.int i1), .val (.int i2), .val (.int i3), .val (.int i4), .val (.int i5), .val (.int i6), .val (.int i7), .val (.ref a8), .val (.int i9), .val (.int i10), .val (.int i11), .val (.int i12), .val (.int u0), .unset, .unset, .unset, .unset] [(.int i5)])) rfl (by rw [hml]; rfl) (argsL := [(.int i5)]) (rest := []) (lenOf pd_0_3 rfl) rfl (by show 2 * 0 + _ ≤ _; exact Nat.le_of_eq rfl) (hb hby at_148) (fun _ _ => ⟨rfl, e1, (by decide : 1 + 0 ≤ room_1.cells), (by decide : 3 + 0 ≤ room_1.slots)⟩)
    dsimp only [Pt.U, Pt.locs, Pt.cells, Pt.slots] at X3 l3 y3 z3 st3 hQ3
    subst l3 y3 z3
    obtain ⟨rfl, rfl, e3⟩ := hQ3
    rw [List.append_nil] at X3
    have pre4 : ∀ target, Steps p.tables e below (T3.setTop (mkF m 151 #[.val (.int i0), .val (.int i1), .val (.int i2), .val (.int i3), .val (.int i4), .val (.int i5), .val (.int i6), .val (.int i7), .val (.ref a8), .val (.int i9), .val (.int i10), .val (.int i11), .val (.int i12), .val (.int u0), .unset, .unset, .unset, .unset] [(.int (own_f5_0 i5))])) target → Steps p.tables e below (T0.setTop (mkF m 132 #[.val (.int i0), .val (.int i1), .val (.int i2), .val (.int i3), .val (.int i4), .val (.int i5), .val (.int i6), .val (.int i7), .val (.ref a8), .val (.int i9), .val (.int i10), .val (.int i11), .val (.int i12), .unset, .unset, .unset, .unset, .unset] [(.int u0)])) target := by
      intro target kt
      refine pre2 target ?_
      show Steps p.tables e below (T1.setTop (mkF m 139 #[.val (.int i0), .val (.int i1), .val (.int i2), .val (.int i3), .val (.int i4), .val (.int i5), .val (.int i6), .val (.int i7), .val (.ref a8), .val (.int i9), .val (.int i10), .val (.int i11), .val (.int i12), .val (.int u0), .unset, .unset, .unset, .unset] [(.int (own_f5_0 i6))])) _
      refine XS.ifYes X1.here hx rfl (pc0 := 139) (pc' := 146) rfl (hb hby at_139) rfl ((if0 _ _).trans (teq hc139).1) (by decide) (by decide) ?_
      show Steps p.tables e below (T1.setTop (mkF m 146 #[.val (.int i0), .val (.int i1), .val (.int i2), .val (.int i3), .val (.int i4), .val (.int i5), .val (.int i6), .val (.int i7), .val (.ref a8), .val (.int i9), .val (.int i10), .val (.int i11), .val (.int i12), .val (.int u0), .unset, .unset, .unset, .unset] [])) _
      refine XS.iload X1.here hx rfl (hb hby at_146) rfl ?_
      show Steps p.tables e below (T1.setTop (mkF m 148 #[.val (.int i0), .val (.int i1), .val (.int i2), .val (.int i3), .val (.int i4), .val (.int i5), .val (.int i6), .val (.int i7), .val (.ref a8), .val (.int i9), .val (.int i10), .val (.int i11), .val (.int i12), .val (.int u0), .unset, .unset, .unset, .unset] [(.int i5)])) _
      refine st3 _ ?_
      exact kt
    by_cases hc151 : (own_f5_0 i5) = (0 : Int32)
    · obtain ⟨_, _, ⟨T5, L5, k5, n5⟩, -, X5, ⟨Lc5, hQ5, l5, y5, z5⟩, st5⟩ := Jvm.LawKit.callS X3 hx (y := (⟨"com/example/saho/saho/load/LineCounterAdvancePinLaw", "nl", "(C)Z"⟩ : MethodName)) hown (mvT hZ (hw _ (List.mem_of_getElem? (i := 25) rfl))) (mvT hZ (hw _ (List.mem_of_getElem? (i := 26) rfl))) (mvT hZ (hw _ (List.mem_of_getElem? (i := 2) rfl))) (mvT hZ (hw _ (List.mem_of_getElem? (i := 27) rfl))) (by decide) (backOf (W := 0) (rm5 l Z a0_ hw [] i4  h0 n0 Z0 ) hZ (hw _ (List.mem_of_getElem? (i := 27) rfl)) (hw _ (List.mem_of_getElem? (i := 2) rfl)) (by decide) (by decide)) (g := (mkF m 160 #[.val (.int i0), .val (.int i1), .val (.int i2), .val (.int i3), .val (.int i4), .val (.int i5), .val (.int i6), .val (.int i7), .val (.ref a8), .val (.int i9), .val (.int i10), .val (.int i11), .val (.int i12), .val (.int u0), .unset, .unset, .unset, .unset] [(.int i4)])) rfl (by rw [hml]; rfl) (argsL := [(.int i4)]) (rest := []) (lenOf pd_0_3 rfl) rfl (by show 2 * 0 + _ ≤ _; exact Nat.le_of_eq rfl) (hb hby at_160) (fun _ _ => ⟨rfl, e3, (by decide : 1 + 0 ≤ room_1.cells), (by decide : 3 + 0 ≤ room_1.slots)⟩)
      dsimp only [Pt.U, Pt.locs, Pt.cells, Pt.slots] at X5 l5 y5 z5 st5 hQ5
      subst l5 y5 z5
      obtain ⟨rfl, rfl, e5⟩ := hQ5
      rw [List.append_nil] at X5
      have pre6 : ∀ target, Steps p.tables e below (T5.setTop (mkF m 163 #[.val (.int i0), .val (.int i1), .val (.int i2), .val (.int i3), .val (.int i4), .val (.int i5), .val (.int i6), .val (.int i7), .val (.ref a8), .val (.int i9), .val (.int i10), .val (.int i11), .val (.int i12), .val (.int u0), .unset, .unset, .unset, .unset] [(.int (own_f5_0 i4))])) target → Steps p.tables e below (T0.setTop (mkF m 132 #[.val (.int i0), .val (.int i1), .val (.int i2), .val (.int i3), .val (.int i4), .val (.int i5), .val (.int i6), .val (.int i7), .val (.ref a8), .val (.int i9), .val (.int i10), .val (.int i11), .val (.int i12), .unset, .unset, .unset, .unset, .unset] [(.int u0)])) target := by
        intro target kt
        refine pre4 target ?_
        show Steps p.tables e below (T3.setTop (mkF m 151 #[.val (.int i0), .val (.int i1), .val (.int i2), .val (.int i3), .val (.int i4), .val (.int i5), .val (.int i6), .val (.int i7), .val (.ref a8), .val (.int i9), .val (.int i10), .val (.int i11), .val (.int i12), .val (.int u0), .unset, .unset, .unset, .unset] [(.int (own_f5_0 i5))])) _
        refine XS.ifYes X3.here hx rfl (pc0 := 151) (pc' := 158) rfl (hb hby at_151) rfl ((if0 _ _).trans (teq hc151).1) (by decide) (by decide) ?_
        show Steps p.tables e below (T3.setTop (mkF m 158 #[.val (.int i0), .val (.int i1), .val (.int i2), .val (.int i3), .val (.int i4), .val (.int i5), .val (.int i6), .val (.int i7), .val (.ref a8), .val (.int i9), .val (.int i10), .val (.int i11), .val (.int i12), .val (.int u0), .unset, .unset, .unset, .unset] [])) _
        refine XS.iload X3.here hx rfl (hb hby at_158) rfl ?_
        show Steps p.tables e below (T3.setTop (mkF m 160 #[.val (.int i0), .val (.int i1), .val (.int i2), .val (.int i3), .val (.int i4), .val (.int i5), .val (.int i6), .val (.int i7), .val (.ref a8), .val (.int i9), .val (.int i10), .val (.int i11), .val (.int i12), .val (.int u0), .unset, .unset, .unset, .unset] [(.int i4)])) _
        refine st5 _ ?_
        exact kt
      by_cases hc163 : (own_f5_0 i4) = (0 : Int32)
      · have pre7 : ∀ target, Steps p.tables e below (T5.setTop (mkF m 174 #[.val (.int i0), .val (.int i1), .val (.int i2), .val (.int i3), .val (.int i4), .val (.int i5), .val (.int i6), .val (.int i7), .val (.ref a8), .val (.int i9), .val (.int i10), .val (.int i11), .val (.int i12), .val (.int u0), .unset, .unset, .unset, .unset] [(.int (i7 + (4 : Int32)))])) target → Steps p.tables e below (T0.setTop (mkF m 132 #[.val (.int i0), .val (.int i1), .val (.int i2), .val (.int i3), .val (.int i4), .val (.int i5), .val (.int i6), .val (.int i7), .val (.ref a8), .val (.int i9), .val (.int i10), .val (.int i11), .val (.int i12), .unset, .unset, .unset, .unset, .unset] [(.int u0)])) target := by
          intro target kt
          refine pre6 target ?_
          show Steps p.tables e below (T5.setTop (mkF m 163 #[.val (.int i0), .val (.int i1), .val (.int i2), .val (.int i3), .val (.int i4), .val (.int i5), .val (.int i6), .val (.int i7), .val (.ref a8), .val (.int i9), .val (.int i10), .val (.int i11), .val (.int i12), .val (.int u0), .unset, .unset, .unset, .unset] [(.int (own_f5_0 i4))])) _
          refine XS.ifYes X5.here hx rfl (pc0 := 163) (pc' := 170) rfl (hb hby at_163) rfl ((if0 _ _).trans (teq hc163).1) (by decide) (by decide) ?_
          show Steps p.tables e below (T5.setTop (mkF m 170 #[.val (.int i0), .val (.int i1), .val (.int i2), .val (.int i3), .val (.int i4), .val (.int i5), .val (.int i6), .val (.int i7), .val (.ref a8), .val (.int i9), .val (.int i10), .val (.int i11), .val (.int i12), .val (.int u0), .unset, .unset, .unset, .unset] [])) _
          refine XS.iload X5.here hx rfl (hb hby at_170) rfl ?_
          show Steps p.tables e below (T5.setTop (mkF m 172 #[.val (.int i0), .val (.int i1), .val (.int i2), .val (.int i3), .val (.int i4), .val (.int i5), .val (.int i6), .val (.int i7), .val (.ref a8), .val (.int i9), .val (.int i10), .val (.int i11), .val (.int i12), .val (.int u0), .unset, .unset, .unset, .unset] [(.int i7)])) _
          refine XS.iconst X5.here hx rfl (hb hby at_172) ?_
          show Steps p.tables e below (T5.setTop (mkF m 173 #[.val (.int i0), .val (.int i1), .val (.int i2), .val (.int i3), .val (.int i4), .val (.int i5), .val (.int i6), .val (.int i7), .val (.ref a8), .val (.int i9), .val (.int i10), .val (.int i11), .val (.int i12), .val (.int u0), .unset, .unset, .unset, .unset] [(.int (4 : Int32)), (.int i7)])) _
          refine XS.iadd X5.here hx rfl (hb hby at_173) rfl ?_
          exact kt
        obtain ⟨T8, L8, k8, n8, X8, N8, hk8', hn8, st8⟩ := own_b0_174 hx hZ hw hby hml hown hret i0 i1 i2 i3 i4 i5 i6 i7 a8 i9 i10 i11 i12 u0 (i7 + (4 : Int32)) w_line_a8 w_column_a8 w_afterCarriageReturn_a8 X5 e5 N0 Z0 g_a8 E_a8 F_line_a8 F_column_a8 F_afterCarriageReturn_a8 
        have hv : (own_f0_132 i0 i1 i2 i3 i4 i5 i6 i7 i9 i10 i11 i12 u0 w_line_a8 w_column_a8 w_afterCarriageReturn_a8) = (own_f0_174 i0 i1 i2 i3 i4 i5 i6 i7 i9 i10 i11 i12 u0 (i7 + (4 : Int32)) w_line_a8 w_column_a8 w_afterCarriageReturn_a8) := by unfold own_f0_132; rw [if_pos hc139, if_pos hc151, if_pos hc163]
        exact ⟨T8, L8, k8, n8, X8, N8, hk8', hn8, fun fs hr => pre7 _ (st8 fs (by rw [hv] at hr; exact hr))⟩
      · have pre9 : ∀ target, Steps p.tables e below (T5.setTop (mkF m 174 #[.val (.int i0), .val (.int i1), .val (.int i2), .val (.int i3), .val (.int i4), .val (.int i5), .val (.int i6), .val (.int i7), .val (.ref a8), .val (.int i9), .val (.int i10), .val (.int i11), .val (.int i12), .val (.int u0), .unset, .unset, .unset, .unset] [(.int (3 : Int32))])) target → Steps p.tables e below (T0.setTop (mkF m 132 #[.val (.int i0), .val (.int i1), .val (.int i2), .val (.int i3), .val (.int i4), .val (.int i5), .val (.int i6), .val (.int i7), .val (.ref a8), .val (.int i9), .val (.int i10), .val (.int i11), .val (.int i12), .unset, .unset, .unset, .unset, .unset] [(.int u0)])) target := by
          intro target kt
          refine pre6 target ?_
          show Steps p.tables e below (T5.setTop (mkF m 163 #[.val (.int i0), .val (.int i1), .val (.int i2), .val (.int i3), .val (.int i4), .val (.int i5), .val (.int i6), .val (.int i7), .val (.ref a8), .val (.int i9), .val (.int i10), .val (.int i11), .val (.int i12), .val (.int u0), .unset, .unset, .unset, .unset] [(.int (own_f5_0 i4))])) _
          refine XS.ifNo X5.here hx rfl (hb hby at_163) rfl ((if0 _ _).trans (feq hc163).1) ?_
          show Steps p.tables e below (T5.setTop (mkF m 166 #[.val (.int i0), .val (.int i1), .val (.int i2), .val (.int i3), .val (.int i4), .val (.int i5), .val (.int i6), .val (.int i7), .val (.ref a8), .val (.int i9), .val (.int i10), .val (.int i11), .val (.int i12), .val (.int u0), .unset, .unset, .unset, .unset] [])) _
          refine XS.iconst X5.here hx rfl (hb hby at_166) ?_
          show Steps p.tables e below (T5.setTop (mkF m 167 #[.val (.int i0), .val (.int i1), .val (.int i2), .val (.int i3), .val (.int i4), .val (.int i5), .val (.int i6), .val (.int i7), .val (.ref a8), .val (.int i9), .val (.int i10), .val (.int i11), .val (.int i12), .val (.int u0), .unset, .unset, .unset, .unset] [(.int (3 : Int32))])) _
          refine XS.goto X5.here hx rfl (pc0 := 167) (pc' := 174) rfl (hb hby at_167) (by decide) (by decide) ?_
          exact kt
        obtain ⟨T10, L10, k10, n10, X10, N10, hk10', hn10, st10⟩ := own_b0_174 hx hZ hw hby hml hown hret i0 i1 i2 i3 i4 i5 i6 i7 a8 i9 i10 i11 i12 u0 (3 : Int32) w_line_a8 w_column_a8 w_afterCarriageReturn_a8 X5 e5 N0 Z0 g_a8 E_a8 F_line_a8 F_column_a8 F_afterCarriageReturn_a8 
        have hv : (own_f0_132 i0 i1 i2 i3 i4 i5 i6 i7 i9 i10 i11 i12 u0 w_line_a8 w_column_a8 w_afterCarriageReturn_a8) = (own_f0_174 i0 i1 i2 i3 i4 i5 i6 i7 i9 i10 i11 i12 u0 (3 : Int32) w_line_a8 w_column_a8 w_afterCarriageReturn_a8) := by unfold own_f0_132; rw [if_pos hc139, if_pos hc151, if_neg hc163]
        exact ⟨T10, L10, k10, n10, X10, N10, hk10', hn10, fun fs hr => pre9 _ (st10 fs (by rw [hv] at hr; exact hr))⟩
    · have pre11 : ∀ target, Steps p.tables e below (T3.setTop (mkF m 174 #[.val (.int i0), .val (.int i1), .val (.int i2), .val (.int i3), .val (.int i4), .val (.int i5), .val (.int i6), .val (.int i7), .val (.ref a8), .val (.int i9), .val (.int i10), .val (.int i11), .val (.int i12), .val (.int u0), .unset, .unset, .unset, .unset] [(.int (2 : Int32))])) target → Steps p.tables e below (T0.setTop (mkF m 132 #[.val (.int i0), .val (.int i1), .val (.int i2), .val (.int i3), .val (.int i4), .val (.int i5), .val (.int i6), .val (.int i7), .val (.ref a8), .val (.int i9), .val (.int i10), .val (.int i11), .val (.int i12), .unset, .unset, .unset, .unset, .unset] [(.int u0)])) target := by
        intro target kt
        refine pre4 target ?_
        show Steps p.tables e below (T3.setTop (mkF m 151 #[.val (.int i0), .val (.int i1), .val (.int i2), .val (.int i3), .val (.int i4), .val (.int i5), .val (.int i6), .val (.int i7), .val (.ref a8), .val (.int i9), .val (.int i10), .val (.int i11), .val (.int i12), .val (.int u0), .unset, .unset, .unset, .unset] [(.int (own_f5_0 i5))])) _
        refine XS.ifNo X3.here hx rfl (hb hby at_151) rfl ((if0 _ _).trans (feq hc151).1) ?_
        show Steps p.tables e below (T3.setTop (mkF m 154 #[.val (.int i0), .val (.int i1), .val (.int i2), .val (.int i3), .val (.int i4), .val (.int i5), .val (.int i6), .val (.int i7), .val (.ref a8), .val (.int i9), .val (.int i10), .val (.int i11), .val (.int i12), .val (.int u0), .unset, .unset, .unset, .unset] [])) _
        refine XS.iconst X3.here hx rfl (hb hby at_154) ?_
        show Steps p.tables e below (T3.setTop (mkF m 155 #[.val (.int i0), .val (.int i1), .val (.int i2), .val (.int i3), .val (.int i4), .val (.int i5), .val (.int i6), .val (.int i7), .val (.ref a8), .val (.int i9), .val (.int i10), .val (.int i11), .val (.int i12), .val (.int u0), .unset, .unset, .unset, .unset] [(.int (2 : Int32))])) _
        refine XS.goto X3.here hx rfl (pc0 := 155) (pc' := 174) rfl (hb hby at_155) (by decide) (by decide) ?_
        exact kt
      obtain ⟨T12, L12, k12, n12, X12, N12, hk12', hn12, st12⟩ := own_b0_174 hx hZ hw hby hml hown hret i0 i1 i2 i3 i4 i5 i6 i7 a8 i9 i10 i11 i12 u0 (2 : Int32) w_line_a8 w_column_a8 w_afterCarriageReturn_a8 X3 e3 N0 Z0 g_a8 E_a8 F_line_a8 F_column_a8 F_afterCarriageReturn_a8 
      have hv : (own_f0_132 i0 i1 i2 i3 i4 i5 i6 i7 i9 i10 i11 i12 u0 w_line_a8 w_column_a8 w_afterCarriageReturn_a8) = (own_f0_174 i0 i1 i2 i3 i4 i5 i6 i7 i9 i10 i11 i12 u0 (2 : Int32) w_line_a8 w_column_a8 w_afterCarriageReturn_a8) := by unfold own_f0_132; rw [if_pos hc139, if_neg hc151]
      exact ⟨T12, L12, k12, n12, X12, N12, hk12', hn12, fun fs hr => pre11 _ (st12 fs (by rw [hv] at hr; exact hr))⟩
  · have pre13 : ∀ target, Steps p.tables e below (T1.setTop (mkF m 174 #[.val (.int i0), .val (.int i1), .val (.int i2), .val (.int i3), .val (.int i4), .val (.int i5), .val (.int i6), .val (.int i7), .val (.ref a8), .val (.int i9), .val (.int i10), .val (.int i11), .val (.int i12), .val (.int u0), .unset, .unset, .unset, .unset] [(.int (1 : Int32))])) target → Steps p.tables e below (T0.setTop (mkF m 132 #[.val (.int i0), .val (.int i1), .val (.int i2), .val (.int i3), .val (.int i4), .val (.int i5), .val (.int i6), .val (.int i7), .val (.ref a8), .val (.int i9), .val (.int i10), .val (.int i11), .val (.int i12), .unset, .unset, .unset, .unset, .unset] [(.int u0)])) target := by
      intro target kt
      refine pre2 target ?_
      show Steps p.tables e below (T1.setTop (mkF m 139 #[.val (.int i0), .val (.int i1), .val (.int i2), .val (.int i3), .val (.int i4), .val (.int i5), .val (.int i6), .val (.int i7), .val (.ref a8), .val (.int i9), .val (.int i10), .val (.int i11), .val (.int i12), .val (.int u0), .unset, .unset, .unset, .unset] [(.int (own_f5_0 i6))])) _
      refine XS.ifNo X1.here hx rfl (hb hby at_139) rfl ((if0 _ _).trans (feq hc139).1) ?_
      show Steps p.tables e below (T1.setTop (mkF m 142 #[.val (.int i0), .val (.int i1), .val (.int i2), .val (.int i3), .val (.int i4), .val (.int i5), .val (.int i6), .val (.int i7), .val (.ref a8), .val (.int i9), .val (.int i10), .val (.int i11), .val (.int i12), .val (.int u0), .unset, .unset, .unset, .unset] [])) _
      refine XS.iconst X1.here hx rfl (hb hby at_142) ?_
      show Steps p.tables e below (T1.setTop (mkF m 143 #[.val (.int i0), .val (.int i1), .val (.int i2), .val (.int i3), .val (.int i4), .val (.int i5), .val (.int i6), .val (.int i7), .val (.ref a8), .val (.int i9), .val (.int i10), .val (.int i11), .val (.int i12), .val (.int u0), .unset, .unset, .unset, .unset] [(.int (1 : Int32))])) _
      refine XS.goto X1.here hx rfl (pc0 := 143) (pc' := 174) rfl (hb hby at_143) (by decide) (by decide) ?_
      exact kt
    obtain ⟨T14, L14, k14, n14, X14, N14, hk14', hn14, st14⟩ := own_b0_174 hx hZ hw hby hml hown hret i0 i1 i2 i3 i4 i5 i6 i7 a8 i9 i10 i11 i12 u0 (1 : Int32) w_line_a8 w_column_a8 w_afterCarriageReturn_a8 X1 e1 N0 Z0 g_a8 E_a8 F_line_a8 F_column_a8 F_afterCarriageReturn_a8 
    have hv : (own_f0_132 i0 i1 i2 i3 i4 i5 i6 i7 i9 i10 i11 i12 u0 w_line_a8 w_column_a8 w_afterCarriageReturn_a8) = (own_f0_174 i0 i1 i2 i3 i4 i5 i6 i7 i9 i10 i11 i12 u0 (1 : Int32) w_line_a8 w_column_a8 w_afterCarriageReturn_a8) := by unfold own_f0_132; rw [if_neg hc139]
    exact ⟨T14, L14, k14, n14, X14, N14, hk14', hn14, fun fs hr => pre13 _ (st14 fs (by rw [hv] at hr; exact hr))⟩
set_option maxRecDepth 65536 in
set_option maxHeartbeats 40000000 in
theorem own_b0_102 {p : Program} {l : Launch} {e : Env} {s : State} {m : MethodId} {args : Array Value} {below : List Frame} {meth : Method} {c : Code} {Z : State} {a0_ : Array Value} {n0 : Nat} (hx : p.tables.exec = Jvm.exec) (hZ : Z.Warmed39 s.vm) (hw : ∀ d ∈ tables_1, d.before a0_ Z = true) (hby : c.code = code) (hml : c.maxLocals = 18) (hown : s.vm.findClass "com/example/saho/saho/load/LineCounterAdvancePinLaw" = some m.cls) (hret : meth.sig.returnType = some .boolean) {T0 : State} {locs : List Loc} {h0 : Heap} (i0 : Int32) (i1 : Int32) (i2 : Int32) (i3 : Int32) (i4 : Int32) (i5 : Int32) (i6 : Int32) (i7 : Int32) (a8 : Addr) (i9 : Int32) (i10 : Int32) (i11 : Int32) (u0 : Int32) (w_line_a8 : Int32) (w_column_a8 : Int32) (w_afterCarriageReturn_a8 : Int32)
    (X0 : Stand p l e room_1 s m args below meth c T0 locs 1 3) (e0 : T0.heap = h0) (N0 : Fr n0 locs) (Z0 : n0 ≤ h0.size) (g_a8 : n0 ≤ a8) (E_a8 : Exa Z h0 a8 "com/example/saho/saho/load/LineCounter") (F_line_a8 : Fld Z h0 a8 "com/example/saho/saho/load/LineCounter" "line" "I" (.int w_line_a8)) (F_column_a8 : Fld Z h0 a8 "com/example/saho/saho/load/LineCounter" "column" "I" (.int w_column_a8)) (F_afterCarriageReturn_a8 : Fld Z h0 a8 "com/example/saho/saho/load/LineCounter" "afterCarriageReturn" "Z" (.int w_afterCarriageReturn_a8)) :
    ∃ T' locs' cells' slots', Stand p l e room_1 s m args below meth c T' locs' cells' slots' ∧ Fr n0 locs' ∧ cells' ≤ room_1.cells ∧ slots' ≤ room_1.slots ∧ ∀ fs, (∀ (f : JFrame) (acts : List Action), f.method = m → f.locked = none → f.entered = [] → (doReturn e (T'.setTop f) acts (some (.int (own_f0_102 i0 i1 i2 i3 i4 i5 i6 i7 i9 i10 i11 u0 w_line_a8 w_column_a8 w_afterCarriageReturn_a8)))).1 = T'.setFrames fs) → Steps p.tables e below (T0.setTop (mkF m 102 #[.val (.int i0), .val (.int i1), .val (.int i2), .val (.int i3), .val (.int i4), .val (.int i5), .val (.int i6), .val (.int i7), .val (.ref a8), .val (.int i9), .val (.int i10), .val (.int i11), .unset, .unset, .unset, .unset, .unset, .unset] [(.int u0)])) (T'.setFrames fs) := by
  obtain ⟨_, _, ⟨T1, L1, k1, n1⟩, -, X1, ⟨Lc1, hQ1, l1, y1, z1⟩, st1⟩ := Jvm.LawKit.callS X0 hx (y := (⟨"com/example/saho/saho/load/LineCounterAdvancePinLaw", "nl", "(C)Z"⟩ : MethodName)) hown (mvT hZ (hw _ (List.mem_of_getElem? (i := 25) rfl))) (mvT hZ (hw _ (List.mem_of_getElem? (i := 26) rfl))) (mvT hZ (hw _ (List.mem_of_getElem? (i := 2) rfl))) (mvT hZ (hw _ (List.mem_of_getElem? (i := 27) rfl))) (by decide) (backOf (W := 0) (rm5 l Z a0_ hw [] i5  h0 n0 Z0 ) hZ (hw _ (List.mem_of_getElem? (i := 27) rfl)) (hw _ (List.mem_of_getElem? (i := 2) rfl)) (by decide) (by decide)) (g := (mkF m 106 #[.val (.int i0), .val (.int i1), .val (.int i2), .val (.int i3), .val (.int i4), .val (.int i5), .val (.int i6), .val (.int i7), .val (.ref a8), .val (.int i9), .val (.int i10), .val (.int i11), .val (.int u0), .unset, .unset, .unset, .unset, .unset] [(.int i5)])) rfl (by rw [hml]; rfl) (argsL := [(.int i5)]) (rest := []) (lenOf pd_0_3 rfl) rfl (by show 2 * 0 + _ ≤ _; exact Nat.le_of_eq rfl) (hb hby at_106) (fun _ _ => ⟨rfl, e0, (by decide : 1 + 0 ≤ room_1.cells), (by decide : 3 + 0 ≤ room_1.slots)⟩)
  dsimp only [Pt.U, Pt.locs, Pt.cells, Pt.slots] at X1 l1 y1 z1 st1 hQ1
  subst l1 y1 z1
  obtain ⟨rfl, rfl, e1⟩ := hQ1
  rw [List.append_nil] at X1
  have pre2 : ∀ target, Steps p.tables e below (T1.setTop (mkF m 109 #[.val (.int i0), .val (.int i1), .val (.int i2), .val (.int i3), .val (.int i4), .val (.int i5), .val (.int i6), .val (.int i7), .val (.ref a8), .val (.int i9), .val (.int i10), .val (.int i11), .val (.int u0), .unset, .unset, .unset, .unset, .unset] [(.int (own_f5_0 i5))])) target → Steps p.tables e below (T0.setTop (mkF m 102 #[.val (.int i0), .val (.int i1), .val (.int i2), .val (.int i3), .val (.int i4), .val (.int i5), .val (.int i6), .val (.int i7), .val (.ref a8), .val (.int i9), .val (.int i10), .val (.int i11), .unset, .unset, .unset, .unset, .unset, .unset] [(.int u0)])) target := by
    intro target kt
    show Steps p.tables e below (T0.setTop (mkF m 102 #[.val (.int i0), .val (.int i1), .val (.int i2), .val (.int i3), .val (.int i4), .val (.int i5), .val (.int i6), .val (.int i7), .val (.ref a8), .val (.int i9), .val (.int i10), .val (.int i11), .unset, .unset, .unset, .unset, .unset, .unset] [(.int u0)])) _
    refine XS.istore X0.here hx rfl (hb hby at_102) rfl (l' := #[.val (.int i0), .val (.int i1), .val (.int i2), .val (.int i3), .val (.int i4), .val (.int i5), .val (.int i6), .val (.int i7), .val (.ref a8), .val (.int i9), .val (.int i10), .val (.int i11), .val (.int u0), .unset, .unset, .unset, .unset, .unset]) rfl ?_
    show Steps p.tables e below (T0.setTop (mkF m 104 #[.val (.int i0), .val (.int i1), .val (.int i2), .val (.int i3), .val (.int i4), .val (.int i5), .val (.int i6), .val (.int i7), .val (.ref a8), .val (.int i9), .val (.int i10), .val (.int i11), .val (.int u0), .unset, .unset, .unset, .unset, .unset] [])) _
    refine XS.iload X0.here hx rfl (hb hby at_104) rfl ?_
    show Steps p.tables e below (T0.setTop (mkF m 106 #[.val (.int i0), .val (.int i1), .val (.int i2), .val (.int i3), .val (.int i4), .val (.int i5), .val (.int i6), .val (.int i7), .val (.ref a8), .val (.int i9), .val (.int i10), .val (.int i11), .val (.int u0), .unset, .unset, .unset, .unset, .unset] [(.int i5)])) _
    refine st1 _ ?_
    exact kt
  by_cases hc109 : (own_f5_0 i5) = (0 : Int32)
  · obtain ⟨_, _, ⟨T3, L3, k3, n3⟩, -, X3, ⟨Lc3, hQ3, l3, y3, z3⟩, st3⟩ := Jvm.LawKit.callS X1 hx (y := (⟨"com/example/saho/saho/load/LineCounterAdvancePinLaw", "nl", "(C)Z"⟩ : MethodName)) hown (mvT hZ (hw _ (List.mem_of_getElem? (i := 25) rfl))) (mvT hZ (hw _ (List.mem_of_getElem? (i := 26) rfl))) (mvT hZ (hw _ (List.mem_of_getElem? (i := 2) rfl))) (mvT hZ (hw _ (List.mem_of_getElem? (i := 27) rfl))) (by decide) (backOf (W := 0) (rm5 l Z a0_ hw [] i4  h0 n0 Z0 ) hZ (hw _ (List.mem_of_getElem? (i := 27) rfl)) (hw _ (List.mem_of_getElem? (i := 2) rfl)) (by decide) (by decide)) (g := (mkF m 118 #[.val (.int i0), .val (.int i1), .val (.int i2), .val (.int i3), .val (.int i4), .val (.int i5), .val (.int i6), .val (.int i7), .val (.ref a8), .val (.int i9), .val (.int i10), .val (.int i11), .val (.int u0), .unset, .unset, .unset, .unset, .unset] [(.int i4)])) rfl (by rw [hml]; rfl) (argsL := [(.int i4)]) (rest := []) (lenOf pd_0_3 rfl) rfl (by show 2 * 0 + _ ≤ _; exact Nat.le_of_eq rfl) (hb hby at_118) (fun _ _ => ⟨rfl, e1, (by decide : 1 + 0 ≤ room_1.cells), (by decide : 3 + 0 ≤ room_1.slots)⟩)
    dsimp only [Pt.U, Pt.locs, Pt.cells, Pt.slots] at X3 l3 y3 z3 st3 hQ3
    subst l3 y3 z3
    obtain ⟨rfl, rfl, e3⟩ := hQ3
    rw [List.append_nil] at X3
    have pre4 : ∀ target, Steps p.tables e below (T3.setTop (mkF m 121 #[.val (.int i0), .val (.int i1), .val (.int i2), .val (.int i3), .val (.int i4), .val (.int i5), .val (.int i6), .val (.int i7), .val (.ref a8), .val (.int i9), .val (.int i10), .val (.int i11), .val (.int u0), .unset, .unset, .unset, .unset, .unset] [(.int (own_f5_0 i4))])) target → Steps p.tables e below (T0.setTop (mkF m 102 #[.val (.int i0), .val (.int i1), .val (.int i2), .val (.int i3), .val (.int i4), .val (.int i5), .val (.int i6), .val (.int i7), .val (.ref a8), .val (.int i9), .val (.int i10), .val (.int i11), .unset, .unset, .unset, .unset, .unset, .unset] [(.int u0)])) target := by
      intro target kt
      refine pre2 target ?_
      show Steps p.tables e below (T1.setTop (mkF m 109 #[.val (.int i0), .val (.int i1), .val (.int i2), .val (.int i3), .val (.int i4), .val (.int i5), .val (.int i6), .val (.int i7), .val (.ref a8), .val (.int i9), .val (.int i10), .val (.int i11), .val (.int u0), .unset, .unset, .unset, .unset, .unset] [(.int (own_f5_0 i5))])) _
      refine XS.ifYes X1.here hx rfl (pc0 := 109) (pc' := 116) rfl (hb hby at_109) rfl ((if0 _ _).trans (teq hc109).1) (by decide) (by decide) ?_
      show Steps p.tables e below (T1.setTop (mkF m 116 #[.val (.int i0), .val (.int i1), .val (.int i2), .val (.int i3), .val (.int i4), .val (.int i5), .val (.int i6), .val (.int i7), .val (.ref a8), .val (.int i9), .val (.int i10), .val (.int i11), .val (.int u0), .unset, .unset, .unset, .unset, .unset] [])) _
      refine XS.iload X1.here hx rfl (hb hby at_116) rfl ?_
      show Steps p.tables e below (T1.setTop (mkF m 118 #[.val (.int i0), .val (.int i1), .val (.int i2), .val (.int i3), .val (.int i4), .val (.int i5), .val (.int i6), .val (.int i7), .val (.ref a8), .val (.int i9), .val (.int i10), .val (.int i11), .val (.int u0), .unset, .unset, .unset, .unset, .unset] [(.int i4)])) _
      refine st3 _ ?_
      exact kt
    by_cases hc121 : (own_f5_0 i4) = (0 : Int32)
    · have pre5 : ∀ target, Steps p.tables e below (T3.setTop (mkF m 132 #[.val (.int i0), .val (.int i1), .val (.int i2), .val (.int i3), .val (.int i4), .val (.int i5), .val (.int i6), .val (.int i7), .val (.ref a8), .val (.int i9), .val (.int i10), .val (.int i11), .val (.int u0), .unset, .unset, .unset, .unset, .unset] [(.int (i7 + (3 : Int32)))])) target → Steps p.tables e below (T0.setTop (mkF m 102 #[.val (.int i0), .val (.int i1), .val (.int i2), .val (.int i3), .val (.int i4), .val (.int i5), .val (.int i6), .val (.int i7), .val (.ref a8), .val (.int i9), .val (.int i10), .val (.int i11), .unset, .unset, .unset, .unset, .unset, .unset] [(.int u0)])) target := by
        intro target kt
        refine pre4 target ?_
        show Steps p.tables e below (T3.setTop (mkF m 121 #[.val (.int i0), .val (.int i1), .val (.int i2), .val (.int i3), .val (.int i4), .val (.int i5), .val (.int i6), .val (.int i7), .val (.ref a8), .val (.int i9), .val (.int i10), .val (.int i11), .val (.int u0), .unset, .unset, .unset, .unset, .unset] [(.int (own_f5_0 i4))])) _
        refine XS.ifYes X3.here hx rfl (pc0 := 121) (pc' := 128) rfl (hb hby at_121) rfl ((if0 _ _).trans (teq hc121).1) (by decide) (by decide) ?_
        show Steps p.tables e below (T3.setTop (mkF m 128 #[.val (.int i0), .val (.int i1), .val (.int i2), .val (.int i3), .val (.int i4), .val (.int i5), .val (.int i6), .val (.int i7), .val (.ref a8), .val (.int i9), .val (.int i10), .val (.int i11), .val (.int u0), .unset, .unset, .unset, .unset, .unset] [])) _
        refine XS.iload X3.here hx rfl (hb hby at_128) rfl ?_
        show Steps p.tables e below (T3.setTop (mkF m 130 #[.val (.int i0), .val (.int i1), .val (.int i2), .val (.int i3), .val (.int i4), .val (.int i5), .val (.int i6), .val (.int i7), .val (.ref a8), .val (.int i9), .val (.int i10), .val (.int i11), .val (.int u0), .unset, .unset, .unset, .unset, .unset] [(.int i7)])) _
        refine XS.iconst X3.here hx rfl (hb hby at_130) ?_
        show Steps p.tables e below (T3.setTop (mkF m 131 #[.val (.int i0), .val (.int i1), .val (.int i2), .val (.int i3), .val (.int i4), .val (.int i5), .val (.int i6), .val (.int i7), .val (.ref a8), .val (.int i9), .val (.int i10), .val (.int i11), .val (.int u0), .unset, .unset, .unset, .unset, .unset] [(.int (3 : Int32)), (.int i7)])) _
        refine XS.iadd X3.here hx rfl (hb hby at_131) rfl ?_
        exact kt
      obtain ⟨T6, L6, k6, n6, X6, N6, hk6', hn6, st6⟩ := own_b0_132 hx hZ hw hby hml hown hret i0 i1 i2 i3 i4 i5 i6 i7 a8 i9 i10 i11 u0 (i7 + (3 : Int32)) w_line_a8 w_column_a8 w_afterCarriageReturn_a8 X3 e3 N0 Z0 g_a8 E_a8 F_line_a8 F_column_a8 F_afterCarriageReturn_a8 
      have hv : (own_f0_102 i0 i1 i2 i3 i4 i5 i6 i7 i9 i10 i11 u0 w_line_a8 w_column_a8 w_afterCarriageReturn_a8) = (own_f0_132 i0 i1 i2 i3 i4 i5 i6 i7 i9 i10 i11 u0 (i7 + (3 : Int32)) w_line_a8 w_column_a8 w_afterCarriageReturn_a8) := by unfold own_f0_102; rw [if_pos hc109, if_pos hc121]
      exact ⟨T6, L6, k6, n6, X6, N6, hk6', hn6, fun fs hr => pre5 _ (st6 fs (by rw [hv] at hr; exact hr))⟩
    · have pre7 : ∀ target, Steps p.tables e below (T3.setTop (mkF m 132 #[.val (.int i0), .val (.int i1), .val (.int i2), .val (.int i3), .val (.int i4), .val (.int i5), .val (.int i6), .val (.int i7), .val (.ref a8), .val (.int i9), .val (.int i10), .val (.int i11), .val (.int u0), .unset, .unset, .unset, .unset, .unset] [(.int (2 : Int32))])) target → Steps p.tables e below (T0.setTop (mkF m 102 #[.val (.int i0), .val (.int i1), .val (.int i2), .val (.int i3), .val (.int i4), .val (.int i5), .val (.int i6), .val (.int i7), .val (.ref a8), .val (.int i9), .val (.int i10), .val (.int i11), .unset, .unset, .unset, .unset, .unset, .unset] [(.int u0)])) target := by
        intro target kt
        refine pre4 target ?_
        show Steps p.tables e below (T3.setTop (mkF m 121 #[.val (.int i0), .val (.int i1), .val (.int i2), .val (.int i3), .val (.int i4), .val (.int i5), .val (.int i6), .val (.int i7), .val (.ref a8), .val (.int i9), .val (.int i10), .val (.int i11), .val (.int u0), .unset, .unset, .unset, .unset, .unset] [(.int (own_f5_0 i4))])) _
        refine XS.ifNo X3.here hx rfl (hb hby at_121) rfl ((if0 _ _).trans (feq hc121).1) ?_
        show Steps p.tables e below (T3.setTop (mkF m 124 #[.val (.int i0), .val (.int i1), .val (.int i2), .val (.int i3), .val (.int i4), .val (.int i5), .val (.int i6), .val (.int i7), .val (.ref a8), .val (.int i9), .val (.int i10), .val (.int i11), .val (.int u0), .unset, .unset, .unset, .unset, .unset] [])) _
        refine XS.iconst X3.here hx rfl (hb hby at_124) ?_
        show Steps p.tables e below (T3.setTop (mkF m 125 #[.val (.int i0), .val (.int i1), .val (.int i2), .val (.int i3), .val (.int i4), .val (.int i5), .val (.int i6), .val (.int i7), .val (.ref a8), .val (.int i9), .val (.int i10), .val (.int i11), .val (.int u0), .unset, .unset, .unset, .unset, .unset] [(.int (2 : Int32))])) _
        refine XS.goto X3.here hx rfl (pc0 := 125) (pc' := 132) rfl (hb hby at_125) (by decide) (by decide) ?_
        exact kt
      obtain ⟨T8, L8, k8, n8, X8, N8, hk8', hn8, st8⟩ := own_b0_132 hx hZ hw hby hml hown hret i0 i1 i2 i3 i4 i5 i6 i7 a8 i9 i10 i11 u0 (2 : Int32) w_line_a8 w_column_a8 w_afterCarriageReturn_a8 X3 e3 N0 Z0 g_a8 E_a8 F_line_a8 F_column_a8 F_afterCarriageReturn_a8 
      have hv : (own_f0_102 i0 i1 i2 i3 i4 i5 i6 i7 i9 i10 i11 u0 w_line_a8 w_column_a8 w_afterCarriageReturn_a8) = (own_f0_132 i0 i1 i2 i3 i4 i5 i6 i7 i9 i10 i11 u0 (2 : Int32) w_line_a8 w_column_a8 w_afterCarriageReturn_a8) := by unfold own_f0_102; rw [if_pos hc109, if_neg hc121]
      exact ⟨T8, L8, k8, n8, X8, N8, hk8', hn8, fun fs hr => pre7 _ (st8 fs (by rw [hv] at hr; exact hr))⟩
  · have pre9 : ∀ target, Steps p.tables e below (T1.setTop (mkF m 132 #[.val (.int i0), .val (.int i1), .val (.int i2), .val (.int i3), .val (.int i4), .val (.int i5), .val (.int i6), .val (.int i7), .val (.ref a8), .val (.int i9), .val (.int i10), .val (.int i11), .val (.int u0), .unset, .unset, .unset, .unset, .unset] [(.int (1 : Int32))])) target → Steps p.tables e below (T0.setTop (mkF m 102 #[.val (.int i0), .val (.int i1), .val (.int i2), .val (.int i3), .val (.int i4), .val (.int i5), .val (.int i6), .val (.int i7), .val (.ref a8), .val (.int i9), .val (.int i10), .val (.int i11), .unset, .unset, .unset, .unset, .unset, .unset] [(.int u0)])) target := by
      intro target kt
      refine pre2 target ?_
      show Steps p.tables e below (T1.setTop (mkF m 109 #[.val (.int i0), .val (.int i1), .val (.int i2), .val (.int i3), .val (.int i4), .val (.int i5), .val (.int i6), .val (.int i7), .val (.ref a8), .val (.int i9), .val (.int i10), .val (.int i11), .val (.int u0), .unset, .unset, .unset, .unset, .unset] [(.int (own_f5_0 i5))])) _
      refine XS.ifNo X1.here hx rfl (hb hby at_109) rfl ((if0 _ _).trans (feq hc109).1) ?_
      show Steps p.tables e below (T1.setTop (mkF m 112 #[.val (.int i0), .val (.int i1), .val (.int i2), .val (.int i3), .val (.int i4), .val (.int i5), .val (.int i6), .val (.int i7), .val (.ref a8), .val (.int i9), .val (.int i10), .val (.int i11), .val (.int u0), .unset, .unset, .unset, .unset, .unset] [])) _
      refine XS.iconst X1.here hx rfl (hb hby at_112) ?_
      show Steps p.tables e below (T1.setTop (mkF m 113 #[.val (.int i0), .val (.int i1), .val (.int i2), .val (.int i3), .val (.int i4), .val (.int i5), .val (.int i6), .val (.int i7), .val (.ref a8), .val (.int i9), .val (.int i10), .val (.int i11), .val (.int u0), .unset, .unset, .unset, .unset, .unset] [(.int (1 : Int32))])) _
      refine XS.goto X1.here hx rfl (pc0 := 113) (pc' := 132) rfl (hb hby at_113) (by decide) (by decide) ?_
      exact kt
    obtain ⟨T10, L10, k10, n10, X10, N10, hk10', hn10, st10⟩ := own_b0_132 hx hZ hw hby hml hown hret i0 i1 i2 i3 i4 i5 i6 i7 a8 i9 i10 i11 u0 (1 : Int32) w_line_a8 w_column_a8 w_afterCarriageReturn_a8 X1 e1 N0 Z0 g_a8 E_a8 F_line_a8 F_column_a8 F_afterCarriageReturn_a8 
    have hv : (own_f0_102 i0 i1 i2 i3 i4 i5 i6 i7 i9 i10 i11 u0 w_line_a8 w_column_a8 w_afterCarriageReturn_a8) = (own_f0_132 i0 i1 i2 i3 i4 i5 i6 i7 i9 i10 i11 u0 (1 : Int32) w_line_a8 w_column_a8 w_afterCarriageReturn_a8) := by unfold own_f0_102; rw [if_neg hc109]
    exact ⟨T10, L10, k10, n10, X10, N10, hk10', hn10, fun fs hr => pre9 _ (st10 fs (by rw [hv] at hr; exact hr))⟩
set_option maxRecDepth 65536 in
set_option maxHeartbeats 40000000 in
theorem own_b0_59 {p : Program} {l : Launch} {e : Env} {s : State} {m : MethodId} {args : Array Value} {below : List Frame} {meth : Method} {c : Code} {Z : State} {a0_ : Array Value} {n0 : Nat} (hx : p.tables.exec = Jvm.exec) (hZ : Z.Warmed39 s.vm) (hw : ∀ d ∈ tables_1, d.before a0_ Z = true) (hby : c.code = code) (hml : c.maxLocals = 18) (hown : s.vm.findClass "com/example/saho/saho/load/LineCounterAdvancePinLaw" = some m.cls) (hret : meth.sig.returnType = some .boolean) {T0 : State} {locs : List Loc} {h0 : Heap} (i0 : Int32) (i1 : Int32) (i2 : Int32) (i3 : Int32) (i4 : Int32) (i5 : Int32) (i6 : Int32) (i7 : Int32) (a8 : Addr) (u0 : Int32) (u1 : Int32) (w_line_a8 : Int32) (w_column_a8 : Int32) (w_afterCarriageReturn_a8 : Int32)
    (X0 : Stand p l e room_1 s m args below meth c T0 locs 1 3) (e0 : T0.heap = h0) (N0 : Fr n0 locs) (Z0 : n0 ≤ h0.size) (g_a8 : n0 ≤ a8) (E_a8 : Exa Z h0 a8 "com/example/saho/saho/load/LineCounter") (F_line_a8 : Fld Z h0 a8 "com/example/saho/saho/load/LineCounter" "line" "I" (.int w_line_a8)) (F_column_a8 : Fld Z h0 a8 "com/example/saho/saho/load/LineCounter" "column" "I" (.int w_column_a8)) (F_afterCarriageReturn_a8 : Fld Z h0 a8 "com/example/saho/saho/load/LineCounter" "afterCarriageReturn" "Z" (.int w_afterCarriageReturn_a8)) :
    ∃ T' locs' cells' slots', Stand p l e room_1 s m args below meth c T' locs' cells' slots' ∧ Fr n0 locs' ∧ cells' ≤ room_1.cells ∧ slots' ≤ room_1.slots ∧ ∀ fs, (∀ (f : JFrame) (acts : List Action), f.method = m → f.locked = none → f.entered = [] → (doReturn e (T'.setTop f) acts (some (.int (own_f0_59 i0 i1 i2 i3 i4 i5 i6 i7 u0 u1 w_line_a8 w_column_a8 w_afterCarriageReturn_a8)))).1 = T'.setFrames fs) → Steps p.tables e below (T0.setTop (mkF m 59 #[.val (.int i0), .val (.int i1), .val (.int i2), .val (.int i3), .val (.int i4), .val (.int i5), .val (.int i6), .val (.int i7), .val (.ref a8), .unset, .unset, .unset, .unset, .unset, .unset, .unset, .unset, .unset] [(.int u0), (.int u1)])) (T'.setFrames fs) := by
  obtain ⟨_, _, ⟨T1, L1, k1, n1⟩, -, X1, ⟨Lc1, hQ1, l1, y1, z1⟩, st1⟩ := Jvm.LawKit.callS X0 hx (y := (⟨"com/example/saho/saho/load/LineCounterAdvancePinLaw", "ends", "(CC)I"⟩ : MethodName)) hown (mvT hZ (hw _ (List.mem_of_getElem? (i := 28) rfl))) (mvT hZ (hw _ (List.mem_of_getElem? (i := 29) rfl))) (mvT hZ (hw _ (List.mem_of_getElem? (i := 2) rfl))) (mvT hZ (hw _ (List.mem_of_getElem? (i := 30) rfl))) (by decide) (backOf (W := 1) (rm6 l Z a0_ hw [] i4 i5  h0 n0 Z0 ) hZ (hw _ (List.mem_of_getElem? (i := 30) rfl)) (hw _ (List.mem_of_getElem? (i := 2) rfl)) (by decide) (by decide)) (g := (mkF m 68 #[.val (.int i0), .val (.int i1), .val (.int i2), .val (.int i3), .val (.int i4), .val (.int i5), .val (.int i6), .val (.int i7), .val (.ref a8), .val (.int (u1 + u0)), .unset, .unset, .unset, .unset, .unset, .unset, .unset, .unset] [(.int i5), (.int i4), (.int (u1 + u0))])) rfl (by rw [hml]; rfl) (argsL := [(.int i4), (.int i5)]) (rest := [(.int (u1 + u0))]) (lenOf pd_0_4 rfl) rfl (by show 2 * 0 + _ ≤ _; exact Nat.le_of_eq rfl) (hb hby at_68) (fun _ _ => ⟨rfl, e0, (by decide : 1 + 0 ≤ room_1.cells), (by decide : 3 + 0 ≤ room_1.slots)⟩)
  dsimp only [Pt.U, Pt.locs, Pt.cells, Pt.slots] at X1 l1 y1 z1 st1 hQ1
  subst l1 y1 z1
  obtain ⟨rfl, rfl, e1⟩ := hQ1
  rw [List.append_nil] at X1
  obtain ⟨_, _, ⟨T2, L2, k2, n2⟩, -, X2, ⟨Lc2, hQ2, l2, y2, z2⟩, st2⟩ := Jvm.LawKit.callS X1 hx (y := (⟨"com/example/saho/saho/load/LineCounterAdvancePinLaw", "ends", "(CC)I"⟩ : MethodName)) hown (mvT hZ (hw _ (List.mem_of_getElem? (i := 28) rfl))) (mvT hZ (hw _ (List.mem_of_getElem? (i := 29) rfl))) (mvT hZ (hw _ (List.mem_of_getElem? (i := 2) rfl))) (mvT hZ (hw _ (List.mem_of_getElem? (i := 30) rfl))) (by decide) (backOf (W := 1) (rm6 l Z a0_ hw [] i5 i6  h0 n0 Z0 ) hZ (hw _ (List.mem_of_getElem? (i := 30) rfl)) (hw _ (List.mem_of_getElem? (i := 2) rfl)) (by decide) (by decide)) (g := (mkF m 80 #[.val (.int i0), .val (.int i1), .val (.int i2), .val (.int i3), .val (.int i4), .val (.int i5), .val (.int i6), .val (.int i7), .val (.ref a8), .val (.int (u1 + u0)), .val (.int ((u1 + u0) + (own_f6_0 i4 i5))), .unset, .unset, .unset, .unset, .unset, .unset, .unset] [(.int i6), (.int i5), (.int ((u1 + u0) + (own_f6_0 i4 i5)))])) rfl (by rw [hml]; rfl) (argsL := [(.int i5), (.int i6)]) (rest := [(.int ((u1 + u0) + (own_f6_0 i4 i5)))]) (lenOf pd_0_4 rfl) rfl (by show 2 * 0 + _ ≤ _; exact Nat.le_of_eq rfl) (hb hby at_80) (fun _ _ => ⟨rfl, e1, (by decide : 1 + 0 ≤ room_1.cells), (by decide : 3 + 0 ≤ room_1.slots)⟩)
  dsimp only [Pt.U, Pt.locs, Pt.cells, Pt.slots] at X2 l2 y2 z2 st2 hQ2
  subst l2 y2 z2
  obtain ⟨rfl, rfl, e2⟩ := hQ2
  rw [List.append_nil] at X2
  obtain ⟨_, _, ⟨T3, L3, k3, n3⟩, -, X3, ⟨Lc3, hQ3, l3, y3, z3⟩, st3⟩ := Jvm.LawKit.callS X2 hx (y := (⟨"com/example/saho/saho/load/LineCounterAdvancePinLaw", "nl", "(C)Z"⟩ : MethodName)) hown (mvT hZ (hw _ (List.mem_of_getElem? (i := 25) rfl))) (mvT hZ (hw _ (List.mem_of_getElem? (i := 26) rfl))) (mvT hZ (hw _ (List.mem_of_getElem? (i := 2) rfl))) (mvT hZ (hw _ (List.mem_of_getElem? (i := 27) rfl))) (by decide) (backOf (W := 0) (rm5 l Z a0_ hw [] i4  h0 n0 Z0 ) hZ (hw _ (List.mem_of_getElem? (i := 27) rfl)) (hw _ (List.mem_of_getElem? (i := 2) rfl)) (by decide) (by decide)) (g := (mkF m 88 #[.val (.int i0), .val (.int i1), .val (.int i2), .val (.int i3), .val (.int i4), .val (.int i5), .val (.int i6), .val (.int i7), .val (.ref a8), .val (.int (u1 + u0)), .val (.int ((u1 + u0) + (own_f6_0 i4 i5))), .val (.int (((u1 + u0) + (own_f6_0 i4 i5)) + (own_f6_0 i5 i6))), .unset, .unset, .unset, .unset, .unset, .unset] [(.int i4)])) rfl (by rw [hml]; rfl) (argsL := [(.int i4)]) (rest := []) (lenOf pd_0_3 rfl) rfl (by show 2 * 0 + _ ≤ _; exact Nat.le_of_eq rfl) (hb hby at_88) (fun _ _ => ⟨rfl, e2, (by decide : 1 + 0 ≤ room_1.cells), (by decide : 3 + 0 ≤ room_1.slots)⟩)
  dsimp only [Pt.U, Pt.locs, Pt.cells, Pt.slots] at X3 l3 y3 z3 st3 hQ3
  subst l3 y3 z3
  obtain ⟨rfl, rfl, e3⟩ := hQ3
  rw [List.append_nil] at X3
  have pre4 : ∀ target, Steps p.tables e below (T3.setTop (mkF m 91 #[.val (.int i0), .val (.int i1), .val (.int i2), .val (.int i3), .val (.int i4), .val (.int i5), .val (.int i6), .val (.int i7), .val (.ref a8), .val (.int (u1 + u0)), .val (.int ((u1 + u0) + (own_f6_0 i4 i5))), .val (.int (((u1 + u0) + (own_f6_0 i4 i5)) + (own_f6_0 i5 i6))), .unset, .unset, .unset, .unset, .unset, .unset] [(.int (own_f5_0 i4))])) target → Steps p.tables e below (T0.setTop (mkF m 59 #[.val (.int i0), .val (.int i1), .val (.int i2), .val (.int i3), .val (.int i4), .val (.int i5), .val (.int i6), .val (.int i7), .val (.ref a8), .unset, .unset, .unset, .unset, .unset, .unset, .unset, .unset, .unset] [(.int u0), (.int u1)])) target := by
    intro target kt
    show Steps p.tables e below (T0.setTop (mkF m 59 #[.val (.int i0), .val (.int i1), .val (.int i2), .val (.int i3), .val (.int i4), .val (.int i5), .val (.int i6), .val (.int i7), .val (.ref a8), .unset, .unset, .unset, .unset, .unset, .unset, .unset, .unset, .unset] [(.int u0), (.int u1)])) _
    refine XS.iadd X0.here hx rfl (hb hby at_59) rfl ?_
    show Steps p.tables e below (T0.setTop (mkF m 60 #[.val (.int i0), .val (.int i1), .val (.int i2), .val (.int i3), .val (.int i4), .val (.int i5), .val (.int i6), .val (.int i7), .val (.ref a8), .unset, .unset, .unset, .unset, .unset, .unset, .unset, .unset, .unset] [(.int (u1 + u0))])) _
    refine XS.istore X0.here hx rfl (hb hby at_60) rfl (l' := #[.val (.int i0), .val (.int i1), .val (.int i2), .val (.int i3), .val (.int i4), .val (.int i5), .val (.int i6), .val (.int i7), .val (.ref a8), .val (.int (u1 + u0)), .unset, .unset, .unset, .unset, .unset, .unset, .unset, .unset]) rfl ?_
    show Steps p.tables e below (T0.setTop (mkF m 62 #[.val (.int i0), .val (.int i1), .val (.int i2), .val (.int i3), .val (.int i4), .val (.int i5), .val (.int i6), .val (.int i7), .val (.ref a8), .val (.int (u1 + u0)), .unset, .unset, .unset, .unset, .unset, .unset, .unset, .unset] [])) _
    refine XS.iload X0.here hx rfl (hb hby at_62) rfl ?_
    show Steps p.tables e below (T0.setTop (mkF m 64 #[.val (.int i0), .val (.int i1), .val (.int i2), .val (.int i3), .val (.int i4), .val (.int i5), .val (.int i6), .val (.int i7), .val (.ref a8), .val (.int (u1 + u0)), .unset, .unset, .unset, .unset, .unset, .unset, .unset, .unset] [(.int (u1 + u0))])) _
    refine XS.iload X0.here hx rfl (hb hby at_64) rfl ?_
    show Steps p.tables e below (T0.setTop (mkF m 66 #[.val (.int i0), .val (.int i1), .val (.int i2), .val (.int i3), .val (.int i4), .val (.int i5), .val (.int i6), .val (.int i7), .val (.ref a8), .val (.int (u1 + u0)), .unset, .unset, .unset, .unset, .unset, .unset, .unset, .unset] [(.int i4), (.int (u1 + u0))])) _
    refine XS.iload X0.here hx rfl (hb hby at_66) rfl ?_
    show Steps p.tables e below (T0.setTop (mkF m 68 #[.val (.int i0), .val (.int i1), .val (.int i2), .val (.int i3), .val (.int i4), .val (.int i5), .val (.int i6), .val (.int i7), .val (.ref a8), .val (.int (u1 + u0)), .unset, .unset, .unset, .unset, .unset, .unset, .unset, .unset] [(.int i5), (.int i4), (.int (u1 + u0))])) _
    refine st1 _ ?_
    show Steps p.tables e below (T1.setTop (mkF m 71 #[.val (.int i0), .val (.int i1), .val (.int i2), .val (.int i3), .val (.int i4), .val (.int i5), .val (.int i6), .val (.int i7), .val (.ref a8), .val (.int (u1 + u0)), .unset, .unset, .unset, .unset, .unset, .unset, .unset, .unset] [(.int (own_f6_0 i4 i5)), (.int (u1 + u0))])) _
    refine XS.iadd X1.here hx rfl (hb hby at_71) rfl ?_
    show Steps p.tables e below (T1.setTop (mkF m 72 #[.val (.int i0), .val (.int i1), .val (.int i2), .val (.int i3), .val (.int i4), .val (.int i5), .val (.int i6), .val (.int i7), .val (.ref a8), .val (.int (u1 + u0)), .unset, .unset, .unset, .unset, .unset, .unset, .unset, .unset] [(.int ((u1 + u0) + (own_f6_0 i4 i5)))])) _
    refine XS.istore X1.here hx rfl (hb hby at_72) rfl (l' := #[.val (.int i0), .val (.int i1), .val (.int i2), .val (.int i3), .val (.int i4), .val (.int i5), .val (.int i6), .val (.int i7), .val (.ref a8), .val (.int (u1 + u0)), .val (.int ((u1 + u0) + (own_f6_0 i4 i5))), .unset, .unset, .unset, .unset, .unset, .unset, .unset]) rfl ?_
    show Steps p.tables e below (T1.setTop (mkF m 74 #[.val (.int i0), .val (.int i1), .val (.int i2), .val (.int i3), .val (.int i4), .val (.int i5), .val (.int i6), .val (.int i7), .val (.ref a8), .val (.int (u1 + u0)), .val (.int ((u1 + u0) + (own_f6_0 i4 i5))), .unset, .unset, .unset, .unset, .unset, .unset, .unset] [])) _
    refine XS.iload X1.here hx rfl (hb hby at_74) rfl ?_
    show Steps p.tables e below (T1.setTop (mkF m 76 #[.val (.int i0), .val (.int i1), .val (.int i2), .val (.int i3), .val (.int i4), .val (.int i5), .val (.int i6), .val (.int i7), .val (.ref a8), .val (.int (u1 + u0)), .val (.int ((u1 + u0) + (own_f6_0 i4 i5))), .unset, .unset, .unset, .unset, .unset, .unset, .unset] [(.int ((u1 + u0) + (own_f6_0 i4 i5)))])) _
    refine XS.iload X1.here hx rfl (hb hby at_76) rfl ?_
    show Steps p.tables e below (T1.setTop (mkF m 78 #[.val (.int i0), .val (.int i1), .val (.int i2), .val (.int i3), .val (.int i4), .val (.int i5), .val (.int i6), .val (.int i7), .val (.ref a8), .val (.int (u1 + u0)), .val (.int ((u1 + u0) + (own_f6_0 i4 i5))), .unset, .unset, .unset, .unset, .unset, .unset, .unset] [(.int i5), (.int ((u1 + u0) + (own_f6_0 i4 i5)))])) _
    refine XS.iload X1.here hx rfl (hb hby at_78) rfl ?_
    show Steps p.tables e below (T1.setTop (mkF m 80 #[.val (.int i0), .val (.int i1), .val (.int i2), .val (.int i3), .val (.int i4), .val (.int i5), .val (.int i6), .val (.int i7), .val (.ref a8), .val (.int (u1 + u0)), .val (.int ((u1 + u0) + (own_f6_0 i4 i5))), .unset, .unset, .unset, .unset, .unset, .unset, .unset] [(.int i6), (.int i5), (.int ((u1 + u0) + (own_f6_0 i4 i5)))])) _
    refine st2 _ ?_
    show Steps p.tables e below (T2.setTop (mkF m 83 #[.val (.int i0), .val (.int i1), .val (.int i2), .val (.int i3), .val (.int i4), .val (.int i5), .val (.int i6), .val (.int i7), .val (.ref a8), .val (.int (u1 + u0)), .val (.int ((u1 + u0) + (own_f6_0 i4 i5))), .unset, .unset, .unset, .unset, .unset, .unset, .unset] [(.int (own_f6_0 i5 i6)), (.int ((u1 + u0) + (own_f6_0 i4 i5)))])) _
    refine XS.iadd X2.here hx rfl (hb hby at_83) rfl ?_
    show Steps p.tables e below (T2.setTop (mkF m 84 #[.val (.int i0), .val (.int i1), .val (.int i2), .val (.int i3), .val (.int i4), .val (.int i5), .val (.int i6), .val (.int i7), .val (.ref a8), .val (.int (u1 + u0)), .val (.int ((u1 + u0) + (own_f6_0 i4 i5))), .unset, .unset, .unset, .unset, .unset, .unset, .unset] [(.int (((u1 + u0) + (own_f6_0 i4 i5)) + (own_f6_0 i5 i6)))])) _
    refine XS.istore X2.here hx rfl (hb hby at_84) rfl (l' := #[.val (.int i0), .val (.int i1), .val (.int i2), .val (.int i3), .val (.int i4), .val (.int i5), .val (.int i6), .val (.int i7), .val (.ref a8), .val (.int (u1 + u0)), .val (.int ((u1 + u0) + (own_f6_0 i4 i5))), .val (.int (((u1 + u0) + (own_f6_0 i4 i5)) + (own_f6_0 i5 i6))), .unset, .unset, .unset, .unset, .unset, .unset]) rfl ?_
    show Steps p.tables e below (T2.setTop (mkF m 86 #[.val (.int i0), .val (.int i1), .val (.int i2), .val (.int i3), .val (.int i4), .val (.int i5), .val (.int i6), .val (.int i7), .val (.ref a8), .val (.int (u1 + u0)), .val (.int ((u1 + u0) + (own_f6_0 i4 i5))), .val (.int (((u1 + u0) + (own_f6_0 i4 i5)) + (own_f6_0 i5 i6))), .unset, .unset, .unset, .unset, .unset, .unset] [])) _
    refine XS.iload X2.here hx rfl (hb hby at_86) rfl ?_
    show Steps p.tables e below (T2.setTop (mkF m 88 #[.val (.int i0), .val (.int i1), .val (.int i2), .val (.int i3), .val (.int i4), .val (.int i5), .val (.int i6), .val (.int i7), .val (.ref a8), .val (.int (u1 + u0)), .val (.int ((u1 + u0) + (own_f6_0 i4 i5))), .val (.int (((u1 + u0) + (own_f6_0 i4 i5)) + (own_f6_0 i5 i6))), .unset, .unset, .unset, .unset, .unset, .unset] [(.int i4)])) _
    refine st3 _ ?_
    exact kt
  by_cases hc91 : (own_f5_0 i4) = (0 : Int32)
  · have pre5 : ∀ target, Steps p.tables e below (T3.setTop (mkF m 102 #[.val (.int i0), .val (.int i1), .val (.int i2), .val (.int i3), .val (.int i4), .val (.int i5), .val (.int i6), .val (.int i7), .val (.ref a8), .val (.int (u1 + u0)), .val (.int ((u1 + u0) + (own_f6_0 i4 i5))), .val (.int (((u1 + u0) + (own_f6_0 i4 i5)) + (own_f6_0 i5 i6))), .unset, .unset, .unset, .unset, .unset, .unset] [(.int (i7 + (2 : Int32)))])) target → Steps p.tables e below (T0.setTop (mkF m 59 #[.val (.int i0), .val (.int i1), .val (.int i2), .val (.int i3), .val (.int i4), .val (.int i5), .val (.int i6), .val (.int i7), .val (.ref a8), .unset, .unset, .unset, .unset, .unset, .unset, .unset, .unset, .unset] [(.int u0), (.int u1)])) target := by
      intro target kt
      refine pre4 target ?_
      show Steps p.tables e below (T3.setTop (mkF m 91 #[.val (.int i0), .val (.int i1), .val (.int i2), .val (.int i3), .val (.int i4), .val (.int i5), .val (.int i6), .val (.int i7), .val (.ref a8), .val (.int (u1 + u0)), .val (.int ((u1 + u0) + (own_f6_0 i4 i5))), .val (.int (((u1 + u0) + (own_f6_0 i4 i5)) + (own_f6_0 i5 i6))), .unset, .unset, .unset, .unset, .unset, .unset] [(.int (own_f5_0 i4))])) _
      refine XS.ifYes X3.here hx rfl (pc0 := 91) (pc' := 98) rfl (hb hby at_91) rfl ((if0 _ _).trans (teq hc91).1) (by decide) (by decide) ?_
      show Steps p.tables e below (T3.setTop (mkF m 98 #[.val (.int i0), .val (.int i1), .val (.int i2), .val (.int i3), .val (.int i4), .val (.int i5), .val (.int i6), .val (.int i7), .val (.ref a8), .val (.int (u1 + u0)), .val (.int ((u1 + u0) + (own_f6_0 i4 i5))), .val (.int (((u1 + u0) + (own_f6_0 i4 i5)) + (own_f6_0 i5 i6))), .unset, .unset, .unset, .unset, .unset, .unset] [])) _
      refine XS.iload X3.here hx rfl (hb hby at_98) rfl ?_
      show Steps p.tables e below (T3.setTop (mkF m 100 #[.val (.int i0), .val (.int i1), .val (.int i2), .val (.int i3), .val (.int i4), .val (.int i5), .val (.int i6), .val (.int i7), .val (.ref a8), .val (.int (u1 + u0)), .val (.int ((u1 + u0) + (own_f6_0 i4 i5))), .val (.int (((u1 + u0) + (own_f6_0 i4 i5)) + (own_f6_0 i5 i6))), .unset, .unset, .unset, .unset, .unset, .unset] [(.int i7)])) _
      refine XS.iconst X3.here hx rfl (hb hby at_100) ?_
      show Steps p.tables e below (T3.setTop (mkF m 101 #[.val (.int i0), .val (.int i1), .val (.int i2), .val (.int i3), .val (.int i4), .val (.int i5), .val (.int i6), .val (.int i7), .val (.ref a8), .val (.int (u1 + u0)), .val (.int ((u1 + u0) + (own_f6_0 i4 i5))), .val (.int (((u1 + u0) + (own_f6_0 i4 i5)) + (own_f6_0 i5 i6))), .unset, .unset, .unset, .unset, .unset, .unset] [(.int (2 : Int32)), (.int i7)])) _
      refine XS.iadd X3.here hx rfl (hb hby at_101) rfl ?_
      exact kt
    obtain ⟨T6, L6, k6, n6, X6, N6, hk6', hn6, st6⟩ := own_b0_102 hx hZ hw hby hml hown hret i0 i1 i2 i3 i4 i5 i6 i7 a8 (u1 + u0) ((u1 + u0) + (own_f6_0 i4 i5)) (((u1 + u0) + (own_f6_0 i4 i5)) + (own_f6_0 i5 i6)) (i7 + (2 : Int32)) w_line_a8 w_column_a8 w_afterCarriageReturn_a8 X3 e3 N0 Z0 g_a8 E_a8 F_line_a8 F_column_a8 F_afterCarriageReturn_a8 
    have hv : (own_f0_59 i0 i1 i2 i3 i4 i5 i6 i7 u0 u1 w_line_a8 w_column_a8 w_afterCarriageReturn_a8) = (own_f0_102 i0 i1 i2 i3 i4 i5 i6 i7 (u1 + u0) ((u1 + u0) + (own_f6_0 i4 i5)) (((u1 + u0) + (own_f6_0 i4 i5)) + (own_f6_0 i5 i6)) (i7 + (2 : Int32)) w_line_a8 w_column_a8 w_afterCarriageReturn_a8) := by unfold own_f0_59; rw [if_pos hc91]
    exact ⟨T6, L6, k6, n6, X6, N6, hk6', hn6, fun fs hr => pre5 _ (st6 fs (by rw [hv] at hr; exact hr))⟩
  · have pre7 : ∀ target, Steps p.tables e below (T3.setTop (mkF m 102 #[.val (.int i0), .val (.int i1), .val (.int i2), .val (.int i3), .val (.int i4), .val (.int i5), .val (.int i6), .val (.int i7), .val (.ref a8), .val (.int (u1 + u0)), .val (.int ((u1 + u0) + (own_f6_0 i4 i5))), .val (.int (((u1 + u0) + (own_f6_0 i4 i5)) + (own_f6_0 i5 i6))), .unset, .unset, .unset, .unset, .unset, .unset] [(.int (1 : Int32))])) target → Steps p.tables e below (T0.setTop (mkF m 59 #[.val (.int i0), .val (.int i1), .val (.int i2), .val (.int i3), .val (.int i4), .val (.int i5), .val (.int i6), .val (.int i7), .val (.ref a8), .unset, .unset, .unset, .unset, .unset, .unset, .unset, .unset, .unset] [(.int u0), (.int u1)])) target := by
      intro target kt
      refine pre4 target ?_
      show Steps p.tables e below (T3.setTop (mkF m 91 #[.val (.int i0), .val (.int i1), .val (.int i2), .val (.int i3), .val (.int i4), .val (.int i5), .val (.int i6), .val (.int i7), .val (.ref a8), .val (.int (u1 + u0)), .val (.int ((u1 + u0) + (own_f6_0 i4 i5))), .val (.int (((u1 + u0) + (own_f6_0 i4 i5)) + (own_f6_0 i5 i6))), .unset, .unset, .unset, .unset, .unset, .unset] [(.int (own_f5_0 i4))])) _
      refine XS.ifNo X3.here hx rfl (hb hby at_91) rfl ((if0 _ _).trans (feq hc91).1) ?_
      show Steps p.tables e below (T3.setTop (mkF m 94 #[.val (.int i0), .val (.int i1), .val (.int i2), .val (.int i3), .val (.int i4), .val (.int i5), .val (.int i6), .val (.int i7), .val (.ref a8), .val (.int (u1 + u0)), .val (.int ((u1 + u0) + (own_f6_0 i4 i5))), .val (.int (((u1 + u0) + (own_f6_0 i4 i5)) + (own_f6_0 i5 i6))), .unset, .unset, .unset, .unset, .unset, .unset] [])) _
      refine XS.iconst X3.here hx rfl (hb hby at_94) ?_
      show Steps p.tables e below (T3.setTop (mkF m 95 #[.val (.int i0), .val (.int i1), .val (.int i2), .val (.int i3), .val (.int i4), .val (.int i5), .val (.int i6), .val (.int i7), .val (.ref a8), .val (.int (u1 + u0)), .val (.int ((u1 + u0) + (own_f6_0 i4 i5))), .val (.int (((u1 + u0) + (own_f6_0 i4 i5)) + (own_f6_0 i5 i6))), .unset, .unset, .unset, .unset, .unset, .unset] [(.int (1 : Int32))])) _
      refine XS.goto X3.here hx rfl (pc0 := 95) (pc' := 102) rfl (hb hby at_95) (by decide) (by decide) ?_
      exact kt
    obtain ⟨T8, L8, k8, n8, X8, N8, hk8', hn8, st8⟩ := own_b0_102 hx hZ hw hby hml hown hret i0 i1 i2 i3 i4 i5 i6 i7 a8 (u1 + u0) ((u1 + u0) + (own_f6_0 i4 i5)) (((u1 + u0) + (own_f6_0 i4 i5)) + (own_f6_0 i5 i6)) (1 : Int32) w_line_a8 w_column_a8 w_afterCarriageReturn_a8 X3 e3 N0 Z0 g_a8 E_a8 F_line_a8 F_column_a8 F_afterCarriageReturn_a8 
    have hv : (own_f0_59 i0 i1 i2 i3 i4 i5 i6 i7 u0 u1 w_line_a8 w_column_a8 w_afterCarriageReturn_a8) = (own_f0_102 i0 i1 i2 i3 i4 i5 i6 i7 (u1 + u0) ((u1 + u0) + (own_f6_0 i4 i5)) (((u1 + u0) + (own_f6_0 i4 i5)) + (own_f6_0 i5 i6)) (1 : Int32) w_line_a8 w_column_a8 w_afterCarriageReturn_a8) := by unfold own_f0_59; rw [if_neg hc91]
    exact ⟨T8, L8, k8, n8, X8, N8, hk8', hn8, fun fs hr => pre7 _ (st8 fs (by rw [hv] at hr; exact hr))⟩
set_option maxRecDepth 65536 in
set_option maxHeartbeats 40000000 in
theorem own_b0_45 {p : Program} {l : Launch} {e : Env} {s : State} {m : MethodId} {args : Array Value} {below : List Frame} {meth : Method} {c : Code} {Z : State} {a0_ : Array Value} {n0 : Nat} (hx : p.tables.exec = Jvm.exec) (hZ : Z.Warmed39 s.vm) (hw : ∀ d ∈ tables_1, d.before a0_ Z = true) (hby : c.code = code) (hml : c.maxLocals = 18) (hown : s.vm.findClass "com/example/saho/saho/load/LineCounterAdvancePinLaw" = some m.cls) (hret : meth.sig.returnType = some .boolean) {T0 : State} {locs : List Loc} {h0 : Heap} (i0 : Int32) (i1 : Int32) (i2 : Int32) (i3 : Int32) (i4 : Int32) (i5 : Int32) (i6 : Int32) (i7 : Int32) (a8 : Addr) (w_line_a8 : Int32) (w_column_a8 : Int32) (w_afterCarriageReturn_a8 : Int32)
    (X0 : Stand p l e room_1 s m args below meth c T0 locs 1 3) (e0 : T0.heap = h0) (N0 : Fr n0 locs) (Z0 : n0 ≤ h0.size) (g_a8 : n0 ≤ a8) (E_a8 : Exa Z h0 a8 "com/example/saho/saho/load/LineCounter") (F_line_a8 : Fld Z h0 a8 "com/example/saho/saho/load/LineCounter" "line" "I" (.int w_line_a8)) (F_column_a8 : Fld Z h0 a8 "com/example/saho/saho/load/LineCounter" "column" "I" (.int w_column_a8)) (F_afterCarriageReturn_a8 : Fld Z h0 a8 "com/example/saho/saho/load/LineCounter" "afterCarriageReturn" "Z" (.int w_afterCarriageReturn_a8)) :
    ∃ T' locs' cells' slots', Stand p l e room_1 s m args below meth c T' locs' cells' slots' ∧ Fr n0 locs' ∧ cells' ≤ room_1.cells ∧ slots' ≤ room_1.slots ∧ ∀ fs, (∀ (f : JFrame) (acts : List Action), f.method = m → f.locked = none → f.entered = [] → (doReturn e (T'.setTop f) acts (some (.int (own_f0_45 i0 i1 i2 i3 i4 i5 i6 i7 w_line_a8 w_column_a8 w_afterCarriageReturn_a8)))).1 = T'.setFrames fs) → Steps p.tables e below (T0.setTop (mkF m 45 #[.val (.int i0), .val (.int i1), .val (.int i2), .val (.int i3), .val (.int i4), .val (.int i5), .val (.int i6), .val (.int i7), .val (.ref a8), .unset, .unset, .unset, .unset, .unset, .unset, .unset, .unset, .unset] [])) (T'.setFrames fs) := by
  obtain ⟨_, _, ⟨T1, L1, k1, n1⟩, -, X1, ⟨Lc1, hQ1, l1, y1, z1⟩, st1⟩ := Jvm.LawKit.callS X0 hx (y := (⟨"com/example/saho/saho/load/LineCounterAdvancePinLaw", "nl", "(C)Z"⟩ : MethodName)) hown (mvT hZ (hw _ (List.mem_of_getElem? (i := 25) rfl))) (mvT hZ (hw _ (List.mem_of_getElem? (i := 26) rfl))) (mvT hZ (hw _ (List.mem_of_getElem? (i := 2) rfl))) (mvT hZ (hw _ (List.mem_of_getElem? (i := 27) rfl))) (by decide) (backOf (W := 1) (rm5 l Z a0_ hw [] i4  h0 n0 Z0 ) hZ (hw _ (List.mem_of_getElem? (i := 27) rfl)) (hw _ (List.mem_of_getElem? (i := 2) rfl)) (by decide) (by decide)) (g := (mkF m 48 #[.val (.int i0), .val (.int i1), .val (.int i2), .val (.int i3), .val (.int i4), .val (.int i5), .val (.int i6), .val (.int i7), .val (.ref a8), .unset, .unset, .unset, .unset, .unset, .unset, .unset, .unset, .unset] [(.int i4), (.int (1 : Int32))])) rfl (by rw [hml]; rfl) (argsL := [(.int i4)]) (rest := [(.int (1 : Int32))]) (lenOf pd_0_3 rfl) rfl (by show 2 * 0 + _ ≤ _; exact Nat.le_of_eq rfl) (hb hby at_48) (fun _ _ => ⟨rfl, e0, (by decide : 1 + 0 ≤ room_1.cells), (by decide : 3 + 0 ≤ room_1.slots)⟩)
  dsimp only [Pt.U, Pt.locs, Pt.cells, Pt.slots] at X1 l1 y1 z1 st1 hQ1
  subst l1 y1 z1
  obtain ⟨rfl, rfl, e1⟩ := hQ1
  rw [List.append_nil] at X1
  have pre2 : ∀ target, Steps p.tables e below (T1.setTop (mkF m 51 #[.val (.int i0), .val (.int i1), .val (.int i2), .val (.int i3), .val (.int i4), .val (.int i5), .val (.int i6), .val (.int i7), .val (.ref a8), .unset, .unset, .unset, .unset, .unset, .unset, .unset, .unset, .unset] [(.int (own_f5_0 i4)), (.int (1 : Int32))])) target → Steps p.tables e below (T0.setTop (mkF m 45 #[.val (.int i0), .val (.int i1), .val (.int i2), .val (.int i3), .val (.int i4), .val (.int i5), .val (.int i6), .val (.int i7), .val (.ref a8), .unset, .unset, .unset, .unset, .unset, .unset, .unset, .unset, .unset] [])) target := by
    intro target kt
    show Steps p.tables e below (T0.setTop (mkF m 45 #[.val (.int i0), .val (.int i1), .val (.int i2), .val (.int i3), .val (.int i4), .val (.int i5), .val (.int i6), .val (.int i7), .val (.ref a8), .unset, .unset, .unset, .unset, .unset, .unset, .unset, .unset, .unset] [])) _
    refine XS.iconst X0.here hx rfl (hb hby at_45) ?_
    show Steps p.tables e below (T0.setTop (mkF m 46 #[.val (.int i0), .val (.int i1), .val (.int i2), .val (.int i3), .val (.int i4), .val (.int i5), .val (.int i6), .val (.int i7), .val (.ref a8), .unset, .unset, .unset, .unset, .unset, .unset, .unset, .unset, .unset] [(.int (1 : Int32))])) _
    refine XS.iload X0.here hx rfl (hb hby at_46) rfl ?_
    show Steps p.tables e below (T0.setTop (mkF m 48 #[.val (.int i0), .val (.int i1), .val (.int i2), .val (.int i3), .val (.int i4), .val (.int i5), .val (.int i6), .val (.int i7), .val (.ref a8), .unset, .unset, .unset, .unset, .unset, .unset, .unset, .unset, .unset] [(.int i4), (.int (1 : Int32))])) _
    refine st1 _ ?_
    exact kt
  by_cases hc51 : (own_f5_0 i4) = (0 : Int32)
  · have pre3 : ∀ target, Steps p.tables e below (T1.setTop (mkF m 59 #[.val (.int i0), .val (.int i1), .val (.int i2), .val (.int i3), .val (.int i4), .val (.int i5), .val (.int i6), .val (.int i7), .val (.ref a8), .unset, .unset, .unset, .unset, .unset, .unset, .unset, .unset, .unset] [(.int (0 : Int32)), (.int (1 : Int32))])) target → Steps p.tables e below (T0.setTop (mkF m 45 #[.val (.int i0), .val (.int i1), .val (.int i2), .val (.int i3), .val (.int i4), .val (.int i5), .val (.int i6), .val (.int i7), .val (.ref a8), .unset, .unset, .unset, .unset, .unset, .unset, .unset, .unset, .unset] [])) target := by
      intro target kt
      refine pre2 target ?_
      show Steps p.tables e below (T1.setTop (mkF m 51 #[.val (.int i0), .val (.int i1), .val (.int i2), .val (.int i3), .val (.int i4), .val (.int i5), .val (.int i6), .val (.int i7), .val (.ref a8), .unset, .unset, .unset, .unset, .unset, .unset, .unset, .unset, .unset] [(.int (own_f5_0 i4)), (.int (1 : Int32))])) _
      refine XS.ifYes X1.here hx rfl (pc0 := 51) (pc' := 58) rfl (hb hby at_51) rfl ((if0 _ _).trans (teq hc51).1) (by decide) (by decide) ?_
      show Steps p.tables e below (T1.setTop (mkF m 58 #[.val (.int i0), .val (.int i1), .val (.int i2), .val (.int i3), .val (.int i4), .val (.int i5), .val (.int i6), .val (.int i7), .val (.ref a8), .unset, .unset, .unset, .unset, .unset, .unset, .unset, .unset, .unset] [(.int (1 : Int32))])) _
      refine XS.iconst X1.here hx rfl (hb hby at_58) ?_
      exact kt
    obtain ⟨T4, L4, k4, n4, X4, N4, hk4', hn4, st4⟩ := own_b0_59 hx hZ hw hby hml hown hret i0 i1 i2 i3 i4 i5 i6 i7 a8 (0 : Int32) (1 : Int32) w_line_a8 w_column_a8 w_afterCarriageReturn_a8 X1 e1 N0 Z0 g_a8 E_a8 F_line_a8 F_column_a8 F_afterCarriageReturn_a8 
    have hv : (own_f0_45 i0 i1 i2 i3 i4 i5 i6 i7 w_line_a8 w_column_a8 w_afterCarriageReturn_a8) = (own_f0_59 i0 i1 i2 i3 i4 i5 i6 i7 (0 : Int32) (1 : Int32) w_line_a8 w_column_a8 w_afterCarriageReturn_a8) := by unfold own_f0_45; rw [if_pos hc51]
    exact ⟨T4, L4, k4, n4, X4, N4, hk4', hn4, fun fs hr => pre3 _ (st4 fs (by rw [hv] at hr; exact hr))⟩
  · have pre5 : ∀ target, Steps p.tables e below (T1.setTop (mkF m 59 #[.val (.int i0), .val (.int i1), .val (.int i2), .val (.int i3), .val (.int i4), .val (.int i5), .val (.int i6), .val (.int i7), .val (.ref a8), .unset, .unset, .unset, .unset, .unset, .unset, .unset, .unset, .unset] [(.int (1 : Int32)), (.int (1 : Int32))])) target → Steps p.tables e below (T0.setTop (mkF m 45 #[.val (.int i0), .val (.int i1), .val (.int i2), .val (.int i3), .val (.int i4), .val (.int i5), .val (.int i6), .val (.int i7), .val (.ref a8), .unset, .unset, .unset, .unset, .unset, .unset, .unset, .unset, .unset] [])) target := by
      intro target kt
      refine pre2 target ?_
      show Steps p.tables e below (T1.setTop (mkF m 51 #[.val (.int i0), .val (.int i1), .val (.int i2), .val (.int i3), .val (.int i4), .val (.int i5), .val (.int i6), .val (.int i7), .val (.ref a8), .unset, .unset, .unset, .unset, .unset, .unset, .unset, .unset, .unset] [(.int (own_f5_0 i4)), (.int (1 : Int32))])) _
      refine XS.ifNo X1.here hx rfl (hb hby at_51) rfl ((if0 _ _).trans (feq hc51).1) ?_
      show Steps p.tables e below (T1.setTop (mkF m 54 #[.val (.int i0), .val (.int i1), .val (.int i2), .val (.int i3), .val (.int i4), .val (.int i5), .val (.int i6), .val (.int i7), .val (.ref a8), .unset, .unset, .unset, .unset, .unset, .unset, .unset, .unset, .unset] [(.int (1 : Int32))])) _
      refine XS.iconst X1.here hx rfl (hb hby at_54) ?_
      show Steps p.tables e below (T1.setTop (mkF m 55 #[.val (.int i0), .val (.int i1), .val (.int i2), .val (.int i3), .val (.int i4), .val (.int i5), .val (.int i6), .val (.int i7), .val (.ref a8), .unset, .unset, .unset, .unset, .unset, .unset, .unset, .unset, .unset] [(.int (1 : Int32)), (.int (1 : Int32))])) _
      refine XS.goto X1.here hx rfl (pc0 := 55) (pc' := 59) rfl (hb hby at_55) (by decide) (by decide) ?_
      exact kt
    obtain ⟨T6, L6, k6, n6, X6, N6, hk6', hn6, st6⟩ := own_b0_59 hx hZ hw hby hml hown hret i0 i1 i2 i3 i4 i5 i6 i7 a8 (1 : Int32) (1 : Int32) w_line_a8 w_column_a8 w_afterCarriageReturn_a8 X1 e1 N0 Z0 g_a8 E_a8 F_line_a8 F_column_a8 F_afterCarriageReturn_a8 
    have hv : (own_f0_45 i0 i1 i2 i3 i4 i5 i6 i7 w_line_a8 w_column_a8 w_afterCarriageReturn_a8) = (own_f0_59 i0 i1 i2 i3 i4 i5 i6 i7 (1 : Int32) (1 : Int32) w_line_a8 w_column_a8 w_afterCarriageReturn_a8) := by unfold own_f0_45; rw [if_neg hc51]
    exact ⟨T6, L6, k6, n6, X6, N6, hk6', hn6, fun fs hr => pre5 _ (st6 fs (by rw [hv] at hr; exact hr))⟩
set_option maxRecDepth 65536 in
set_option maxHeartbeats 40000000 in
theorem own_b0_0 {p : Program} {l : Launch} {e : Env} {s : State} {m : MethodId} {args : Array Value} {below : List Frame} {meth : Method} {c : Code} {Z : State} {a0_ : Array Value} {n0 : Nat} (hx : p.tables.exec = Jvm.exec) (hZ : Z.Warmed39 s.vm) (hw : ∀ d ∈ tables_1, d.before a0_ Z = true) (hby : c.code = code) (hml : c.maxLocals = 18) (hown : s.vm.findClass "com/example/saho/saho/load/LineCounterAdvancePinLaw" = some m.cls) (hret : meth.sig.returnType = some .boolean) {T0 : State} {locs : List Loc} {h0 : Heap} (i0 : Int32) (i1 : Int32) (i2 : Int32) (i3 : Int32)
    (X0 : Stand p l e room_1 s m args below meth c T0 locs 0 0) (e0 : T0.heap = h0) (N0 : Fr n0 locs) (Z0 : n0 ≤ h0.size)  :
    ∃ T' locs' cells' slots', Stand p l e room_1 s m args below meth c T' locs' cells' slots' ∧ Fr n0 locs' ∧ cells' ≤ room_1.cells ∧ slots' ≤ room_1.slots ∧ ∀ fs, (∀ (f : JFrame) (acts : List Action), f.method = m → f.locked = none → f.entered = [] → (doReturn e (T'.setTop f) acts (some (.int (own_f0_0 i0 i1 i2 i3)))).1 = T'.setFrames fs) → Steps p.tables e below (T0.setTop (mkF m 0 #[.val (.int i0), .val (.int i1), .val (.int i2), .val (.int i3), .unset, .unset, .unset, .unset, .unset, .unset, .unset, .unset, .unset, .unset, .unset, .unset, .unset, .unset] [])) (T'.setFrames fs) := by
  obtain ⟨_, _, ⟨T1, L1, k1, n1⟩, -, X1, ⟨Lc1, hQ1, l1, y1, z1⟩, st1⟩ := Jvm.LawKit.callS X0 hx (y := (⟨"com/example/saho/saho/load/LineCounterAdvancePinLaw", "pick", "(I)C"⟩ : MethodName)) hown (mvT hZ (hw _ (List.mem_of_getElem? (i := 0) rfl))) (mvT hZ (hw _ (List.mem_of_getElem? (i := 1) rfl))) (mvT hZ (hw _ (List.mem_of_getElem? (i := 2) rfl))) (mvT hZ (hw _ (List.mem_of_getElem? (i := 3) rfl))) (by decide) (backOf (W := 0) (rm1 l Z a0_ hw [] i0  h0 n0 Z0 ) hZ (hw _ (List.mem_of_getElem? (i := 3) rfl)) (hw _ (List.mem_of_getElem? (i := 2) rfl)) (by decide) (by decide)) (g := (mkF m 1 #[.val (.int i0), .val (.int i1), .val (.int i2), .val (.int i3), .unset, .unset, .unset, .unset, .unset, .unset, .unset, .unset, .unset, .unset, .unset, .unset, .unset, .unset] [(.int i0)])) rfl (by rw [hml]; rfl) (argsL := [(.int i0)]) (rest := []) (lenOf pd_0_0 rfl) rfl (by show 2 * 0 + _ ≤ _; exact Nat.le_of_eq rfl) (hb hby at_1) (fun _ _ => ⟨rfl, e0, (by decide : 0 + 0 ≤ room_1.cells), (by decide : 0 + 0 ≤ room_1.slots)⟩)
  dsimp only [Pt.U, Pt.locs, Pt.cells, Pt.slots] at X1 l1 y1 z1 st1 hQ1
  subst l1 y1 z1
  obtain ⟨rfl, rfl, e1⟩ := hQ1
  rw [List.append_nil] at X1
  obtain ⟨_, _, ⟨T2, L2, k2, n2⟩, -, X2, ⟨Lc2, hQ2, l2, y2, z2⟩, st2⟩ := Jvm.LawKit.callS X1 hx (y := (⟨"com/example/saho/saho/load/LineCounterAdvancePinLaw", "pick", "(I)C"⟩ : MethodName)) hown (mvT hZ (hw _ (List.mem_of_getElem? (i := 0) rfl))) (mvT hZ (hw _ (List.mem_of_getElem? (i := 1) rfl))) (mvT hZ (hw _ (List.mem_of_getElem? (i := 2) rfl))) (mvT hZ (hw _ (List.mem_of_getElem? (i := 3) rfl))) (by decide) (backOf (W := 0) (rm1 l Z a0_ hw [] i1  h0 n0 Z0 ) hZ (hw _ (List.mem_of_getElem? (i := 3) rfl)) (hw _ (List.mem_of_getElem? (i := 2) rfl)) (by decide) (by decide)) (g := (mkF m 7 #[.val (.int i0), .val (.int i1), .val (.int i2), .val (.int i3), .val (.int (own_f1_0 i0)), .unset, .unset, .unset, .unset, .unset, .unset, .unset, .unset, .unset, .unset, .unset, .unset, .unset] [(.int i1)])) rfl (by rw [hml]; rfl) (argsL := [(.int i1)]) (rest := []) (lenOf pd_0_0 rfl) rfl (by show 2 * 0 + _ ≤ _; exact Nat.le_of_eq rfl) (hb hby at_7) (fun _ _ => ⟨rfl, e1, (by decide : 0 + 0 ≤ room_1.cells), (by decide : 0 + 0 ≤ room_1.slots)⟩)
  dsimp only [Pt.U, Pt.locs, Pt.cells, Pt.slots] at X2 l2 y2 z2 st2 hQ2
  subst l2 y2 z2
  obtain ⟨rfl, rfl, e2⟩ := hQ2
  rw [List.append_nil] at X2
  obtain ⟨_, _, ⟨T3, L3, k3, n3⟩, -, X3, ⟨Lc3, hQ3, l3, y3, z3⟩, st3⟩ := Jvm.LawKit.callS X2 hx (y := (⟨"com/example/saho/saho/load/LineCounterAdvancePinLaw", "pick", "(I)C"⟩ : MethodName)) hown (mvT hZ (hw _ (List.mem_of_getElem? (i := 0) rfl))) (mvT hZ (hw _ (List.mem_of_getElem? (i := 1) rfl))) (mvT hZ (hw _ (List.mem_of_getElem? (i := 2) rfl))) (mvT hZ (hw _ (List.mem_of_getElem? (i := 3) rfl))) (by decide) (backOf (W := 0) (rm1 l Z a0_ hw [] i2  h0 n0 Z0 ) hZ (hw _ (List.mem_of_getElem? (i := 3) rfl)) (hw _ (List.mem_of_getElem? (i := 2) rfl)) (by decide) (by decide)) (g := (mkF m 13 #[.val (.int i0), .val (.int i1), .val (.int i2), .val (.int i3), .val (.int (own_f1_0 i0)), .val (.int (own_f1_0 i1)), .unset, .unset, .unset, .unset, .unset, .unset, .unset, .unset, .unset, .unset, .unset, .unset] [(.int i2)])) rfl (by rw [hml]; rfl) (argsL := [(.int i2)]) (rest := []) (lenOf pd_0_0 rfl) rfl (by show 2 * 0 + _ ≤ _; exact Nat.le_of_eq rfl) (hb hby at_13) (fun _ _ => ⟨rfl, e2, (by decide : 0 + 0 ≤ room_1.cells), (by decide : 0 + 0 ≤ room_1.slots)⟩)
  dsimp only [Pt.U, Pt.locs, Pt.cells, Pt.slots] at X3 l3 y3 z3 st3 hQ3
  subst l3 y3 z3
  obtain ⟨rfl, rfl, e3⟩ := hQ3
  rw [List.append_nil] at X3
  obtain ⟨T4, h4, X4, e4, E4, A4, D4, -, st4⟩ := newO X3 hx hZ hown (hw _ (List.mem_of_getElem? (i := 5) rfl)) (hw _ (List.mem_of_getElem? (i := 6) rfl)) (hw _ (List.mem_of_getElem? (i := 7) rfl)) e3 (g := (mkF m 24 #[.val (.int i0), .val (.int i1), .val (.int i2), .val (.int i3), .val (.int (own_f1_0 i0)), .val (.int (own_f1_0 i1)), .val (.int (own_f1_0 i2)), .val (.int (i3 &&& (65535 : Int32))), .unset, .unset, .unset, .unset, .unset, .unset, .unset, .unset, .unset, .unset] [])) rfl (hb hby at_24) (by decide) (by decide)
  obtain ⟨b4, g4⟩ : ∃ z, z = h0.size := ⟨_, rfl⟩
  rw [← g4] at A4 D4 st4
  have g_b4 : n0 ≤ b4 := Nat.le_trans Z0 (Nat.le_of_eq g4.symm)
  have Z4 : n0 ≤ h4.size := Nat.le_trans Z0 E4.1
  have F_line_b4 : Fld Z h4 b4 "com/example/saho/saho/load/LineCounter" "line" "I" (.int (0 : Int32)) := D4 (Or.inl (hw _ (List.mem_of_getElem? (i := 15) rfl))) (ty := .int) (by decide)
  have F_column_b4 : Fld Z h4 b4 "com/example/saho/saho/load/LineCounter" "column" "I" (.int (0 : Int32)) := D4 (Or.inl (hw _ (List.mem_of_getElem? (i := 22) rfl))) (ty := .int) (by decide)
  have F_afterCarriageReturn_b4 : Fld Z h4 b4 "com/example/saho/saho/load/LineCounter" "afterCarriageReturn" "Z" (.int (0 : Int32)) := D4 (Or.inl (hw _ (List.mem_of_getElem? (i := 24) rfl))) (ty := .boolean) (by decide)
  obtain ⟨_, _, ⟨T5, L5, k5, n5⟩, -, X5, ⟨Lc5, hQ5, l5, y5, z5⟩, st5⟩ := X4.specialBack hx (y := (⟨"com/example/saho/saho/load/LineCounter", "<init>", "()V"⟩ : MethodName)) rfl hown (mvT hZ (hw _ (List.mem_of_getElem? (i := 8) rfl))) (mvT hZ (hw _ (List.mem_of_getElem? (i := 9) rfl))) (mvT hZ (hw _ (List.mem_of_getElem? (i := 10) rfl))) (by decide) (backOf (W := 1) (rm2 l Z a0_ hw [] b4 (0 : Int32) (0 : Int32) (0 : Int32) h4 n0 Z4 A4 g_b4 F_line_b4 F_column_b4 F_afterCarriageReturn_b4) hZ (hw _ (List.mem_of_getElem? (i := 10) rfl)) (hw _ (List.mem_of_getElem? (i := 7) rfl)) (by decide) (by decide)) (g := (mkF m 28 #[.val (.int i0), .val (.int i1), .val (.int i2), .val (.int i3), .val (.int (own_f1_0 i0)), .val (.int (own_f1_0 i1)), .val (.int (own_f1_0 i2)), .val (.int (i3 &&& (65535 : Int32))), .unset, .unset, .unset, .unset, .unset, .unset, .unset, .unset, .unset, .unset] [(.ref b4), (.ref b4)])) rfl (by rw [hml]; rfl) (Steps.refl _) (a := b4) (argsL := []) (rest := [(.ref b4)]) (lenOf pd_0_1 rfl) rfl (by show 2 * 0 + _ ≤ _; exact Nat.le_of_eq rfl) (hb hby at_28) (fun _ _ => ⟨rfl, e4, (by decide : 1 + 0 ≤ room_1.cells), (by decide : 3 + 0 ≤ room_1.slots)⟩)
  dsimp only [Pt.U, Pt.locs, Pt.cells, Pt.slots] at X5 l5 y5 z5 st5 hQ5
  subst l5 y5 z5
  obtain ⟨rfl, Nq5, Kq5, Eq5, Gq5_line, Gq5_column, Gq5_afterCarriageReturn⟩ := hQ5
  have N5 := Fr.app N0 Nq5
  have Z5 : n0 ≤ T5.heap.size := Nat.le_trans Z4 Kq5.1
  have A4_k5 := Eq5
  have F_line_b4_k5 := Gq5_line
  have F_column_b4_k5 := Gq5_column
  have F_afterCarriageReturn_b4_k5 := Gq5_afterCarriageReturn
  have pre6 : ∀ target, Steps p.tables e below (T5.setTop (mkF m 35 #[.val (.int i0), .val (.int i1), .val (.int i2), .val (.int i3), .val (.int (own_f1_0 i0)), .val (.int (own_f1_0 i1)), .val (.int (own_f1_0 i2)), .val (.int (i3 &&& (65535 : Int32))), .val (.ref b4), .unset, .unset, .unset, .unset, .unset, .unset, .unset, .unset, .unset] [(.int (i3 &&& (65535 : Int32)))])) target → Steps p.tables e below (T0.setTop (mkF m 0 #[.val (.int i0), .val (.int i1), .val (.int i2), .val (.int i3), .unset, .unset, .unset, .unset, .unset, .unset, .unset, .unset, .unset, .unset, .unset, .unset, .unset, .unset] [])) target := by
    intro target kt
    show Steps p.tables e below (T0.setTop (mkF m 0 #[.val (.int i0), .val (.int i1), .val (.int i2), .val (.int i3), .unset, .unset, .unset, .unset, .unset, .unset, .unset, .unset, .unset, .unset, .unset, .unset, .unset, .unset] [])) _
    refine XS.iloadN X0.here hx rfl (hb hby at_0) rfl ?_
    show Steps p.tables e below (T0.setTop (mkF m 1 #[.val (.int i0), .val (.int i1), .val (.int i2), .val (.int i3), .unset, .unset, .unset, .unset, .unset, .unset, .unset, .unset, .unset, .unset, .unset, .unset, .unset, .unset] [(.int i0)])) _
    refine st1 _ ?_
    show Steps p.tables e below (T1.setTop (mkF m 4 #[.val (.int i0), .val (.int i1), .val (.int i2), .val (.int i3), .unset, .unset, .unset, .unset, .unset, .unset, .unset, .unset, .unset, .unset, .unset, .unset, .unset, .unset] [(.int (own_f1_0 i0))])) _
    refine XS.istore X1.here hx rfl (hb hby at_4) rfl (l' := #[.val (.int i0), .val (.int i1), .val (.int i2), .val (.int i3), .val (.int (own_f1_0 i0)), .unset, .unset, .unset, .unset, .unset, .unset, .unset, .unset, .unset, .unset, .unset, .unset, .unset]) rfl ?_
    show Steps p.tables e below (T1.setTop (mkF m 6 #[.val (.int i0), .val (.int i1), .val (.int i2), .val (.int i3), .val (.int (own_f1_0 i0)), .unset, .unset, .unset, .unset, .unset, .unset, .unset, .unset, .unset, .unset, .unset, .unset, .unset] [])) _
    refine XS.iloadN X1.here hx rfl (hb hby at_6) rfl ?_
    show Steps p.tables e below (T1.setTop (mkF m 7 #[.val (.int i0), .val (.int i1), .val (.int i2), .val (.int i3), .val (.int (own_f1_0 i0)), .unset, .unset, .unset, .unset, .unset, .unset, .unset, .unset, .unset, .unset, .unset, .unset, .unset] [(.int i1)])) _
    refine st2 _ ?_
    show Steps p.tables e below (T2.setTop (mkF m 10 #[.val (.int i0), .val (.int i1), .val (.int i2), .val (.int i3), .val (.int (own_f1_0 i0)), .unset, .unset, .unset, .unset, .unset, .unset, .unset, .unset, .unset, .unset, .unset, .unset, .unset] [(.int (own_f1_0 i1))])) _
    refine XS.istore X2.here hx rfl (hb hby at_10) rfl (l' := #[.val (.int i0), .val (.int i1), .val (.int i2), .val (.int i3), .val (.int (own_f1_0 i0)), .val (.int (own_f1_0 i1)), .unset, .unset, .unset, .unset, .unset, .unset, .unset, .unset, .unset, .unset, .unset, .unset]) rfl ?_
    show Steps p.tables e below (T2.setTop (mkF m 12 #[.val (.int i0), .val (.int i1), .val (.int i2), .val (.int i3), .val (.int (own_f1_0 i0)), .val (.int (own_f1_0 i1)), .unset, .unset, .unset, .unset, .unset, .unset, .unset, .unset, .unset, .unset, .unset, .unset] [])) _
    refine XS.iloadN X2.here hx rfl (hb hby at_12) rfl ?_
    show Steps p.tables e below (T2.setTop (mkF m 13 #[.val (.int i0), .val (.int i1), .val (.int i2), .val (.int i3), .val (.int (own_f1_0 i0)), .val (.int (own_f1_0 i1)), .unset, .unset, .unset, .unset, .unset, .unset, .unset, .unset, .unset, .unset, .unset, .unset] [(.int i2)])) _
    refine st3 _ ?_
    show Steps p.tables e below (T3.setTop (mkF m 16 #[.val (.int i0), .val (.int i1), .val (.int i2), .val (.int i3), .val (.int (own_f1_0 i0)), .val (.int (own_f1_0 i1)), .unset, .unset, .unset, .unset, .unset, .unset, .unset, .unset, .unset, .unset, .unset, .unset] [(.int (own_f1_0 i2))])) _
    refine XS.istore X3.here hx rfl (hb hby at_16) rfl (l' := #[.val (.int i0), .val (.int i1), .val (.int i2), .val (.int i3), .val (.int (own_f1_0 i0)), .val (.int (own_f1_0 i1)), .val (.int (own_f1_0 i2)), .unset, .unset, .unset, .unset, .unset, .unset, .unset, .unset, .unset, .unset, .unset]) rfl ?_
    show Steps p.tables e below (T3.setTop (mkF m 18 #[.val (.int i0), .val (.int i1), .val (.int i2), .val (.int i3), .val (.int (own_f1_0 i0)), .val (.int (own_f1_0 i1)), .val (.int (own_f1_0 i2)), .unset, .unset, .unset, .unset, .unset, .unset, .unset, .unset, .unset, .unset, .unset] [])) _
    refine XS.iloadN X3.here hx rfl (hb hby at_18) rfl ?_
    show Steps p.tables e below (T3.setTop (mkF m 19 #[.val (.int i0), .val (.int i1), .val (.int i2), .val (.int i3), .val (.int (own_f1_0 i0)), .val (.int (own_f1_0 i1)), .val (.int (own_f1_0 i2)), .unset, .unset, .unset, .unset, .unset, .unset, .unset, .unset, .unset, .unset, .unset] [(.int i3)])) _
    refine X3.ldcInt hx hown (mvT hZ (hw _ (List.mem_of_getElem? (i := 4) rfl))) (g := (mkF m 19 #[.val (.int i0), .val (.int i1), .val (.int i2), .val (.int i3), .val (.int (own_f1_0 i0)), .val (.int (own_f1_0 i1)), .val (.int (own_f1_0 i2)), .unset, .unset, .unset, .unset, .unset, .unset, .unset, .unset, .unset, .unset, .unset] [(.int i3)])) rfl (hb hby at_19) _ ?_
    show Steps p.tables e below (T3.setTop (mkF m 21 #[.val (.int i0), .val (.int i1), .val (.int i2), .val (.int i3), .val (.int (own_f1_0 i0)), .val (.int (own_f1_0 i1)), .val (.int (own_f1_0 i2)), .unset, .unset, .unset, .unset, .unset, .unset, .unset, .unset, .unset, .unset, .unset] [(.int (65535 : Int32)), (.int i3)])) _
    refine XS.iand X3.here hx rfl (hb hby at_21) rfl ?_
    show Steps p.tables e below (T3.setTop (mkF m 22 #[.val (.int i0), .val (.int i1), .val (.int i2), .val (.int i3), .val (.int (own_f1_0 i0)), .val (.int (own_f1_0 i1)), .val (.int (own_f1_0 i2)), .unset, .unset, .unset, .unset, .unset, .unset, .unset, .unset, .unset, .unset, .unset] [(.int (i3 &&& (65535 : Int32)))])) _
    refine XS.istore X3.here hx rfl (hb hby at_22) rfl (l' := #[.val (.int i0), .val (.int i1), .val (.int i2), .val (.int i3), .val (.int (own_f1_0 i0)), .val (.int (own_f1_0 i1)), .val (.int (own_f1_0 i2)), .val (.int (i3 &&& (65535 : Int32))), .unset, .unset, .unset, .unset, .unset, .unset, .unset, .unset, .unset, .unset]) rfl ?_
    show Steps p.tables e below (T3.setTop (mkF m 24 #[.val (.int i0), .val (.int i1), .val (.int i2), .val (.int i3), .val (.int (own_f1_0 i0)), .val (.int (own_f1_0 i1)), .val (.int (own_f1_0 i2)), .val (.int (i3 &&& (65535 : Int32))), .unset, .unset, .unset, .unset, .unset, .unset, .unset, .unset, .unset, .unset] [])) _
    refine st4 _ ?_
    show Steps p.tables e below (T4.setTop (mkF m 27 #[.val (.int i0), .val (.int i1), .val (.int i2), .val (.int i3), .val (.int (own_f1_0 i0)), .val (.int (own_f1_0 i1)), .val (.int (own_f1_0 i2)), .val (.int (i3 &&& (65535 : Int32))), .unset, .unset, .unset, .unset, .unset, .unset, .unset, .unset, .unset, .unset] [(.ref b4)])) _
    refine XS.dup X4.here hx rfl (hb hby at_27) rfl rfl ?_
    show Steps p.tables e below (T4.setTop (mkF m 28 #[.val (.int i0), .val (.int i1), .val (.int i2), .val (.int i3), .val (.int (own_f1_0 i0)), .val (.int (own_f1_0 i1)), .val (.int (own_f1_0 i2)), .val (.int (i3 &&& (65535 : Int32))), .unset, .unset, .unset, .unset, .unset, .unset, .unset, .unset, .unset, .unset] [(.ref b4), (.ref b4)])) _
    refine st5.trans ?_
    show Steps p.tables e below (T5.setTop (mkF m 31 #[.val (.int i0), .val (.int i1), .val (.int i2), .val (.int i3), .val (.int (own_f1_0 i0)), .val (.int (own_f1_0 i1)), .val (.int (own_f1_0 i2)), .val (.int (i3 &&& (65535 : Int32))), .unset, .unset, .unset, .unset, .unset, .unset, .unset, .unset, .unset, .unset] [(.ref b4)])) _
    refine XS.astore X5.here hx rfl (hb hby at_31) rfl rfl (l' := #[.val (.int i0), .val (.int i1), .val (.int i2), .val (.int i3), .val (.int (own_f1_0 i0)), .val (.int (own_f1_0 i1)), .val (.int (own_f1_0 i2)), .val (.int (i3 &&& (65535 : Int32))), .val (.ref b4), .unset, .unset, .unset, .unset, .unset, .unset, .unset, .unset, .unset]) rfl ?_
    show Steps p.tables e below (T5.setTop (mkF m 33 #[.val (.int i0), .val (.int i1), .val (.int i2), .val (.int i3), .val (.int (own_f1_0 i0)), .val (.int (own_f1_0 i1)), .val (.int (own_f1_0 i2)), .val (.int (i3 &&& (65535 : Int32))), .val (.ref b4), .unset, .unset, .unset, .unset, .unset, .unset, .unset, .unset, .unset] [])) _
    refine XS.iload X5.here hx rfl (hb hby at_33) rfl ?_
    exact kt
  by_cases hc35 : (0 : Int32) < (i3 &&& (65535 : Int32))
  · obtain ⟨cq7, kq7, q7a, q7b, q7c⟩ := isOf hZ rfl A4_k5
    obtain ⟨_, _, ⟨T7, L7, k7, n7⟩, -, X7, ⟨Lc7, hQ7, l7, y7, z7⟩, st7⟩ := X5.virtualBack hx (y := (⟨"com/example/saho/saho/load/LineCounter", "advanceWithinLine", "(I)V"⟩ : MethodName)) (z := (⟨"com/example/saho/saho/load/LineCounter", "advanceWithinLine", "(I)V"⟩ : MethodName)) hown (mvT hZ (hw _ (List.mem_of_getElem? (i := 16) rfl))) (mvT hZ (hw _ (List.mem_of_getElem? (i := 17) rfl))) (notFace_of_selects (args := #[]) (mvT hZ (hw _ (List.mem_of_getElem? (i := 19) rfl)))) (mvT hZ (hw _ (List.mem_of_getElem? (i := 19) rfl))) (mvT hZ (hw _ (List.mem_of_getElem? (i := 18) rfl))) (by decide) (backOf (W := 0) (rm4 l Z a0_ hw [] b4 (i3 &&& (65535 : Int32)) (own_o2_line (0 : Int32) (0 : Int32) (0 : Int32)) (0 : Int32) (0 : Int32) T5.heap n0 Z5 A4_k5 g_b4 F_line_b4_k5 F_column_b4_k5 F_afterCarriageReturn_b4_k5) hZ (hw _ (List.mem_of_getElem? (i := 20) rfl)) (hw _ (List.mem_of_getElem? (i := 7) rfl)) (by decide) (by decide)) q7a q7c (g := (mkF m 42 #[.val (.int i0), .val (.int i1), .val (.int i2), .val (.int i3), .val (.int (own_f1_0 i0)), .val (.int (own_f1_0 i1)), .val (.int (own_f1_0 i2)), .val (.int (i3 &&& (65535 : Int32))), .val (.ref b4), .unset, .unset, .unset, .unset, .unset, .unset, .unset, .unset, .unset] [(.int (i3 &&& (65535 : Int32))), (.ref b4)])) rfl (by rw [hml]; rfl) (Steps.refl _) (argsL := [(.int (i3 &&& (65535 : Int32)))]) (rest := []) (lenOf pd_0_2 rfl) rfl (by show 2 * 0 + _ ≤ _; exact Nat.le_of_eq rfl) (hb hby at_42) (fun _ _ => ⟨rfl, rfl, (by decide : 1 + 0 ≤ room_1.cells), (by decide : 3 + 0 ≤ room_1.slots)⟩)
    dsimp only [Pt.U, Pt.locs, Pt.cells, Pt.slots] at X7 l7 y7 z7 st7 hQ7
    subst l7 y7 z7
    obtain ⟨rfl, Nq7, Kq7, Eq7, Gq7_line, Gq7_column, Gq7_afterCarriageReturn⟩ := hQ7
    have N7 := Fr.app N5 Nq7
    have Z7 : n0 ≤ T7.heap.size := Nat.le_trans Z5 Kq7.1
    have A4_k7 := Eq7
    have F_line_b4_k7 := Gq7_line
    have F_column_b4_k7 := Gq7_column
    have F_afterCarriageReturn_b4_k7 := Gq7_afterCarriageReturn
    have pre8 : ∀ target, Steps p.tables e below (T7.setTop (mkF m 45 #[.val (.int i0), .val (.int i1), .val (.int i2), .val (.int i3), .val (.int (own_f1_0 i0)), .val (.int (own_f1_0 i1)), .val (.int (own_f1_0 i2)), .val (.int (i3 &&& (65535 : Int32))), .val (.ref b4), .unset, .unset, .unset, .unset, .unset, .unset, .unset, .unset, .unset] [])) target → Steps p.tables e below (T0.setTop (mkF m 0 #[.val (.int i0), .val (.int i1), .val (.int i2), .val (.int i3), .unset, .unset, .unset, .unset, .unset, .unset, .unset, .unset, .unset, .unset, .unset, .unset, .unset, .unset] [])) target := by
      intro target kt
      refine pre6 target ?_
      show Steps p.tables e below (T5.setTop (mkF m 35 #[.val (.int i0), .val (.int i1), .val (.int i2), .val (.int i3), .val (.int (own_f1_0 i0)), .val (.int (own_f1_0 i1)), .val (.int (own_f1_0 i2)), .val (.int (i3 &&& (65535 : Int32))), .val (.ref b4), .unset, .unset, .unset, .unset, .unset, .unset, .unset, .unset, .unset] [(.int (i3 &&& (65535 : Int32)))])) _
      refine XS.ifNo X5.here hx rfl (hb hby at_35) rfl ((if0 _ _).trans (tlt hc35).2.2.2) ?_
      show Steps p.tables e below (T5.setTop (mkF m 38 #[.val (.int i0), .val (.int i1), .val (.int i2), .val (.int i3), .val (.int (own_f1_0 i0)), .val (.int (own_f1_0 i1)), .val (.int (own_f1_0 i2)), .val (.int (i3 &&& (65535 : Int32))), .val (.ref b4), .unset, .unset, .unset, .unset, .unset, .unset, .unset, .unset, .unset] [])) _
      refine XS.aload X5.here hx rfl (hb hby at_38) rfl rfl ?_
      show Steps p.tables e below (T5.setTop (mkF m 40 #[.val (.int i0), .val (.int i1), .val (.int i2), .val (.int i3), .val (.int (own_f1_0 i0)), .val (.int (own_f1_0 i1)), .val (.int (own_f1_0 i2)), .val (.int (i3 &&& (65535 : Int32))), .val (.ref b4), .unset, .unset, .unset, .unset, .unset, .unset, .unset, .unset, .unset] [(.ref b4)])) _
      refine XS.iload X5.here hx rfl (hb hby at_40) rfl ?_
      show Steps p.tables e below (T5.setTop (mkF m 42 #[.val (.int i0), .val (.int i1), .val (.int i2), .val (.int i3), .val (.int (own_f1_0 i0)), .val (.int (own_f1_0 i1)), .val (.int (own_f1_0 i2)), .val (.int (i3 &&& (65535 : Int32))), .val (.ref b4), .unset, .unset, .unset, .unset, .unset, .unset, .unset, .unset, .unset] [(.int (i3 &&& (65535 : Int32))), (.ref b4)])) _
      refine st7.trans ?_
      exact kt
    obtain ⟨T9, L9, k9, n9, X9, N9, hk9', hn9, st9⟩ := own_b0_45 hx hZ hw hby hml hown hret i0 i1 i2 i3 (own_f1_0 i0) (own_f1_0 i1) (own_f1_0 i2) (i3 &&& (65535 : Int32)) b4 (own_o2_line (0 : Int32) (0 : Int32) (0 : Int32)) (own_o4_column (i3 &&& (65535 : Int32)) (own_o2_line (0 : Int32) (0 : Int32) (0 : Int32)) (0 : Int32) (0 : Int32)) (own_o4_afterCarriageReturn (i3 &&& (65535 : Int32)) (own_o2_line (0 : Int32) (0 : Int32) (0 : Int32)) (0 : Int32) (0 : Int32)) X7 rfl N7 Z7 g_b4 A4_k7 F_line_b4_k7 F_column_b4_k7 F_afterCarriageReturn_b4_k7 
    have hv : (own_f0_0 i0 i1 i2 i3) = (own_f0_45 i0 i1 i2 i3 (own_f1_0 i0) (own_f1_0 i1) (own_f1_0 i2) (i3 &&& (65535 : Int32)) (own_o2_line (0 : Int32) (0 : Int32) (0 : Int32)) (own_o4_column (i3 &&& (65535 : Int32)) (own_o2_line (0 : Int32) (0 : Int32) (0 : Int32)) (0 : Int32) (0 : Int32)) (own_o4_afterCarriageReturn (i3 &&& (65535 : Int32)) (own_o2_line (0 : Int32) (0 : Int32) (0 : Int32)) (0 : Int32) (0 : Int32))) := by unfold own_f0_0; rw [if_pos hc35]
    exact ⟨T9, L9, k9, n9, X9, N9, hk9', hn9, fun fs hr => pre8 _ (st9 fs (by rw [hv] at hr; exact hr))⟩
  · have pre10 : ∀ target, Steps p.tables e below (T5.setTop (mkF m 45 #[.val (.int i0), .val (.int i1), .val (.int i2), .val (.int i3), .val (.int (own_f1_0 i0)), .val (.int (own_f1_0 i1)), .val (.int (own_f1_0 i2)), .val (.int (i3 &&& (65535 : Int32))), .val (.ref b4), .unset, .unset, .unset, .unset, .unset, .unset, .unset, .unset, .unset] [])) target → Steps p.tables e below (T0.setTop (mkF m 0 #[.val (.int i0), .val (.int i1), .val (.int i2), .val (.int i3), .unset, .unset, .unset, .unset, .unset, .unset, .unset, .unset, .unset, .unset, .unset, .unset, .unset, .unset] [])) target := by
      intro target kt
      refine pre6 target ?_
      show Steps p.tables e below (T5.setTop (mkF m 35 #[.val (.int i0), .val (.int i1), .val (.int i2), .val (.int i3), .val (.int (own_f1_0 i0)), .val (.int (own_f1_0 i1)), .val (.int (own_f1_0 i2)), .val (.int (i3 &&& (65535 : Int32))), .val (.ref b4), .unset, .unset, .unset, .unset, .unset, .unset, .unset, .unset, .unset] [(.int (i3 &&& (65535 : Int32)))])) _
      refine XS.ifYes X5.here hx rfl (pc0 := 35) (pc' := 45) rfl (hb hby at_35) rfl ((if0 _ _).trans (flt hc35).2.2.2) (by decide) (by decide) ?_
      exact kt
    obtain ⟨T11, L11, k11, n11, X11, N11, hk11', hn11, st11⟩ := own_b0_45 hx hZ hw hby hml hown hret i0 i1 i2 i3 (own_f1_0 i0) (own_f1_0 i1) (own_f1_0 i2) (i3 &&& (65535 : Int32)) b4 (own_o2_line (0 : Int32) (0 : Int32) (0 : Int32)) (0 : Int32) (0 : Int32) X5 rfl N5 Z5 g_b4 A4_k5 F_line_b4_k5 F_column_b4_k5 F_afterCarriageReturn_b4_k5 
    have hv : (own_f0_0 i0 i1 i2 i3) = (own_f0_45 i0 i1 i2 i3 (own_f1_0 i0) (own_f1_0 i1) (own_f1_0 i2) (i3 &&& (65535 : Int32)) (own_o2_line (0 : Int32) (0 : Int32) (0 : Int32)) (0 : Int32) (0 : Int32)) := by unfold own_f0_0; rw [if_neg hc35]
    exact ⟨T11, L11, k11, n11, X11, N11, hk11', hn11, fun fs hr => pre10 _ (st11 fs (by rw [hv] at hr; exact hr))⟩
def Q0 (Z : State) (i0 : Int32) (i1 : Int32) (i2 : Int32) (i3 : Int32) (h0 : Heap) (n0 : Nat) (v : Option Value) (h : Heap) (L : List Loc) : Prop := v = some (.int (own_f0_0 i0 i1 i2 i3)) ∧ Fr n0 L
set_option maxRecDepth 65536 in
set_option maxHeartbeats 40000000 in
theorem rm0 (l : Launch) (Z : State) (a0_ : Array Value) (hw : ∀ d ∈ tables_1, d.before a0_ Z = true) (ws : List Jvm.Cond) (i0 : Int32) (i1 : Int32) (i2 : Int32) (i3 : Int32) (h0 : Heap) (n0 : Nat) (Z0 : n0 ≤ h0.size)  :
    MetFree l x (head1 (Jvm.Cond.code x code maxLocals ret :: ws) room_1) (fun a U => a = #[(.int i0), (.int i1), (.int i2), (.int i3)] ∧ Z.Warmed39 U.vm ∧ U.heap = h0) (fun _ _ _ _ _ => True) (fun _ U o U' => ∃ v L, o = .returned v ∧ Q0 Z i0 i1 i2 i3 h0 n0 v U'.heap L ∧ FrameEnd U o U' L room_1.cells room_1.slots) := by
  refine MetFree.of_bodySF (plainFor_of_name pn_0) hisR ?_
  intro p e s m args below meth c s₁ Bd hml0 hP hK
  obtain ⟨rfl, hZ, hh⟩ := hP
  have hx := Bd.exec
  have hby := Bd.bytes
  have hml : c.maxLocals = 18 := hml0
  have hown : s.vm.findClass "com/example/saho/saho/load/LineCounterAdvancePinLaw" = some m.cls := findClass_of_methodNamed Bd.named
  have X0 : Stand p l e room_1 s m #[(.int i0), (.int i1), (.int i2), (.int i3)] below meth c s₁ [] 0 0 := Stand.of_body Bd
  have e0 : s₁.heap = h0 := by rw [← hh, Bd.state]; rfl
  obtain ⟨T', L', k', n', X', N', hk', hn', st'⟩ := own_b0_0 hx hZ hw hby hml hown Bd.returns  i0 i1 i2 i3 X0 e0 (Fr.nil n0) Z0 
  obtain ⟨fs, hr, hrun, hended, hW, hsame⟩ := X'.leave (v := some (.int (own_f0_0 i0 i1 i2 i3))) (fun h => by rw [Bd.returns] at h; cases h)
  refine ⟨_, _, castTop (ef_0 m i0 i1 i2 i3) (st' fs hr), hrun, hended, _, _, rfl, ?_, ⟨_, rfl⟩, hW, hsame.mono hk' hn'⟩
  exact ⟨rfl, N'⟩
theorem own_core (i0 i1 i2 i3 c1 c2 c3 col : Int32) : own_f0_45 i0 i1 i2 i3 c1 c2 c3 col 1 col 0 = 1 := by
  have e2 : col + 1 + 1 = col + 2 := by rw [Int32.add_assoc]; rfl
  have e3 : col + 1 + 1 + 1 = col + 3 := by rw [Int32.add_assoc, Int32.add_assoc]; rfl
  have e4 : col + 1 + 1 + 1 + 1 = col + 4 := by rw [Int32.add_assoc, Int32.add_assoc, Int32.add_assoc]; rfl
  have e5 : col + 2 + 1 = col + 3 := by rw [Int32.add_assoc]; rfl
  have e6 : col + 3 + 1 = col + 4 := by rw [Int32.add_assoc]; rfl
  have t : ∀ c : Int32, c = 13 ∨ c = 10 ∨ (¬ c = 13 ∧ ¬ c = 10) := fun c => by
    by_cases h1 : c = 13
    · exact Or.inl h1
    · by_cases h2 : c = 10
      · exact Or.inr (Or.inl h2)
      · exact Or.inr (Or.inr ⟨h1, h2⟩)
  rcases t c1 with rfl | rfl | ⟨a1, a2⟩ <;> rcases t c2 with rfl | rfl | ⟨b1, b2⟩ <;> rcases t c3 with rfl | rfl | ⟨d1, d2⟩ <;> simp [own_f0_45, own_f0_59, own_f0_102, own_f0_132, own_f0_174, own_f0_207, own_f0_208, own_f0_241, own_f0_242, own_f0_275, own_f0_276, own_f5_0, own_f6_0, own_f8_0, own_f9_0, own_f10_0, own_o7_line, own_o7_column, own_o7_afterCarriageReturn, *]
theorem own_law (i0 : Int32) (i1 : Int32) (i2 : Int32) (i3 : Int32) : own_f0_0 i0 i1 i2 i3 = 1 := by
  have m := c_mask i3 65535 16 (by decide +kernel) (by decide +kernel)
  have l0 : (0 : Int32).toInt = 0 := by decide +kernel
  unfold own_f0_0
  split
  · simp only [own_o2_line, own_o4_column, own_o4_afterCarriageReturn, Int32.zero_add]
    exact own_core _ _ _ _ _ _ _ _
  · rename_i h
    have e : i3 &&& 65535 = 0 := by
      apply Int32.toInt_inj.mp
      rw [Int32.lt_iff_toInt_lt] at h
      omega
    rw [e]
    exact own_core _ _ _ _ _ _ _ _
set_option maxRecDepth 65536 in
set_option maxHeartbeats 40000000 in
theorem comes_1 {Post : Tables → Env → Array Value → State → Outcome → State → Prop} (hpost : ∀ tb e args s v u, (limb_1_1.after args s (.returned v) u = true ∧ limb_1_2.after args s (.returned v) u = true ∧ True) → FrameEnd s (.returned v) u (Jvm.fieldLocs frame_1_writes args s ++ Jvm.arrayLocs frame_1_arrays args s ++ Jvm.staticLocs frame_1_statics s) 16 128 → Post tb e args s (.returned v) u) :
    ArmFor flags0 classFile x code maxLocals ret World_1 tables_1 room_1 Calls_1 rest_1 Pre_1 Post := by
  intro l hfl _ _ p e ha hc hk s m args below hf hA hF happ hP
  obtain ⟨hcalls, hrest, hpre⟩ := hP
  obtain ⟨-, -, -, hnamed, -, -, -, hat⟩ := (Spec.applies_iff hf).mp happ
  obtain ⟨hg, hn⟩ := and_e (Cond.before_iff.mp (show (Jvm.Cond.and given_1 narrow_1).before args s = true from hpre))
  obtain ⟨hcount, hg⟩ := and_e hg
  obtain ⟨g0, hg⟩ := and_e hg
  obtain ⟨g1, hg⟩ := and_e hg
  obtain ⟨g2, hg⟩ := and_e hg
  have g3 := hg
  obtain ⟨w0, w1, w2, w3, rfl⟩ : ∃ w0 w1 w2 w3 : Value, args = #[w0, w1, w2, w3] := by
    have hs : args.size = 4 := by simpa [Cond.value, given_1] using hcount
    obtain ⟨L⟩ := args
    match L, hs with
    | [w0, w1, w2, w3], _ => exact ⟨w0, w1, w2, w3, rfl⟩
  have hw := fun d (hd : d ∈ tables_1) => atoms_spec (ws := Jvm.Cond.code x code maxLocals ret :: tables_1) hat d (List.mem_cons_of_mem _ hd)
  obtain ⟨i0, ei0⟩ := is_v g0
  obtain rfl : w0 = (.int i0) := Option.some.inj ei0
  obtain ⟨i1, ei1⟩ := is_v g1
  obtain rfl : w1 = (.int i1) := Option.some.inj ei1
  obtain ⟨i2, ei2⟩ := is_v g2
  obtain rfl : w2 = (.int i2) := Option.some.inj ei2
  obtain ⟨i3, ei3⟩ := is_v g3
  obtain rfl : w3 = (.int i3) := Option.some.inj ei3
  obtain ⟨n, o, h1, h2, h3, _, L, rfl, ⟨rfl, N⟩, hq⟩ := rm0 l s _ hw tables_1 i0 i1 i2 i3 s.heap s.heap.size (Nat.le_refl _) p e ha hc hk s m _ below hf ((Spec.applies_iff_loose hf).mp happ).1 ⟨rfl, State.Warmed39.refl s, rfl⟩ trivial
  rw [own_law i0 i1 i2 i3] at h3 hq
  refine ⟨n, _, h1, h2, h3, hpost _ _ _ _ _ _ ⟨Cond.after_iff.mpr rfl, Cond.after_iff.mpr (eq_i res_at (Term.int_eval (1)) rfl), trivial⟩ ⟨hq.1, hq.2.1, (hq.2.2.sift fun y hy => Or.inr (N y hy)).mono (by decide) (by decide)⟩⟩
theorem main_1_1 : Claimed_1_1 := comes_1 fun _ _ _ _ _ _ h hF => ⟨h.1, hF⟩
theorem main_1_2 : Claimed_1_2 := comes_1 fun _ _ _ _ _ _ h hF => ⟨h.2.1, hF⟩
end Jvm.Pilot.@@N@@
namespace Jvm.Pilot.@@N@@
open Jvm Jvm.ClassFile Sem Op Lib Jvm.Free Jvm.Stand Jvm.Pilot.@@N@@.Jvm.D
/-! MADE BY PROGRAM (witnessworld.py) out of the Statement's table words and the real class files: 9 classes; the members and pool entries that the words name. The judged class is class 1, her method 5. -/
namespace start1
open Jvm.ClassFile
def u (s : String) : CpInfo := .utf8 (stringToUtf16 s)
/-- a pool by its gaps: so many unusable entries, then the entry; so many at the end -/
def gap : Nat → List CpInfo → List CpInfo
  | 0, r => r
  | n + 1, r => .unusable :: gap n r
def poolList (es : List (Nat × CpInfo)) (last : Nat) : List CpInfo := es.foldr (fun e r => gap e.1 (e.2 :: r)) (gap last [])
def pool (es : List (Nat × CpInfo)) (last : Nat) : Array CpInfo := ⟨poolList es last⟩
def fileOf (pool : Array CpInfo) (this : Nat) (attrs : Array Attribute := #[]) (ms : Array MethodInfo := #[]) (fl : Nat := 33) (sup : Nat := 0) (ifs : Array Nat := #[]) (fds : Array FieldInfo := #[]) : ClassFile where
  minorVersion := 0
  majorVersion := 65
  constantPool := pool
  accessFlags := fl
  thisClass := this
  superClass := sup
  interfaces := ifs
  fields := fds
  methods := ms
  attributes := attrs
def plain (name : String) (sup : Option ClassId) : Class where
  name := name
  kind := .ordinary
  loader := none
  accessFlags := 33
  super := sup
  interfaces := #[]
  cf := none
  fields := #[]
  methods := #[]
  instanceTypes := #[]
  staticTypes := #[]
  resolved := #[]
  callSites := []
  init := .initialized
  statics := none
  mirror := none

def pool0 : Array CpInfo := pool [(5, u "<init>"), (0, u "()V"), (1, .class_ 10), (1, u "java/lang/Object")] 113

def k0c0 : Code := { maxStack := 0, maxLocals := 1, code := object_method_1_code, exceptionTable := #[], attributes := #[] }
def k0m0 : Method := { name := "<init>", desc := "()V", sig := { parameters := [], returnType := none }, accessFlags := 1, code := some k0c0 }
/-- java/lang/Object -/
def k0 : Class := { plain "java/lang/Object" none with
  accessFlags := 33
  interfaces := #[]
  cf := some (fileOf pool0 8 #[] #[{ accessFlags := 1, nameIndex := 5, descriptorIndex := 6, attributes := #[] }] 33 0 #[] #[])
  fields := #[]
  methods := #[k0m0]
  instanceTypes := #[]
  staticTypes := #[]
  resolved := Array.replicate 124 none
  statics := none }

def pool1 : Array CpInfo := pool [(2, .class_ 4), (0, .nameAndType 5 6), (0, u "java/lang/Object"), (0, u "<init>"), (0, u "()V"), (0, .methodref 8 9), (0, .class_ 10), (0, .nameAndType 11 12), (0, u "com/example/saho/saho/load/LineCounterAdvancePinLaw"), (0, u "cr"), (0, u "(C)Z"), (0, .methodref 8 14), (0, .nameAndType 15 16), (0, u "pick"), (0, u "(I)C"), (0, .integer 65535), (0, .class_ 19), (0, u "com/example/saho/saho/load/LineCounter"), (0, .methodref 18 3), (0, .methodref 18 22), (0, .nameAndType 23 24), (0, u "advanceWithinLine"), (0, u "(I)V"), (0, .methodref 8 26), (0, .nameAndType 27 12), (0, u "nl"), (0, .methodref 8 29), (0, .nameAndType 30 31), (0, u "ends"), (0, u "(CC)I"), (0, .methodref 18 33), (0, .nameAndType 34 35), (0, u "advance"), (0, u "(C)V"), (0, .methodref 18 37), (0, .nameAndType 38 39), (0, u "line"), (0, u "()I"), (0, .methodref 18 41), (0, .nameAndType 42 39), (0, u "nextColumn"), (3, u "law"), (0, u "(IIII)Z")] 2

def k1m0 : Method := { name := "<init>", desc := "()V", sig := { parameters := [], returnType := none }, accessFlags := 1, code := none }
def k1c1 : Code := { maxStack := 2, maxLocals := 2, code := method_2_code, exceptionTable := #[], attributes := #[] }
def k1m1 : Method := { name := "pick", desc := "(I)C", sig := { parameters := [.int], returnType := some .char }, accessFlags := 10, code := some k1c1 }
def k1c2 : Code := { maxStack := 2, maxLocals := 1, code := method_3_code, exceptionTable := #[], attributes := #[] }
def k1m2 : Method := { name := "cr", desc := "(C)Z", sig := { parameters := [.char], returnType := some .boolean }, accessFlags := 10, code := some k1c2 }
def k1c3 : Code := { maxStack := 2, maxLocals := 1, code := method_4_code, exceptionTable := #[], attributes := #[] }
def k1m3 : Method := { name := "nl", desc := "(C)Z", sig := { parameters := [.char], returnType := some .boolean }, accessFlags := 10, code := some k1c3 }
def k1c4 : Code := { maxStack := 2, maxLocals := 2, code := method_5_code, exceptionTable := #[], attributes := #[] }
def k1m4 : Method := { name := "ends", desc := "(CC)I", sig := { parameters := [.char, .char], returnType := some .int }, accessFlags := 10, code := some k1c4 }
def k1c5 : Code := { maxStack := 3, maxLocals := 18, code := code, exceptionTable := #[], attributes := #[] }
def k1m5 : Method := { name := "law", desc := "(IIII)Z", sig := { parameters := [.int, .int, .int, .int], returnType := some .boolean }, accessFlags := 9, code := some k1c5 }
/-- com/example/saho/saho/load/LineCounterAdvancePinLaw -/
def k1 : Class := { plain "com/example/saho/saho/load/LineCounterAdvancePinLaw" (some 0) with
  accessFlags := 49
  interfaces := #[]
  cf := some (fileOf pool1 8 #[] #[{ accessFlags := 1, nameIndex := 5, descriptorIndex := 6, attributes := #[] }, { accessFlags := 10, nameIndex := 15, descriptorIndex := 16, attributes := #[] }, { accessFlags := 10, nameIndex := 11, descriptorIndex := 12, attributes := #[] }, { accessFlags := 10, nameIndex := 27, descriptorIndex := 12, attributes := #[] }, { accessFlags := 10, nameIndex := 30, descriptorIndex := 31, attributes := #[] }, { accessFlags := 9, nameIndex := 46, descriptorIndex := 47, attributes := #[] }] 49 2 #[] #[])
  fields := #[]
  methods := #[k1m0, k1m1, k1m2, k1m3, k1m4, k1m5]
  instanceTypes := #[]
  staticTypes := #[]
  resolved := Array.replicate 50 none
  statics := none }

def pool2 : Array CpInfo := pool [(1, .methodref 2 3), (0, .class_ 4), (0, .nameAndType 5 6), (0, u "java/lang/Object"), (0, u "<init>"), (0, u "()V"), (0, .fieldref 8 9), (0, .class_ 10), (0, .nameAndType 11 12), (0, u "com/example/saho/saho/load/LineCounter"), (0, u "line"), (0, u "I"), (1, .fieldref 8 15), (0, .nameAndType 16 12), (0, u "column"), (0, .fieldref 8 18), (0, .nameAndType 19 20), (0, u "afterCarriageReturn"), (0, u "Z"), (2, u "advance"), (0, u "(C)V"), (6, u "advanceWithinLine"), (0, u "(I)V"), (0, u "()I"), (0, u "nextColumn")] 2

def k2c0 : Code := { maxStack := 2, maxLocals := 1, code := prog_21_method_1_code, exceptionTable := #[], attributes := #[] }
def k2m0 : Method := { name := "<init>", desc := "()V", sig := { parameters := [], returnType := none }, accessFlags := 0, code := some k2c0 }
def k2c1 : Code := { maxStack := 3, maxLocals := 2, code := prog_21_method_3_code, exceptionTable := #[], attributes := #[] }
def k2m1 : Method := { name := "advance", desc := "(C)V", sig := { parameters := [.char], returnType := none }, accessFlags := 0, code := some k2c1 }
def k2c2 : Code := { maxStack := 3, maxLocals := 2, code := prog_21_method_5_code, exceptionTable := #[], attributes := #[] }
def k2m2 : Method := { name := "advanceWithinLine", desc := "(I)V", sig := { parameters := [.int], returnType := none }, accessFlags := 0, code := some k2c2 }
def k2c3 : Code := { maxStack := 1, maxLocals := 1, code := prog_21_method_6_code, exceptionTable := #[], attributes := #[] }
def k2m3 : Method := { name := "line", desc := "()I", sig := { parameters := [], returnType := some .int }, accessFlags := 0, code := some k2c3 }
def k2c4 : Code := { maxStack := 2, maxLocals := 1, code := prog_21_method_7_code, exceptionTable := #[], attributes := #[] }
def k2m4 : Method := { name := "nextColumn", desc := "()I", sig := { parameters := [], returnType := some .int }, accessFlags := 0, code := some k2c4 }
/-- com/example/saho/saho/load/LineCounter -/
def k2 : Class := { plain "com/example/saho/saho/load/LineCounter" (some 0) with
  accessFlags := 32
  interfaces := #[]
  cf := some (fileOf pool2 8 #[] #[{ accessFlags := 0, nameIndex := 5, descriptorIndex := 6, attributes := #[] }, { accessFlags := 0, nameIndex := 23, descriptorIndex := 24, attributes := #[] }, { accessFlags := 0, nameIndex := 31, descriptorIndex := 32, attributes := #[] }, { accessFlags := 0, nameIndex := 11, descriptorIndex := 33, attributes := #[] }, { accessFlags := 0, nameIndex := 34, descriptorIndex := 33, attributes := #[] }] 32 2 #[] #[{ accessFlags := 2, nameIndex := 11, descriptorIndex := 12, attributes := #[] }, { accessFlags := 2, nameIndex := 16, descriptorIndex := 12, attributes := #[] }, { accessFlags := 2, nameIndex := 19, descriptorIndex := 20, attributes := #[] }])
  fields := #[{ name := "line", type := .int, accessFlags := 2, slot := 0, constantValue := 0 }, { name := "column", type := .int, accessFlags := 2, slot := 1, constantValue := 0 }, { name := "afterCarriageReturn", type := .boolean, accessFlags := 2, slot := 2, constantValue := 0 }]
  methods := #[k2m0, k2m1, k2m2, k2m3, k2m4]
  instanceTypes := #[.int, .int, .boolean]
  staticTypes := #[]
  resolved := Array.replicate 37 none
  statics := none }

def pool3 : Array CpInfo := pool [(1, u "java/lang/Cloneable"), (0, .class_ 1), (0, u "java/lang/Object"), (0, .class_ 3)] 3

/-- java/lang/Cloneable -/
def k3 : Class := { plain "java/lang/Cloneable" (some 0) with
  accessFlags := 1537
  interfaces := #[]
  cf := some (fileOf pool3 2 #[] #[] 1537 4 #[] #[])
  fields := #[]
  methods := #[]
  instanceTypes := #[]
  staticTypes := #[]
  resolved := Array.replicate 8 none
  statics := none }

def pool4 : Array CpInfo := pool [(1, u "java/io/Serializable"), (0, .class_ 1), (0, u "java/lang/Object"), (0, .class_ 3)] 3

/-- java/io/Serializable -/
def k4 : Class := { plain "java/io/Serializable" (some 0) with
  accessFlags := 1537
  interfaces := #[]
  cf := some (fileOf pool4 2 #[] #[] 1537 4 #[] #[])
  fields := #[]
  methods := #[]
  instanceTypes := #[]
  staticTypes := #[]
  resolved := Array.replicate 8 none
  statics := none }

/-- the primitive byte -/
def k5 : Class := { plain "byte" none with kind := .primitive 'B', accessFlags := 0x411 }
/-- [B -/
def k6 : Class := { plain "[B" (some 0) with kind := .array 5 .byte, interfaces := #[3, 4], accessFlags := 1041 }

/-- the primitive int -/
def k7 : Class := { plain "int" none with kind := .primitive 'I', accessFlags := 0x411 }
/-- [I -/
def k8 : Class := { plain "[I" (some 0) with kind := .array 7 .int, interfaces := #[3, 4], accessFlags := 1041 }

def heap : Heap := #[]
def classes : Array Class := #[k0, k1, k2, k3, k4, k5, k6, k7, k8]
def interned : List (Array UInt16 × Addr) := []
def slotsUsed : Nat := 0
def theMethod : MethodId := ⟨1, 5⟩
def args0 : Array Value := #[.int 5, .int 6, .int 7, .int 8]
def aboutOver (below : List Frame) : State where
  vm := { classes := classes, interned := interned.toArray }
  heap := heap
  slotsUsed := slotsUsed
  threads := #[{ frames := .invoking theMethod args0 :: below }]
def below0 : List Frame := [.native { method := ⟨0, 0⟩, args := #[] }]
def about1 : State := aboutOver below0
def p0 : Program := .bare "" "" ""
def e0 : Env := launch0.env 0 0 0
theorem w_frames : about1.frames = Frame.invoking theMethod args0 :: below0 := rfl
set_option maxRecDepth 65536 in
theorem w_args : argsFit about1.vm theMethod args0 = true := by decide +kernel
set_option maxRecDepth 65536 in
theorem w_heap : heapFits about1 = true := by decide +kernel
set_option maxRecDepth 65536 in
theorem w_runnable : about1.curStatus? = some .runnable := by decide +kernel
set_option maxRecDepth 65536 in
theorem w_alone : about1.alone = true := by decide +kernel
set_option maxRecDepth 65536 in
theorem w_named : about1.methodNamed? x = some theMethod := by decide +kernel
set_option maxRecDepth 65536 in
theorem w_hears : about1.hears theMethod below0 = true := by decide +kernel
set_option maxRecDepth 65536 in
theorem w_ripe : about1.ripe theMethod args0 below0 = true := by decide +kernel
theorem w_running : about1.status = .running := rfl
set_option maxRecDepth 65536 in
theorem w_room : about1.hasRoom e0.platform room_1 = true :=
  launch0.hasRoom_least _ room_1 (by decide +kernel) (by decide +kernel) (by decide +kernel) (by decide +kernel) (by decide +kernel) (by decide +kernel)
theorem allAtoms_all (ts : List Jvm.Cond) (a : Array Jvm.Value) (st : Jvm.State) : (allAtoms ts).before a st = ts.all (fun c => c.before a st) := by
  induction ts with
  | nil => rfl
  | cons c t ih =>
    show (Jvm.Cond.and c (allAtoms t)).before a st = _
    rw [Jvm.Cond.before_and, ih, List.all_cons]
def words1 : List Jvm.Cond := Jvm.Cond.code x code maxLocals ret :: tables_1
/-- a 'code' word, met by the world's own term for the bytes: nothing is compared byte by byte -/
theorem code_word {y : MethodName} {bytes : ByteArray} {mx : Nat} {rt : Option FieldType} {a : Array Value} {s : State} {m : MethodId} {meth : Method} {c : Code} (h1 : s.methodNamed? y = some m) (h2 : s.vm.method? m = some meth) (h3 : meth.code = some c) (h4 : c.code = bytes)
    (h5 : (c.maxLocals == mx && c.exceptionTable.isEmpty && decide (c.maxStack ≤ mostOperands) && decide (meth.sig.returnType = rt) && !meth.locks && decide (parseMethodDescriptor y.desc = some meth.sig)) = true) : (Jvm.Cond.code y bytes mx rt).before a s = true := by
  simp only [Bool.and_eq_true, beq_iff_eq, Bool.not_eq_true', decide_eq_true_eq] at h5
  obtain ⟨⟨⟨⟨⟨g1, g2⟩, g3⟩, g4⟩, g5⟩, g6⟩ := h5
  simp [Cond.before, Cond.holds, Cond.value, h1, h2, h3, h4, g1, g2, g3, g4, g5, g6]
def isCode : Jvm.Cond → Bool
  | .code _ _ _ _ => true
  | _ => false
theorem all_split {L : List Jvm.Cond} {P : Jvm.Cond → Bool} (h1 : L.all (fun c => isCode c || P c) = true) (h2 : ∀ c ∈ L.filter isCode, P c = true) : L.all P = true := by
  refine List.all_eq_true.mpr fun c hc => ?_
  have h := List.all_eq_true.mp h1 c hc
  rcases Bool.eq_false_or_eq_true (isCode c) with hi | hi
  · exact h2 c (List.mem_filter.mpr ⟨hc, hi⟩)
  · simpa [hi] using h
set_option maxRecDepth 65536 in
theorem w_c0 : (Jvm.Cond.code x code maxLocals ret).before args0 about1 = true := code_word (m := ⟨1, 5⟩) (meth := k1m5) (c := k1c5) (by decide +kernel) rfl rfl rfl (by decide +kernel)
set_option maxRecDepth 65536 in
theorem w_c1 : (Jvm.Cond.code ({ cls := "com/example/saho/saho/load/LineCounterAdvancePinLaw", name := "pick", desc := "(I)C" } : Jvm.MethodName) method_2_code (2 : Nat) (Option.some Jvm.ClassFile.FieldType.char)).before args0 about1 = true := code_word (m := ⟨1, 1⟩) (meth := k1m1) (c := k1c1) (by decide +kernel) rfl rfl rfl (by decide +kernel)
set_option maxRecDepth 65536 in
theorem w_c2 : (Jvm.Cond.code ({ cls := "com/example/saho/saho/load/LineCounter", name := "<init>", desc := "()V" } : Jvm.MethodName) prog_21_method_1_code (1 : Nat) (Option.none : Option Jvm.ClassFile.FieldType)).before args0 about1 = true := code_word (m := ⟨2, 0⟩) (meth := k2m0) (c := k2c0) (by decide +kernel) rfl rfl rfl (by decide +kernel)
set_option maxRecDepth 65536 in
theorem w_c3 : (Jvm.Cond.code ({ cls := "java/lang/Object", name := "<init>", desc := "()V" } : Jvm.MethodName) object_method_1_code (1 : Nat) (Option.none : Option Jvm.ClassFile.FieldType)).before args0 about1 = true := code_word (m := ⟨0, 0⟩) (meth := k0m0) (c := k0c0) (by decide +kernel) rfl rfl rfl (by decide +kernel)
set_option maxRecDepth 65536 in
theorem w_c4 : (Jvm.Cond.code ({ cls := "com/example/saho/saho/load/LineCounter", name := "advanceWithinLine", desc := "(I)V" } : Jvm.MethodName) prog_21_method_5_code (2 : Nat) (Option.none : Option Jvm.ClassFile.FieldType)).before args0 about1 = true := code_word (m := ⟨2, 2⟩) (meth := k2m2) (c := k2c2) (by decide +kernel) rfl rfl rfl (by decide +kernel)
set_option maxRecDepth 65536 in
theorem w_c5 : (Jvm.Cond.code ({ cls := "com/example/saho/saho/load/LineCounterAdvancePinLaw", name := "nl", desc := "(C)Z" } : Jvm.MethodName) method_4_code (1 : Nat) (Option.some Jvm.ClassFile.FieldType.boolean)).before args0 about1 = true := code_word (m := ⟨1, 3⟩) (meth := k1m3) (c := k1c3) (by decide +kernel) rfl rfl rfl (by decide +kernel)
set_option maxRecDepth 65536 in
theorem w_c6 : (Jvm.Cond.code ({ cls := "com/example/saho/saho/load/LineCounterAdvancePinLaw", name := "ends", desc := "(CC)I" } : Jvm.MethodName) method_5_code (2 : Nat) (Option.some Jvm.ClassFile.FieldType.int)).before args0 about1 = true := code_word (m := ⟨1, 4⟩) (meth := k1m4) (c := k1c4) (by decide +kernel) rfl rfl rfl (by decide +kernel)
set_option maxRecDepth 65536 in
theorem w_c7 : (Jvm.Cond.code ({ cls := "com/example/saho/saho/load/LineCounter", name := "advance", desc := "(C)V" } : Jvm.MethodName) prog_21_method_3_code (2 : Nat) (Option.none : Option Jvm.ClassFile.FieldType)).before args0 about1 = true := code_word (m := ⟨2, 1⟩) (meth := k2m1) (c := k2c1) (by decide +kernel) rfl rfl rfl (by decide +kernel)
set_option maxRecDepth 65536 in
theorem w_c8 : (Jvm.Cond.code ({ cls := "com/example/saho/saho/load/LineCounter", name := "line", desc := "()I" } : Jvm.MethodName) prog_21_method_6_code (1 : Nat) (Option.some Jvm.ClassFile.FieldType.int)).before args0 about1 = true := code_word (m := ⟨2, 3⟩) (meth := k2m3) (c := k2c3) (by decide +kernel) rfl rfl rfl (by decide +kernel)
set_option maxRecDepth 65536 in
theorem w_c9 : (Jvm.Cond.code ({ cls := "com/example/saho/saho/load/LineCounter", name := "nextColumn", desc := "()I" } : Jvm.MethodName) prog_21_method_7_code (1 : Nat) (Option.some Jvm.ClassFile.FieldType.int)).before args0 about1 = true := code_word (m := ⟨2, 4⟩) (meth := k2m4) (c := k2c4) (by decide +kernel) rfl rfl rfl (by decide +kernel)
set_option maxRecDepth 65536 in
theorem w_c10 : (Jvm.Cond.code ({ cls := "com/example/saho/saho/load/LineCounterAdvancePinLaw", name := "cr", desc := "(C)Z" } : Jvm.MethodName) method_3_code (1 : Nat) (Option.some Jvm.ClassFile.FieldType.boolean)).before args0 about1 = true := code_word (m := ⟨1, 2⟩) (meth := k1m2) (c := k1c2) (by decide +kernel) rfl rfl rfl (by decide +kernel)
def codes1 : List Jvm.Cond := [Jvm.Cond.code x code maxLocals ret, Jvm.Cond.code ({ cls := "com/example/saho/saho/load/LineCounterAdvancePinLaw", name := "pick", desc := "(I)C" } : Jvm.MethodName) method_2_code (2 : Nat) (Option.some Jvm.ClassFile.FieldType.char), Jvm.Cond.code ({ cls := "com/example/saho/saho/load/LineCounter", name := "<init>", desc := "()V" } : Jvm.MethodName) prog_21_method_1_code (1 : Nat) (Option.none : Option Jvm.ClassFile.FieldType), Jvm.Cond.code ({ cls := "java/lang/Object", name := "<init>", desc := "()V" } : Jvm.MethodName) object_method_1_code (1 : Nat) (Option.none : Option Jvm.ClassFile.FieldType), Jvm.Cond.code ({ cls := "com/example/saho/saho/load/LineCounter", name := "advanceWithinLine", desc := "(I)V" } : Jvm.MethodName) prog_21_method_5_code (2 : Nat) (Option.none : Option Jvm.ClassFile.FieldType), Jvm.Cond.code ({ cls := "com/example/saho/saho/load/LineCounterAdvancePinLaw", name := "nl", desc := "(C)Z" } : Jvm.MethodName) method_4_code (1 : Nat) (Option.some Jvm.ClassFile.FieldType.boolean), Jvm.Cond.code ({ cls := "com/example/saho/saho/load/LineCounterAdvancePinLaw", name := "ends", desc := "(CC)I" } : Jvm.MethodName) method_5_code (2 : Nat) (Option.some Jvm.ClassFile.FieldType.int), Jvm.Cond.code ({ cls := "com/example/saho/saho/load/LineCounter", name := "advance", desc := "(C)V" } : Jvm.MethodName) prog_21_method_3_code (2 : Nat) (Option.none : Option Jvm.ClassFile.FieldType), Jvm.Cond.code ({ cls := "com/example/saho/saho/load/LineCounter", name := "line", desc := "()I" } : Jvm.MethodName) prog_21_method_6_code (1 : Nat) (Option.some Jvm.ClassFile.FieldType.int), Jvm.Cond.code ({ cls := "com/example/saho/saho/load/LineCounter", name := "nextColumn", desc := "()I" } : Jvm.MethodName) prog_21_method_7_code (1 : Nat) (Option.some Jvm.ClassFile.FieldType.int), Jvm.Cond.code ({ cls := "com/example/saho/saho/load/LineCounterAdvancePinLaw", name := "cr", desc := "(C)Z" } : Jvm.MethodName) method_3_code (1 : Nat) (Option.some Jvm.ClassFile.FieldType.boolean)]
set_option maxRecDepth 65536 in
theorem codes_eq : words1.filter isCode = codes1 := rfl
theorem w_codes : ∀ c ∈ words1.filter isCode, c.before args0 about1 = true := by
  rw [codes_eq]
  intro c hc
  simp only [codes1, List.mem_cons, List.not_mem_nil, or_false] at hc
  rcases hc with rfl | rfl | rfl | rfl | rfl | rfl | rfl | rfl | rfl | rfl | rfl
  · exact w_c0
  · exact w_c1
  · exact w_c2
  · exact w_c3
  · exact w_c4
  · exact w_c5
  · exact w_c6
  · exact w_c7
  · exact w_c8
  · exact w_c9
  · exact w_c10
set_option maxRecDepth 65536 in
theorem w_t1 : (words1.take 24).all (fun c => isCode c || c.before args0 about1) = true := by decide +kernel
set_option maxRecDepth 65536 in
theorem w_t2 : ((words1.drop 24).take 24).all (fun c => isCode c || c.before args0 about1) = true := by decide +kernel
set_option maxRecDepth 65536 in
theorem w_t3 : ((words1.drop 24).drop 24).all (fun c => isCode c || c.before args0 about1) = true := by decide +kernel
theorem w_tables : (allAtoms (Jvm.Cond.code x code maxLocals ret :: tables_1)).before args0 about1 = true := by
  rw [allAtoms_all]
  show words1.all (fun c => c.before args0 about1) = true
  refine all_split ?_ w_codes
  rw [← List.take_append_drop 24 words1, List.all_append, w_t1, ← List.take_append_drop 24 (words1.drop 24), List.all_append, w_t2, w_t3]
  rfl
set_option maxRecDepth 65536 in
theorem w_case : (Jvm.Cond.and given_1 narrow_1).before args0 about1 = true := by decide +kernel
theorem w_applies : (headSpec (Jvm.Cond.code x code maxLocals ret :: tables_1) room_1).applies x e0.platform about1 = true :=
  (Spec.applies_iff w_frames).mpr ⟨w_running, w_runnable, w_alone, w_named, w_hears, w_ripe, w_room, w_tables⟩
theorem atStart : AtStart classFile x code maxLocals ret World_1 tables_1 room_1 Calls_1 rest_1 Pre_1 launch0 p0 e0 about1 theMethod args0 below0 :=
  ⟨lists_1, trivial, launch0.admits_env _ _ _, launch0.least_env, fairChoices_fair.cas, fairChoices_fair.clock, w_frames, w_args, w_heap, w_applies, trivial, trivial, w_case⟩
end start1
theorem witness_1 : WitnessClaimed_1 := ⟨start1.p0, start1.e0, start1.about1, start1.theMethod, start1.args0, start1.below0, start1.atStart⟩
end Jvm.Pilot.@@N@@
