import JvmDerived
import JvmDerived.Pilot.@@N@@Statement
import JvmDerived.Pilot.@@N@@Code
set_option linter.unusedVariables false
set_option linter.unusedSimpArgs false
set_option maxHeartbeats 40000000
set_option maxRecDepth 65536
namespace Jvm.RoadKit
open Sem ClassFile Op Lib Jvm.Stand Jvm.Free Jvm.LawKit
section New
variable {p : Program} {l : Launch} {e : Env} {R : Room} {s : State} {m : MethodId} {args : Array Value} {below : List Frame} {meth : Method} {c : Code} {T : State} {locs : List Loc} {cells slots : Nat}
theorem retI (X : Stand p l e R s m args below meth c T locs cells slots) (hx : p.tables.exec = Jvm.exec) {pc : Nat} {Ls : Array Slot} {z : Int32} {rest : List Value} (hret : meth.sig.returnType = some .int) (hd : decode c.code pc = .ok (.ireturn, 1)) {fs : List Frame}
    (hl : ∀ (f : JFrame) (acts : List Action), f.method = m → f.locked = none → f.entered = [] → (doReturn e (T.setTop f) acts (some (.int z))).1 = T.setFrames fs) : Steps p.tables e below (T.setTop (mkF m pc Ls (.int z :: rest))) (T.setFrames fs) := by
  have hm' : T.vm.method? m = some meth := X.method'
  have hn : narrow .int (.int z) = .int z := rfl
  show Steps p.tables e below (T.setTop { method := m, pc := pc, locals := Ls, stack := _ :: rest, locked := none }) _
  jvm_step X.here [X.here.top, hx, hd, hm', hret, hn]
  first | (intro acts; rw [hl _ acts rfl rfl rfl]) | rw [hl _ _ rfl rfl rfl]
  exact Steps.refl _
end New
end Jvm.RoadKit
namespace Jvm.Pilot.@@N@@
open Jvm Jvm.ClassFile Sem Op Lib Jvm.Free Jvm.Stand Jvm.LawKit Jvm.RoadKit Bundle Jvm.Pilot.@@N@@.Jvm.D
theorem d1_0 : decode prog_14_method_2_code 0 = .ok (.ldc2_w 9, 3) := by decide +kernel
theorem d1_3 : decode prog_14_method_2_code 3 = .ok (.lstore 4, 2) := by decide +kernel
theorem d1_5 : decode prog_14_method_2_code 5 = .ok (.lload_n 2, 1) := by decide +kernel
theorem d1_6 : decode prog_14_method_2_code 6 = .ok (.ldc2_w 9, 3) := by decide +kernel
theorem d1_9 : decode prog_14_method_2_code 9 = .ok (.lload_n 0, 1) := by decide +kernel
theorem d1_10 : decode prog_14_method_2_code 10 = .ok (.lsub, 1) := by decide +kernel
theorem d1_11 : decode prog_14_method_2_code 11 = .ok (.lcmp, 1) := by decide +kernel
theorem d1_12 : decode prog_14_method_2_code 12 = .ok (.ifCond .gt 8, 3) := by decide +kernel
theorem d1_15 : decode prog_14_method_2_code 15 = .ok (.lload_n 0, 1) := by decide +kernel
theorem d1_16 : decode prog_14_method_2_code 16 = .ok (.lload_n 2, 1) := by decide +kernel
theorem d1_17 : decode prog_14_method_2_code 17 = .ok (.ladd, 1) := by decide +kernel
theorem d1_18 : decode prog_14_method_2_code 18 = .ok (.lstore 4, 2) := by decide +kernel
theorem d1_20 : decode prog_14_method_2_code 20 = .ok (.lload 4, 2) := by decide +kernel
theorem d1_22 : decode prog_14_method_2_code 22 = .ok (.lreturn, 1) := by decide +kernel
theorem pn_1 : plainName "com/example/refill/refill/core/Tokens" = true := by first | (simp [plainName, overriddenIn]; done) | decide +kernel
theorem ef_1 (m : MethodId) (j0 : Int64) (j2 : Int64) : entryFrame m #[(.long j0), (.long j2)] 6 = mkF m 0 #[.val (.long j0), .second, .val (.long j2), .second, .unset, .unset] [] := by first | (simp [entryFrame, mkF, argsToLocals, Value.category]; done) | rfl
def own_f1_0 (j0 : Int64) (j2 : Int64) : Int64 :=
  (if ((9223372036854775807 : Int64) - j0) < j2 then (9223372036854775807 : Int64) else (j0 + j2))
set_option maxRecDepth 65536 in
set_option maxHeartbeats 40000000 in
theorem own_b1_0 {p : Program} {l : Launch} {e : Env} {s : State} {m : MethodId} {args : Array Value} {below : List Frame} {meth : Method} {c : Code} {Z : State} {a0_ : Array Value} (hx : p.tables.exec = Jvm.exec) (hZ : Z.Warmed39 s.vm) (hw : ∀ d ∈ tables_1, d.before a0_ Z = true) (hby : c.code = prog_14_method_2_code) (hml : c.maxLocals = 6) (hown : s.vm.findClass "com/example/refill/refill/core/Tokens" = some m.cls) (hret : meth.sig.returnType = some .long) {T0 : State} {locs : List Loc} {cells slots : Nat} {h0 : Heap} (j0 : Int64) (j2 : Int64)
    (X0 : Stand p l e ({ frames := 0, cells := 0, slots := 0, locals := 0 } : Room) s m args below meth c T0 locs cells slots) (e0 : T0.heap = h0) (hcl : cells ≤ ({ frames := 0, cells := 0, slots := 0, locals := 0 } : Room).cells) (hsl : slots ≤ ({ frames := 0, cells := 0, slots := 0, locals := 0 } : Room).slots)  :
    ∃ T', Stand p l e ({ frames := 0, cells := 0, slots := 0, locals := 0 } : Room) s m args below meth c T' locs cells slots ∧ T'.heap = h0 ∧ ∀ fs, (∀ (f : JFrame) (acts : List Action), f.method = m → f.locked = none → f.entered = [] → (doReturn e (T'.setTop f) acts (some (.long (own_f1_0 j0 j2)))).1 = T'.setFrames fs) → Steps p.tables e below (T0.setTop (mkF m 0 #[.val (.long j0), .second, .val (.long j2), .second, .unset, .unset] [])) (T'.setFrames fs) := by
  have pre1 : ∀ target, Steps p.tables e below (T0.setTop (mkF m 12 #[.val (.long j0), .second, .val (.long j2), .second, .val (.long (9223372036854775807 : Int64)), .second] [(.int (lcmpW j2 ((9223372036854775807 : Int64) - j0)))])) target → Steps p.tables e below (T0.setTop (mkF m 0 #[.val (.long j0), .second, .val (.long j2), .second, .unset, .unset] [])) target := by
    intro target kt
    show Steps p.tables e below (T0.setTop (mkF m 0 #[.val (.long j0), .second, .val (.long j2), .second, .unset, .unset] [])) _
    refine X0.ldc2Long hx hown (mvT hZ (hw _ (List.mem_of_getElem? (i := 5) rfl))) (g := (mkF m 0 #[.val (.long j0), .second, .val (.long j2), .second, .unset, .unset] [])) rfl (hb hby d1_0) _ ?_
    show Steps p.tables e below (T0.setTop (mkF m 3 #[.val (.long j0), .second, .val (.long j2), .second, .unset, .unset] [(.long (9223372036854775807 : Int64))])) _
    refine XS.lstore X0.here hx rfl (hb hby d1_3) rfl (l' := #[.val (.long j0), .second, .val (.long j2), .second, .val (.long (9223372036854775807 : Int64)), .second]) rfl ?_
    show Steps p.tables e below (T0.setTop (mkF m 5 #[.val (.long j0), .second, .val (.long j2), .second, .val (.long (9223372036854775807 : Int64)), .second] [])) _
    refine XS.lloadN X0.here hx rfl (hb hby d1_5) rfl ?_
    show Steps p.tables e below (T0.setTop (mkF m 6 #[.val (.long j0), .second, .val (.long j2), .second, .val (.long (9223372036854775807 : Int64)), .second] [(.long j2)])) _
    refine X0.ldc2Long hx hown (mvT hZ (hw _ (List.mem_of_getElem? (i := 5) rfl))) (g := (mkF m 6 #[.val (.long j0), .second, .val (.long j2), .second, .val (.long (9223372036854775807 : Int64)), .second] [(.long j2)])) rfl (hb hby d1_6) _ ?_
    show Steps p.tables e below (T0.setTop (mkF m 9 #[.val (.long j0), .second, .val (.long j2), .second, .val (.long (9223372036854775807 : Int64)), .second] [(.long (9223372036854775807 : Int64)), (.long j2)])) _
    refine XS.lloadN X0.here hx rfl (hb hby d1_9) rfl ?_
    show Steps p.tables e below (T0.setTop (mkF m 10 #[.val (.long j0), .second, .val (.long j2), .second, .val (.long (9223372036854775807 : Int64)), .second] [(.long j0), (.long (9223372036854775807 : Int64)), (.long j2)])) _
    refine XS.lsub X0.here hx rfl (hb hby d1_10) rfl ?_
    show Steps p.tables e below (T0.setTop (mkF m 11 #[.val (.long j0), .second, .val (.long j2), .second, .val (.long (9223372036854775807 : Int64)), .second] [(.long ((9223372036854775807 : Int64) - j0)), (.long j2)])) _
    refine XS.lcmp X0.here hx rfl (hb hby d1_11) rfl ?_
    exact kt
  by_cases hc12 : ((9223372036854775807 : Int64) - j0) < j2
  · refine ⟨T0, X0, e0, fun fs hr => ?_⟩
    have hv : (own_f1_0 j0 j2) = (9223372036854775807 : Int64) := by unfold own_f1_0; rw [if_pos hc12]
    rw [hv] at hr
    refine pre1 _ ?_
    show Steps p.tables e below (T0.setTop (mkF m 12 #[.val (.long j0), .second, .val (.long j2), .second, .val (.long (9223372036854775807 : Int64)), .second] [(.int (lcmpW j2 ((9223372036854775807 : Int64) - j0)))])) _
    refine XS.ifYes X0.here hx rfl (pc0 := 12) (pc' := 20) rfl (hb hby d1_12) rfl ((if0 _ _).trans (tlt ((lw_gt _ _).mpr hc12)).2.2.1) (by decide) (by decide) ?_
    show Steps p.tables e below (T0.setTop (mkF m 20 #[.val (.long j0), .second, .val (.long j2), .second, .val (.long (9223372036854775807 : Int64)), .second] [])) _
    refine XS.lload X0.here hx rfl (hb hby d1_20) rfl ?_
    show Steps p.tables e below (T0.setTop (mkF m 22 #[.val (.long j0), .second, .val (.long j2), .second, .val (.long (9223372036854775807 : Int64)), .second] [(.long (9223372036854775807 : Int64))])) _
    exact X0.lreturnOut hx hret (hb hby d1_22) hr
  · refine ⟨T0, X0, e0, fun fs hr => ?_⟩
    have hv : (own_f1_0 j0 j2) = (j0 + j2) := by unfold own_f1_0; rw [if_neg hc12]
    rw [hv] at hr
    refine pre1 _ ?_
    show Steps p.tables e below (T0.setTop (mkF m 12 #[.val (.long j0), .second, .val (.long j2), .second, .val (.long (9223372036854775807 : Int64)), .second] [(.int (lcmpW j2 ((9223372036854775807 : Int64) - j0)))])) _
    refine XS.ifNo X0.here hx rfl (hb hby d1_12) rfl ((if0 _ _).trans (flt (mt (lw_gt _ _).mp hc12)).2.2.1) ?_
    show Steps p.tables e below (T0.setTop (mkF m 15 #[.val (.long j0), .second, .val (.long j2), .second, .val (.long (9223372036854775807 : Int64)), .second] [])) _
    refine XS.lloadN X0.here hx rfl (hb hby d1_15) rfl ?_
    show Steps p.tables e below (T0.setTop (mkF m 16 #[.val (.long j0), .second, .val (.long j2), .second, .val (.long (9223372036854775807 : Int64)), .second] [(.long j0)])) _
    refine XS.lloadN X0.here hx rfl (hb hby d1_16) rfl ?_
    show Steps p.tables e below (T0.setTop (mkF m 17 #[.val (.long j0), .second, .val (.long j2), .second, .val (.long (9223372036854775807 : Int64)), .second] [(.long j2), (.long j0)])) _
    refine XS.ladd X0.here hx rfl (hb hby d1_17) rfl ?_
    show Steps p.tables e below (T0.setTop (mkF m 18 #[.val (.long j0), .second, .val (.long j2), .second, .val (.long (9223372036854775807 : Int64)), .second] [(.long (j0 + j2))])) _
    refine XS.lstore X0.here hx rfl (hb hby d1_18) rfl (l' := #[.val (.long j0), .second, .val (.long j2), .second, .val (.long (j0 + j2)), .second]) rfl ?_
    show Steps p.tables e below (T0.setTop (mkF m 20 #[.val (.long j0), .second, .val (.long j2), .second, .val (.long (j0 + j2)), .second] [])) _
    refine XS.lload X0.here hx rfl (hb hby d1_20) rfl ?_
    show Steps p.tables e below (T0.setTop (mkF m 22 #[.val (.long j0), .second, .val (.long j2), .second, .val (.long (j0 + j2)), .second] [(.long (j0 + j2))])) _
    exact X0.lreturnOut hx hret (hb hby d1_22) hr
def Q1 (Z : State) (j0 : Int64) (j2 : Int64) (h0 : Heap) (n0 : Nat) (v : Option Value) (h : Heap) (L : List Loc) : Prop := v = some (.long (own_f1_0 j0 j2)) ∧ L = [] ∧ h = h0
set_option maxRecDepth 65536 in
set_option maxHeartbeats 40000000 in
theorem rm1 (l : Launch) (Z : State) (a0_ : Array Value) (hw : ∀ d ∈ tables_1, d.before a0_ Z = true) (ws : List Jvm.Cond) (j0 : Int64) (j2 : Int64) (h0 : Heap) (n0 : Nat) (Z0 : n0 ≤ h0.size)  :
    MetFree l (⟨"com/example/refill/refill/core/Tokens", "sum", "(JJ)J"⟩ : MethodName) (head1 (Jvm.Cond.code (⟨"com/example/refill/refill/core/Tokens", "sum", "(JJ)J"⟩ : MethodName) prog_14_method_2_code 6 (some .long) :: ws) ({ frames := 0, cells := 0, slots := 0, locals := 0 } : Room)) (fun a U => a = #[(.long j0), (.long j2)] ∧ Z.Warmed39 U.vm ∧ U.heap = h0) (fun _ _ _ _ _ => True) (fun _ U o U' => ∃ v L, o = .returned v ∧ Q1 Z j0 j2 h0 n0 v U'.heap L ∧ FrameEnd U o U' L ({ frames := 0, cells := 0, slots := 0, locals := 0 } : Room).cells ({ frames := 0, cells := 0, slots := 0, locals := 0 } : Room).slots) := by
  refine MetFree.of_bodySF (plainFor_of_name pn_1) hisR ?_
  intro p e s m args below meth c s₁ Bd hml0 hP hK
  obtain ⟨rfl, hZ, hh⟩ := hP
  have hx := Bd.exec
  have hby := Bd.bytes
  have hml : c.maxLocals = 6 := hml0
  have hown : s.vm.findClass "com/example/refill/refill/core/Tokens" = some m.cls := findClass_of_methodNamed Bd.named
  have X0 : Stand p l e ({ frames := 0, cells := 0, slots := 0, locals := 0 } : Room) s m #[(.long j0), (.long j2)] below meth c s₁ [] 0 0 := Stand.of_body Bd
  have e0 : s₁.heap = h0 := by rw [← hh, Bd.state]; rfl
  obtain ⟨T', X', e', st'⟩ := own_b1_0 hx hZ hw hby hml hown Bd.returns  j0 j2 X0 e0 (by decide) (by decide) 
  obtain ⟨fs, hr, hrun, hended, hW, hsame⟩ := X'.leave (v := some (.long (own_f1_0 j0 j2))) (fun h => by rw [Bd.returns] at h; cases h)
  refine ⟨_, _, castTop (ef_1 m j0 j2) (st' fs hr), hrun, hended, _, _, rfl, ?_, ⟨_, rfl⟩, hW, hsame.mono (by decide) (by decide)⟩
  exact ⟨rfl, rfl, e'⟩
theorem pn_0 : plainName "com/example/refill/refill/core/TokensSumPinLaw" = true := by first | (simp [plainName, overriddenIn]; done) | decide +kernel
theorem pd_0_0 : parseMethodDescriptor "(JJ)J" = some ⟨[.long, .long], some .long⟩ := by decide +kernel
theorem ef_0 (m : MethodId) (j0 : Int64) (j2 : Int64) (i4 : Int32) : entryFrame m #[(.long j0), (.long j2), (.int i4)] maxLocals = mkF m 0 #[.val (.long j0), .second, .val (.long j2), .second, .val (.int i4), .unset, .unset, .unset, .unset, .unset, .unset, .unset, .unset, .unset, .unset, .unset] [] := by first | (simp [entryFrame, mkF, argsToLocals, Value.category, maxLocals]; done) | rfl
def own_f0_96 (j0 : Int64) (j2 : Int64) (i4 : Int32) (j5 : Int64) (j7 : Int64) (i9 : Int32) (j10 : Int64) (j12 : Int64) : Int32 :=
  (if (own_f1_0 j5 j7) = j12 then (1 : Int32) else (0 : Int32))
def own_f0_73 (j0 : Int64) (j2 : Int64) (i4 : Int32) (j5 : Int64) (j7 : Int64) (i9 : Int32) : Int32 :=
  (if (j5 + j7) < (0 : Int64) then (own_f0_96 j0 j2 i4 j5 j7 i9 (j5 + j7) (9223372036854775807 : Int64)) else (own_f0_96 j0 j2 i4 j5 j7 i9 (j5 + j7) (j5 + j7)))
def own_f0_0 (j0 : Int64) (j2 : Int64) (i4 : Int32) : Int32 :=
  (if (i4 &&& (3 : Int32)) = (1 : Int32) then (own_f0_73 j0 j2 i4 (j0 &&& (9223372036854775807 : Int64)) ((9223372036854775807 : Int64) - (j0 &&& (9223372036854775807 : Int64))) (i4 &&& (3 : Int32))) else (if (i4 &&& (3 : Int32)) = (2 : Int32) then (own_f0_73 j0 j2 i4 (j0 &&& (9223372036854775807 : Int64)) ((((9223372036854775807 : Int64) - (j0 &&& (9223372036854775807 : Int64))) + (1 : Int64)) &&& (9223372036854775807 : Int64)) (i4 &&& (3 : Int32))) else (if (i4 &&& (3 : Int32)) = (3 : Int32) then (own_f0_73 j0 j2 i4 (j0 &&& (9223372036854775807 : Int64)) (j2 &&& (255 : Int64)) (i4 &&& (3 : Int32))) else (own_f0_73 j0 j2 i4 (j0 &&& (9223372036854775807 : Int64)) (j2 &&& (9223372036854775807 : Int64)) (i4 &&& (3 : Int32))))))
set_option maxRecDepth 65536 in
set_option maxHeartbeats 40000000 in
theorem own_b0_96 {p : Program} {l : Launch} {e : Env} {s : State} {m : MethodId} {args : Array Value} {below : List Frame} {meth : Method} {c : Code} {Z : State} {a0_ : Array Value} (hx : p.tables.exec = Jvm.exec) (hZ : Z.Warmed39 s.vm) (hw : ∀ d ∈ tables_1, d.before a0_ Z = true) (hby : c.code = code) (hml : c.maxLocals = 16) (hown : s.vm.findClass "com/example/refill/refill/core/TokensSumPinLaw" = some m.cls) (hret : meth.sig.returnType = some .boolean) {T0 : State} {locs : List Loc} {cells slots : Nat} {h0 : Heap} (j0 : Int64) (j2 : Int64) (i4 : Int32) (j5 : Int64) (j7 : Int64) (i9 : Int32) (j10 : Int64) (j12 : Int64)
    (X0 : Stand p l e room_1 s m args below meth c T0 locs cells slots) (e0 : T0.heap = h0) (hcl : cells ≤ room_1.cells) (hsl : slots ≤ room_1.slots)  :
    ∃ T', Stand p l e room_1 s m args below meth c T' locs cells slots ∧ T'.heap = h0 ∧ ∀ fs, (∀ (f : JFrame) (acts : List Action), f.method = m → f.locked = none → f.entered = [] → (doReturn e (T'.setTop f) acts (some (.int (own_f0_96 j0 j2 i4 j5 j7 i9 j10 j12)))).1 = T'.setFrames fs) → Steps p.tables e below (T0.setTop (mkF m 96 #[.val (.long j0), .second, .val (.long j2), .second, .val (.int i4), .val (.long j5), .second, .val (.long j7), .second, .val (.int i9), .val (.long j10), .second, .val (.long j12), .second, .unset, .unset] [])) (T'.setFrames fs) := by
  obtain ⟨_, _, ⟨T1, L1, k1, n1⟩, -, X1, ⟨Lc1, hQ1, l1, y1, z1⟩, st1⟩ := Jvm.LawKit.callS X0 hx (y := (⟨"com/example/refill/refill/core/Tokens", "sum", "(JJ)J"⟩ : MethodName)) hown (mvT hZ (hw _ (List.mem_of_getElem? (i := 1) rfl))) (mvT hZ (hw _ (List.mem_of_getElem? (i := 2) rfl))) (mvT hZ (hw _ (List.mem_of_getElem? (i := 3) rfl))) (mvT hZ (hw _ (List.mem_of_getElem? (i := 4) rfl))) (by decide) (backOf (W := 0) (rm1 l Z a0_ hw [] j5 j7  h0 0 (Nat.zero_le _) ) hZ (hw _ (List.mem_of_getElem? (i := 4) rfl)) (hw _ (List.mem_of_getElem? (i := 3) rfl)) (by decide) (by decide)) (g := (mkF m 100 #[.val (.long j0), .second, .val (.long j2), .second, .val (.int i4), .val (.long j5), .second, .val (.long j7), .second, .val (.int i9), .val (.long j10), .second, .val (.long j12), .second, .unset, .unset] [(.long j7), (.long j5)])) rfl (by rw [hml]; rfl) (argsL := [(.long j5), (.long j7)]) (rest := []) (lenOf pd_0_0 rfl) rfl (by show 2 * 0 + _ ≤ _; exact Nat.le_of_eq rfl) (hb hby at_100) (fun _ _ => ⟨rfl, e0, hcl, hsl⟩)
  dsimp only [Pt.U, Pt.locs, Pt.cells, Pt.slots] at X1 l1 y1 z1 st1 hQ1
  subst l1 y1 z1
  obtain ⟨rfl, rfl, e1⟩ := hQ1
  rw [List.append_nil] at X1
  have pre2 : ∀ target, Steps p.tables e below (T1.setTop (mkF m 110 #[.val (.long j0), .second, .val (.long j2), .second, .val (.int i4), .val (.long j5), .second, .val (.long j7), .second, .val (.int i9), .val (.long j10), .second, .val (.long j12), .second, .val (.long (own_f1_0 j5 j7)), .second] [(.int (lcmpW (own_f1_0 j5 j7) j12))])) target → Steps p.tables e below (T0.setTop (mkF m 96 #[.val (.long j0), .second, .val (.long j2), .second, .val (.int i4), .val (.long j5), .second, .val (.long j7), .second, .val (.int i9), .val (.long j10), .second, .val (.long j12), .second, .unset, .unset] [])) target := by
    intro target kt
    show Steps p.tables e below (T0.setTop (mkF m 96 #[.val (.long j0), .second, .val (.long j2), .second, .val (.int i4), .val (.long j5), .second, .val (.long j7), .second, .val (.int i9), .val (.long j10), .second, .val (.long j12), .second, .unset, .unset] [])) _
    refine XS.lload X0.here hx rfl (hb hby at_96) rfl ?_
    show Steps p.tables e below (T0.setTop (mkF m 98 #[.val (.long j0), .second, .val (.long j2), .second, .val (.int i4), .val (.long j5), .second, .val (.long j7), .second, .val (.int i9), .val (.long j10), .second, .val (.long j12), .second, .unset, .unset] [(.long j5)])) _
    refine XS.lload X0.here hx rfl (hb hby at_98) rfl ?_
    show Steps p.tables e below (T0.setTop (mkF m 100 #[.val (.long j0), .second, .val (.long j2), .second, .val (.int i4), .val (.long j5), .second, .val (.long j7), .second, .val (.int i9), .val (.long j10), .second, .val (.long j12), .second, .unset, .unset] [(.long j7), (.long j5)])) _
    refine st1 _ ?_
    show Steps p.tables e below (T1.setTop (mkF m 103 #[.val (.long j0), .second, .val (.long j2), .second, .val (.int i4), .val (.long j5), .second, .val (.long j7), .second, .val (.int i9), .val (.long j10), .second, .val (.long j12), .second, .unset, .unset] [(.long (own_f1_0 j5 j7))])) _
    refine XS.lstore X1.here hx rfl (hb hby at_103) rfl (l' := #[.val (.long j0), .second, .val (.long j2), .second, .val (.int i4), .val (.long j5), .second, .val (.long j7), .second, .val (.int i9), .val (.long j10), .second, .val (.long j12), .second, .val (.long (own_f1_0 j5 j7)), .second]) rfl ?_
    show Steps p.tables e below (T1.setTop (mkF m 105 #[.val (.long j0), .second, .val (.long j2), .second, .val (.int i4), .val (.long j5), .second, .val (.long j7), .second, .val (.int i9), .val (.long j10), .second, .val (.long j12), .second, .val (.long (own_f1_0 j5 j7)), .second] [])) _
    refine XS.lload X1.here hx rfl (hb hby at_105) rfl ?_
    show Steps p.tables e below (T1.setTop (mkF m 107 #[.val (.long j0), .second, .val (.long j2), .second, .val (.int i4), .val (.long j5), .second, .val (.long j7), .second, .val (.int i9), .val (.long j10), .second, .val (.long j12), .second, .val (.long (own_f1_0 j5 j7)), .second] [(.long (own_f1_0 j5 j7))])) _
    refine XS.lload X1.here hx rfl (hb hby at_107) rfl ?_
    show Steps p.tables e below (T1.setTop (mkF m 109 #[.val (.long j0), .second, .val (.long j2), .second, .val (.int i4), .val (.long j5), .second, .val (.long j7), .second, .val (.int i9), .val (.long j10), .second, .val (.long j12), .second, .val (.long (own_f1_0 j5 j7)), .second] [(.long j12), (.long (own_f1_0 j5 j7))])) _
    refine XS.lcmp X1.here hx rfl (hb hby at_109) rfl ?_
    exact kt
  by_cases hc110 : (own_f1_0 j5 j7) = j12
  · refine ⟨T1, X1, e1, fun fs hr => ?_⟩
    have hv : (own_f0_96 j0 j2 i4 j5 j7 i9 j10 j12) = (1 : Int32) := by unfold own_f0_96; rw [if_pos hc110]
    rw [hv] at hr
    refine pre2 _ ?_
    show Steps p.tables e below (T1.setTop (mkF m 110 #[.val (.long j0), .second, .val (.long j2), .second, .val (.int i4), .val (.long j5), .second, .val (.long j7), .second, .val (.int i9), .val (.long j10), .second, .val (.long j12), .second, .val (.long (own_f1_0 j5 j7)), .second] [(.int (lcmpW (own_f1_0 j5 j7) j12))])) _
    refine XS.ifNo X1.here hx rfl (hb hby at_110) rfl ((if0 _ _).trans (teq ((lw_eq _ _).mpr hc110)).2) ?_
    show Steps p.tables e below (T1.setTop (mkF m 113 #[.val (.long j0), .second, .val (.long j2), .second, .val (.int i4), .val (.long j5), .second, .val (.long j7), .second, .val (.int i9), .val (.long j10), .second, .val (.long j12), .second, .val (.long (own_f1_0 j5 j7)), .second] [])) _
    refine XS.iconst X1.here hx rfl (hb hby at_113) ?_
    show Steps p.tables e below (T1.setTop (mkF m 114 #[.val (.long j0), .second, .val (.long j2), .second, .val (.int i4), .val (.long j5), .second, .val (.long j7), .second, .val (.int i9), .val (.long j10), .second, .val (.long j12), .second, .val (.long (own_f1_0 j5 j7)), .second] [(.int (1 : Int32))])) _
    refine XS.goto X1.here hx rfl (pc0 := 114) (pc' := 118) rfl (hb hby at_114) (by decide) (by decide) ?_
    show Steps p.tables e below (T1.setTop (mkF m 118 #[.val (.long j0), .second, .val (.long j2), .second, .val (.int i4), .val (.long j5), .second, .val (.long j7), .second, .val (.int i9), .val (.long j10), .second, .val (.long j12), .second, .val (.long (own_f1_0 j5 j7)), .second] [(.int (1 : Int32))])) _
    exact retN X1 hx (t := .boolean) hret (by simp) (hb hby at_118) hr
  · refine ⟨T1, X1, e1, fun fs hr => ?_⟩
    have hv : (own_f0_96 j0 j2 i4 j5 j7 i9 j10 j12) = (0 : Int32) := by unfold own_f0_96; rw [if_neg hc110]
    rw [hv] at hr
    refine pre2 _ ?_
    show Steps p.tables e below (T1.setTop (mkF m 110 #[.val (.long j0), .second, .val (.long j2), .second, .val (.int i4), .val (.long j5), .second, .val (.long j7), .second, .val (.int i9), .val (.long j10), .second, .val (.long j12), .second, .val (.long (own_f1_0 j5 j7)), .second] [(.int (lcmpW (own_f1_0 j5 j7) j12))])) _
    refine XS.ifYes X1.here hx rfl (pc0 := 110) (pc' := 117) rfl (hb hby at_110) rfl ((if0 _ _).trans (feq (mt (lw_eq _ _).mp hc110)).2) (by decide) (by decide) ?_
    show Steps p.tables e below (T1.setTop (mkF m 117 #[.val (.long j0), .second, .val (.long j2), .second, .val (.int i4), .val (.long j5), .second, .val (.long j7), .second, .val (.int i9), .val (.long j10), .second, .val (.long j12), .second, .val (.long (own_f1_0 j5 j7)), .second] [])) _
    refine XS.iconst X1.here hx rfl (hb hby at_117) ?_
    show Steps p.tables e below (T1.setTop (mkF m 118 #[.val (.long j0), .second, .val (.long j2), .second, .val (.int i4), .val (.long j5), .second, .val (.long j7), .second, .val (.int i9), .val (.long j10), .second, .val (.long j12), .second, .val (.long (own_f1_0 j5 j7)), .second] [(.int (0 : Int32))])) _
    exact retN X1 hx (t := .boolean) hret (by simp) (hb hby at_118) hr
set_option maxRecDepth 65536 in
set_option maxHeartbeats 40000000 in
theorem own_b0_73 {p : Program} {l : Launch} {e : Env} {s : State} {m : MethodId} {args : Array Value} {below : List Frame} {meth : Method} {c : Code} {Z : State} {a0_ : Array Value} (hx : p.tables.exec = Jvm.exec) (hZ : Z.Warmed39 s.vm) (hw : ∀ d ∈ tables_1, d.before a0_ Z = true) (hby : c.code = code) (hml : c.maxLocals = 16) (hown : s.vm.findClass "com/example/refill/refill/core/TokensSumPinLaw" = some m.cls) (hret : meth.sig.returnType = some .boolean) {T0 : State} {locs : List Loc} {cells slots : Nat} {h0 : Heap} (j0 : Int64) (j2 : Int64) (i4 : Int32) (j5 : Int64) (j7 : Int64) (i9 : Int32)
    (X0 : Stand p l e room_1 s m args below meth c T0 locs cells slots) (e0 : T0.heap = h0) (hcl : cells ≤ room_1.cells) (hsl : slots ≤ room_1.slots)  :
    ∃ T', Stand p l e room_1 s m args below meth c T' locs cells slots ∧ T'.heap = h0 ∧ ∀ fs, (∀ (f : JFrame) (acts : List Action), f.method = m → f.locked = none → f.entered = [] → (doReturn e (T'.setTop f) acts (some (.int (own_f0_73 j0 j2 i4 j5 j7 i9)))).1 = T'.setFrames fs) → Steps p.tables e below (T0.setTop (mkF m 73 #[.val (.long j0), .second, .val (.long j2), .second, .val (.int i4), .val (.long j5), .second, .val (.long j7), .second, .val (.int i9), .unset, .unset, .unset, .unset, .unset, .unset] [])) (T'.setFrames fs) := by
  have pre1 : ∀ target, Steps p.tables e below (T0.setTop (mkF m 88 #[.val (.long j0), .second, .val (.long j2), .second, .val (.int i4), .val (.long j5), .second, .val (.long j7), .second, .val (.int i9), .val (.long (j5 + j7)), .second, .val (.long (j5 + j7)), .second, .unset, .unset] [(.int (lcmpW (j5 + j7) (0 : Int64)))])) target → Steps p.tables e below (T0.setTop (mkF m 73 #[.val (.long j0), .second, .val (.long j2), .second, .val (.int i4), .val (.long j5), .second, .val (.long j7), .second, .val (.int i9), .unset, .unset, .unset, .unset, .unset, .unset] [])) target := by
    intro target kt
    show Steps p.tables e below (T0.setTop (mkF m 73 #[.val (.long j0), .second, .val (.long j2), .second, .val (.int i4), .val (.long j5), .second, .val (.long j7), .second, .val (.int i9), .unset, .unset, .unset, .unset, .unset, .unset] [])) _
    refine XS.lload X0.here hx rfl (hb hby at_73) rfl ?_
    show Steps p.tables e below (T0.setTop (mkF m 75 #[.val (.long j0), .second, .val (.long j2), .second, .val (.int i4), .val (.long j5), .second, .val (.long j7), .second, .val (.int i9), .unset, .unset, .unset, .unset, .unset, .unset] [(.long j5)])) _
    refine XS.lload X0.here hx rfl (hb hby at_75) rfl ?_
    show Steps p.tables e below (T0.setTop (mkF m 77 #[.val (.long j0), .second, .val (.long j2), .second, .val (.int i4), .val (.long j5), .second, .val (.long j7), .second, .val (.int i9), .unset, .unset, .unset, .unset, .unset, .unset] [(.long j7), (.long j5)])) _
    refine XS.ladd X0.here hx rfl (hb hby at_77) rfl ?_
    show Steps p.tables e below (T0.setTop (mkF m 78 #[.val (.long j0), .second, .val (.long j2), .second, .val (.int i4), .val (.long j5), .second, .val (.long j7), .second, .val (.int i9), .unset, .unset, .unset, .unset, .unset, .unset] [(.long (j5 + j7))])) _
    refine XS.lstore X0.here hx rfl (hb hby at_78) rfl (l' := #[.val (.long j0), .second, .val (.long j2), .second, .val (.int i4), .val (.long j5), .second, .val (.long j7), .second, .val (.int i9), .val (.long (j5 + j7)), .second, .unset, .unset, .unset, .unset]) rfl ?_
    show Steps p.tables e below (T0.setTop (mkF m 80 #[.val (.long j0), .second, .val (.long j2), .second, .val (.int i4), .val (.long j5), .second, .val (.long j7), .second, .val (.int i9), .val (.long (j5 + j7)), .second, .unset, .unset, .unset, .unset] [])) _
    refine XS.lload X0.here hx rfl (hb hby at_80) rfl ?_
    show Steps p.tables e below (T0.setTop (mkF m 82 #[.val (.long j0), .second, .val (.long j2), .second, .val (.int i4), .val (.long j5), .second, .val (.long j7), .second, .val (.int i9), .val (.long (j5 + j7)), .second, .unset, .unset, .unset, .unset] [(.long (j5 + j7))])) _
    refine XS.lstore X0.here hx rfl (hb hby at_82) rfl (l' := #[.val (.long j0), .second, .val (.long j2), .second, .val (.int i4), .val (.long j5), .second, .val (.long j7), .second, .val (.int i9), .val (.long (j5 + j7)), .second, .val (.long (j5 + j7)), .second, .unset, .unset]) rfl ?_
    show Steps p.tables e below (T0.setTop (mkF m 84 #[.val (.long j0), .second, .val (.long j2), .second, .val (.int i4), .val (.long j5), .second, .val (.long j7), .second, .val (.int i9), .val (.long (j5 + j7)), .second, .val (.long (j5 + j7)), .second, .unset, .unset] [])) _
    refine XS.lload X0.here hx rfl (hb hby at_84) rfl ?_
    show Steps p.tables e below (T0.setTop (mkF m 86 #[.val (.long j0), .second, .val (.long j2), .second, .val (.int i4), .val (.long j5), .second, .val (.long j7), .second, .val (.int i9), .val (.long (j5 + j7)), .second, .val (.long (j5 + j7)), .second, .unset, .unset] [(.long (j5 + j7))])) _
    refine XS.lconst X0.here hx rfl (hb hby at_86) ?_
    show Steps p.tables e below (T0.setTop (mkF m 87 #[.val (.long j0), .second, .val (.long j2), .second, .val (.int i4), .val (.long j5), .second, .val (.long j7), .second, .val (.int i9), .val (.long (j5 + j7)), .second, .val (.long (j5 + j7)), .second, .unset, .unset] [(.long (0 : Int64)), (.long (j5 + j7))])) _
    refine XS.lcmp X0.here hx rfl (hb hby at_87) rfl ?_
    exact kt
  by_cases hc88 : (j5 + j7) < (0 : Int64)
  · have pre2 : ∀ target, Steps p.tables e below (T0.setTop (mkF m 96 #[.val (.long j0), .second, .val (.long j2), .second, .val (.int i4), .val (.long j5), .second, .val (.long j7), .second, .val (.int i9), .val (.long (j5 + j7)), .second, .val (.long (9223372036854775807 : Int64)), .second, .unset, .unset] [])) target → Steps p.tables e below (T0.setTop (mkF m 73 #[.val (.long j0), .second, .val (.long j2), .second, .val (.int i4), .val (.long j5), .second, .val (.long j7), .second, .val (.int i9), .unset, .unset, .unset, .unset, .unset, .unset] [])) target := by
      intro target kt
      refine pre1 target ?_
      show Steps p.tables e below (T0.setTop (mkF m 88 #[.val (.long j0), .second, .val (.long j2), .second, .val (.int i4), .val (.long j5), .second, .val (.long j7), .second, .val (.int i9), .val (.long (j5 + j7)), .second, .val (.long (j5 + j7)), .second, .unset, .unset] [(.int (lcmpW (j5 + j7) (0 : Int64)))])) _
      refine XS.ifNo X0.here hx rfl (hb hby at_88) rfl ((if0 _ _).trans (tlt ((lw_lt _ _).mpr hc88)).2.1) ?_
      show Steps p.tables e below (T0.setTop (mkF m 91 #[.val (.long j0), .second, .val (.long j2), .second, .val (.int i4), .val (.long j5), .second, .val (.long j7), .second, .val (.int i9), .val (.long (j5 + j7)), .second, .val (.long (j5 + j7)), .second, .unset, .unset] [])) _
      refine X0.ldc2Long hx hown (mvT hZ (hw _ (List.mem_of_getElem? (i := 0) rfl))) (g := (mkF m 91 #[.val (.long j0), .second, .val (.long j2), .second, .val (.int i4), .val (.long j5), .second, .val (.long j7), .second, .val (.int i9), .val (.long (j5 + j7)), .second, .val (.long (j5 + j7)), .second, .unset, .unset] [])) rfl (hb hby at_91) _ ?_
      show Steps p.tables e below (T0.setTop (mkF m 94 #[.val (.long j0), .second, .val (.long j2), .second, .val (.int i4), .val (.long j5), .second, .val (.long j7), .second, .val (.int i9), .val (.long (j5 + j7)), .second, .val (.long (j5 + j7)), .second, .unset, .unset] [(.long (9223372036854775807 : Int64))])) _
      refine XS.lstore X0.here hx rfl (hb hby at_94) rfl (l' := #[.val (.long j0), .second, .val (.long j2), .second, .val (.int i4), .val (.long j5), .second, .val (.long j7), .second, .val (.int i9), .val (.long (j5 + j7)), .second, .val (.long (9223372036854775807 : Int64)), .second, .unset, .unset]) rfl ?_
      exact kt
    obtain ⟨T3, X3, e3, st3⟩ := own_b0_96 hx hZ hw hby hml hown hret j0 j2 i4 j5 j7 i9 (j5 + j7) (9223372036854775807 : Int64)  X0 e0 hcl hsl  
    have hv : (own_f0_73 j0 j2 i4 j5 j7 i9) = (own_f0_96 j0 j2 i4 j5 j7 i9 (j5 + j7) (9223372036854775807 : Int64)) := by unfold own_f0_73; rw [if_pos hc88]
    exact ⟨T3, X3, e3, fun fs hr => pre2 _ (st3 fs (by rw [hv] at hr; exact hr))⟩
  · have pre4 : ∀ target, Steps p.tables e below (T0.setTop (mkF m 96 #[.val (.long j0), .second, .val (.long j2), .second, .val (.int i4), .val (.long j5), .second, .val (.long j7), .second, .val (.int i9), .val (.long (j5 + j7)), .second, .val (.long (j5 + j7)), .second, .unset, .unset] [])) target → Steps p.tables e below (T0.setTop (mkF m 73 #[.val (.long j0), .second, .val (.long j2), .second, .val (.int i4), .val (.long j5), .second, .val (.long j7), .second, .val (.int i9), .unset, .unset, .unset, .unset, .unset, .unset] [])) target := by
      intro target kt
      refine pre1 target ?_
      show Steps p.tables e below (T0.setTop (mkF m 88 #[.val (.long j0), .second, .val (.long j2), .second, .val (.int i4), .val (.long j5), .second, .val (.long j7), .second, .val (.int i9), .val (.long (j5 + j7)), .second, .val (.long (j5 + j7)), .second, .unset, .unset] [(.int (lcmpW (j5 + j7) (0 : Int64)))])) _
      refine XS.ifYes X0.here hx rfl (pc0 := 88) (pc' := 96) rfl (hb hby at_88) rfl ((if0 _ _).trans (flt (mt (lw_lt _ _).mp hc88)).2.1) (by decide) (by decide) ?_
      exact kt
    obtain ⟨T5, X5, e5, st5⟩ := own_b0_96 hx hZ hw hby hml hown hret j0 j2 i4 j5 j7 i9 (j5 + j7) (j5 + j7)  X0 e0 hcl hsl  
    have hv : (own_f0_73 j0 j2 i4 j5 j7 i9) = (own_f0_96 j0 j2 i4 j5 j7 i9 (j5 + j7) (j5 + j7)) := by unfold own_f0_73; rw [if_neg hc88]
    exact ⟨T5, X5, e5, fun fs hr => pre4 _ (st5 fs (by rw [hv] at hr; exact hr))⟩
set_option maxRecDepth 65536 in
set_option maxHeartbeats 40000000 in
theorem own_b0_0 {p : Program} {l : Launch} {e : Env} {s : State} {m : MethodId} {args : Array Value} {below : List Frame} {meth : Method} {c : Code} {Z : State} {a0_ : Array Value} (hx : p.tables.exec = Jvm.exec) (hZ : Z.Warmed39 s.vm) (hw : ∀ d ∈ tables_1, d.before a0_ Z = true) (hby : c.code = code) (hml : c.maxLocals = 16) (hown : s.vm.findClass "com/example/refill/refill/core/TokensSumPinLaw" = some m.cls) (hret : meth.sig.returnType = some .boolean) {T0 : State} {locs : List Loc} {cells slots : Nat} {h0 : Heap} (j0 : Int64) (j2 : Int64) (i4 : Int32)
    (X0 : Stand p l e room_1 s m args below meth c T0 locs cells slots) (e0 : T0.heap = h0) (hcl : cells ≤ room_1.cells) (hsl : slots ≤ room_1.slots)  :
    ∃ T', Stand p l e room_1 s m args below meth c T' locs cells slots ∧ T'.heap = h0 ∧ ∀ fs, (∀ (f : JFrame) (acts : List Action), f.method = m → f.locked = none → f.entered = [] → (doReturn e (T'.setTop f) acts (some (.int (own_f0_0 j0 j2 i4)))).1 = T'.setFrames fs) → Steps p.tables e below (T0.setTop (mkF m 0 #[.val (.long j0), .second, .val (.long j2), .second, .val (.int i4), .unset, .unset, .unset, .unset, .unset, .unset, .unset, .unset, .unset, .unset, .unset] [])) (T'.setFrames fs) := by
  have pre1 : ∀ target, Steps p.tables e below (T0.setTop (mkF m 23 #[.val (.long j0), .second, .val (.long j2), .second, .val (.int i4), .val (.long (j0 &&& (9223372036854775807 : Int64))), .second, .val (.long (j2 &&& (9223372036854775807 : Int64))), .second, .val (.int (i4 &&& (3 : Int32))), .unset, .unset, .unset, .unset, .unset, .unset] [(.int (1 : Int32)), (.int (i4 &&& (3 : Int32)))])) target → Steps p.tables e below (T0.setTop (mkF m 0 #[.val (.long j0), .second, .val (.long j2), .second, .val (.int i4), .unset, .unset, .unset, .unset, .unset, .unset, .unset, .unset, .unset, .unset, .unset] [])) target := by
    intro target kt
    show Steps p.tables e below (T0.setTop (mkF m 0 #[.val (.long j0), .second, .val (.long j2), .second, .val (.int i4), .unset, .unset, .unset, .unset, .unset, .unset, .unset, .unset, .unset, .unset, .unset] [])) _
    refine XS.lloadN X0.here hx rfl (hb hby at_0) rfl ?_
    show Steps p.tables e below (T0.setTop (mkF m 1 #[.val (.long j0), .second, .val (.long j2), .second, .val (.int i4), .unset, .unset, .unset, .unset, .unset, .unset, .unset, .unset, .unset, .unset, .unset] [(.long j0)])) _
    refine X0.ldc2Long hx hown (mvT hZ (hw _ (List.mem_of_getElem? (i := 0) rfl))) (g := (mkF m 1 #[.val (.long j0), .second, .val (.long j2), .second, .val (.int i4), .unset, .unset, .unset, .unset, .unset, .unset, .unset, .unset, .unset, .unset, .unset] [(.long j0)])) rfl (hb hby at_1) _ ?_
    show Steps p.tables e below (T0.setTop (mkF m 4 #[.val (.long j0), .second, .val (.long j2), .second, .val (.int i4), .unset, .unset, .unset, .unset, .unset, .unset, .unset, .unset, .unset, .unset, .unset] [(.long (9223372036854775807 : Int64)), (.long j0)])) _
    refine XS.land X0.here hx rfl (hb hby at_4) rfl ?_
    show Steps p.tables e below (T0.setTop (mkF m 5 #[.val (.long j0), .second, .val (.long j2), .second, .val (.int i4), .unset, .unset, .unset, .unset, .unset, .unset, .unset, .unset, .unset, .unset, .unset] [(.long (j0 &&& (9223372036854775807 : Int64)))])) _
    refine XS.lstore X0.here hx rfl (hb hby at_5) rfl (l' := #[.val (.long j0), .second, .val (.long j2), .second, .val (.int i4), .val (.long (j0 &&& (9223372036854775807 : Int64))), .second, .unset, .unset, .unset, .unset, .unset, .unset, .unset, .unset, .unset]) rfl ?_
    show Steps p.tables e below (T0.setTop (mkF m 7 #[.val (.long j0), .second, .val (.long j2), .second, .val (.int i4), .val (.long (j0 &&& (9223372036854775807 : Int64))), .second, .unset, .unset, .unset, .unset, .unset, .unset, .unset, .unset, .unset] [])) _
    refine XS.lloadN X0.here hx rfl (hb hby at_7) rfl ?_
    show Steps p.tables e below (T0.setTop (mkF m 8 #[.val (.long j0), .second, .val (.long j2), .second, .val (.int i4), .val (.long (j0 &&& (9223372036854775807 : Int64))), .second, .unset, .unset, .unset, .unset, .unset, .unset, .unset, .unset, .unset] [(.long j2)])) _
    refine X0.ldc2Long hx hown (mvT hZ (hw _ (List.mem_of_getElem? (i := 0) rfl))) (g := (mkF m 8 #[.val (.long j0), .second, .val (.long j2), .second, .val (.int i4), .val (.long (j0 &&& (9223372036854775807 : Int64))), .second, .unset, .unset, .unset, .unset, .unset, .unset, .unset, .unset, .unset] [(.long j2)])) rfl (hb hby at_8) _ ?_
    show Steps p.tables e below (T0.setTop (mkF m 11 #[.val (.long j0), .second, .val (.long j2), .second, .val (.int i4), .val (.long (j0 &&& (9223372036854775807 : Int64))), .second, .unset, .unset, .unset, .unset, .unset, .unset, .unset, .unset, .unset] [(.long (9223372036854775807 : Int64)), (.long j2)])) _
    refine XS.land X0.here hx rfl (hb hby at_11) rfl ?_
    show Steps p.tables e below (T0.setTop (mkF m 12 #[.val (.long j0), .second, .val (.long j2), .second, .val (.int i4), .val (.long (j0 &&& (9223372036854775807 : Int64))), .second, .unset, .unset, .unset, .unset, .unset, .unset, .unset, .unset, .unset] [(.long (j2 &&& (9223372036854775807 : Int64)))])) _
    refine XS.lstore X0.here hx rfl (hb hby at_12) rfl (l' := #[.val (.long j0), .second, .val (.long j2), .second, .val (.int i4), .val (.long (j0 &&& (9223372036854775807 : Int64))), .second, .val (.long (j2 &&& (9223372036854775807 : Int64))), .second, .unset, .unset, .unset, .unset, .unset, .unset, .unset]) rfl ?_
    show Steps p.tables e below (T0.setTop (mkF m 14 #[.val (.long j0), .second, .val (.long j2), .second, .val (.int i4), .val (.long (j0 &&& (9223372036854775807 : Int64))), .second, .val (.long (j2 &&& (9223372036854775807 : Int64))), .second, .unset, .unset, .unset, .unset, .unset, .unset, .unset] [])) _
    refine XS.iload X0.here hx rfl (hb hby at_14) rfl ?_
    show Steps p.tables e below (T0.setTop (mkF m 16 #[.val (.long j0), .second, .val (.long j2), .second, .val (.int i4), .val (.long (j0 &&& (9223372036854775807 : Int64))), .second, .val (.long (j2 &&& (9223372036854775807 : Int64))), .second, .unset, .unset, .unset, .unset, .unset, .unset, .unset] [(.int i4)])) _
    refine XS.iconst X0.here hx rfl (hb hby at_16) ?_
    show Steps p.tables e below (T0.setTop (mkF m 17 #[.val (.long j0), .second, .val (.long j2), .second, .val (.int i4), .val (.long (j0 &&& (9223372036854775807 : Int64))), .second, .val (.long (j2 &&& (9223372036854775807 : Int64))), .second, .unset, .unset, .unset, .unset, .unset, .unset, .unset] [(.int (3 : Int32)), (.int i4)])) _
    refine XS.iand X0.here hx rfl (hb hby at_17) rfl ?_
    show Steps p.tables e below (T0.setTop (mkF m 18 #[.val (.long j0), .second, .val (.long j2), .second, .val (.int i4), .val (.long (j0 &&& (9223372036854775807 : Int64))), .second, .val (.long (j2 &&& (9223372036854775807 : Int64))), .second, .unset, .unset, .unset, .unset, .unset, .unset, .unset] [(.int (i4 &&& (3 : Int32)))])) _
    refine XS.istore X0.here hx rfl (hb hby at_18) rfl (l' := #[.val (.long j0), .second, .val (.long j2), .second, .val (.int i4), .val (.long (j0 &&& (9223372036854775807 : Int64))), .second, .val (.long (j2 &&& (9223372036854775807 : Int64))), .second, .val (.int (i4 &&& (3 : Int32))), .unset, .unset, .unset, .unset, .unset, .unset]) rfl ?_
    show Steps p.tables e below (T0.setTop (mkF m 20 #[.val (.long j0), .second, .val (.long j2), .second, .val (.int i4), .val (.long (j0 &&& (9223372036854775807 : Int64))), .second, .val (.long (j2 &&& (9223372036854775807 : Int64))), .second, .val (.int (i4 &&& (3 : Int32))), .unset, .unset, .unset, .unset, .unset, .unset] [])) _
    refine XS.iload X0.here hx rfl (hb hby at_20) rfl ?_
    show Steps p.tables e below (T0.setTop (mkF m 22 #[.val (.long j0), .second, .val (.long j2), .second, .val (.int i4), .val (.long (j0 &&& (9223372036854775807 : Int64))), .second, .val (.long (j2 &&& (9223372036854775807 : Int64))), .second, .val (.int (i4 &&& (3 : Int32))), .unset, .unset, .unset, .unset, .unset, .unset] [(.int (i4 &&& (3 : Int32)))])) _
    refine XS.iconst X0.here hx rfl (hb hby at_22) ?_
    exact kt
  by_cases hc23 : (i4 &&& (3 : Int32)) = (1 : Int32)
  · have pre2 : ∀ target, Steps p.tables e below (T0.setTop (mkF m 73 #[.val (.long j0), .second, .val (.long j2), .second, .val (.int i4), .val (.long (j0 &&& (9223372036854775807 : Int64))), .second, .val (.long ((9223372036854775807 : Int64) - (j0 &&& (9223372036854775807 : Int64)))), .second, .val (.int (i4 &&& (3 : Int32))), .unset, .unset, .unset, .unset, .unset, .unset] [])) target → Steps p.tables e below (T0.setTop (mkF m 0 #[.val (.long j0), .second, .val (.long j2), .second, .val (.int i4), .unset, .unset, .unset, .unset, .unset, .unset, .unset, .unset, .unset, .unset, .unset] [])) target := by
      intro target kt
      refine pre1 target ?_
      show Steps p.tables e below (T0.setTop (mkF m 23 #[.val (.long j0), .second, .val (.long j2), .second, .val (.int i4), .val (.long (j0 &&& (9223372036854775807 : Int64))), .second, .val (.long (j2 &&& (9223372036854775807 : Int64))), .second, .val (.int (i4 &&& (3 : Int32))), .unset, .unset, .unset, .unset, .unset, .unset] [(.int (1 : Int32)), (.int (i4 &&& (3 : Int32)))])) _
      refine XS.icmpNo X0.here hx rfl (hb hby at_23) rfl (teq hc23).2 ?_
      show Steps p.tables e below (T0.setTop (mkF m 26 #[.val (.long j0), .second, .val (.long j2), .second, .val (.int i4), .val (.long (j0 &&& (9223372036854775807 : Int64))), .second, .val (.long (j2 &&& (9223372036854775807 : Int64))), .second, .val (.int (i4 &&& (3 : Int32))), .unset, .unset, .unset, .unset, .unset, .unset] [])) _
      refine X0.ldc2Long hx hown (mvT hZ (hw _ (List.mem_of_getElem? (i := 0) rfl))) (g := (mkF m 26 #[.val (.long j0), .second, .val (.long j2), .second, .val (.int i4), .val (.long (j0 &&& (9223372036854775807 : Int64))), .second, .val (.long (j2 &&& (9223372036854775807 : Int64))), .second, .val (.int (i4 &&& (3 : Int32))), .unset, .unset, .unset, .unset, .unset, .unset] [])) rfl (hb hby at_26) _ ?_
      show Steps p.tables e below (T0.setTop (mkF m 29 #[.val (.long j0), .second, .val (.long j2), .second, .val (.int i4), .val (.long (j0 &&& (9223372036854775807 : Int64))), .second, .val (.long (j2 &&& (9223372036854775807 : Int64))), .second, .val (.int (i4 &&& (3 : Int32))), .unset, .unset, .unset, .unset, .unset, .unset] [(.long (9223372036854775807 : Int64))])) _
      refine XS.lload X0.here hx rfl (hb hby at_29) rfl ?_
      show Steps p.tables e below (T0.setTop (mkF m 31 #[.val (.long j0), .second, .val (.long j2), .second, .val (.int i4), .val (.long (j0 &&& (9223372036854775807 : Int64))), .second, .val (.long (j2 &&& (9223372036854775807 : Int64))), .second, .val (.int (i4 &&& (3 : Int32))), .unset, .unset, .unset, .unset, .unset, .unset] [(.long (j0 &&& (9223372036854775807 : Int64))), (.long (9223372036854775807 : Int64))])) _
      refine XS.lsub X0.here hx rfl (hb hby at_31) rfl ?_
      show Steps p.tables e below (T0.setTop (mkF m 32 #[.val (.long j0), .second, .val (.long j2), .second, .val (.int i4), .val (.long (j0 &&& (9223372036854775807 : Int64))), .second, .val (.long (j2 &&& (9223372036854775807 : Int64))), .second, .val (.int (i4 &&& (3 : Int32))), .unset, .unset, .unset, .unset, .unset, .unset] [(.long ((9223372036854775807 : Int64) - (j0 &&& (9223372036854775807 : Int64))))])) _
      refine XS.lstore X0.here hx rfl (hb hby at_32) rfl (l' := #[.val (.long j0), .second, .val (.long j2), .second, .val (.int i4), .val (.long (j0 &&& (9223372036854775807 : Int64))), .second, .val (.long ((9223372036854775807 : Int64) - (j0 &&& (9223372036854775807 : Int64)))), .second, .val (.int (i4 &&& (3 : Int32))), .unset, .unset, .unset, .unset, .unset, .unset]) rfl ?_
      show Steps p.tables e below (T0.setTop (mkF m 34 #[.val (.long j0), .second, .val (.long j2), .second, .val (.int i4), .val (.long (j0 &&& (9223372036854775807 : Int64))), .second, .val (.long ((9223372036854775807 : Int64) - (j0 &&& (9223372036854775807 : Int64)))), .second, .val (.int (i4 &&& (3 : Int32))), .unset, .unset, .unset, .unset, .unset, .unset] [])) _
      refine XS.goto X0.here hx rfl (pc0 := 34) (pc' := 73) rfl (hb hby at_34) (by decide) (by decide) ?_
      exact kt
    obtain ⟨T3, X3, e3, st3⟩ := own_b0_73 hx hZ hw hby hml hown hret j0 j2 i4 (j0 &&& (9223372036854775807 : Int64)) ((9223372036854775807 : Int64) - (j0 &&& (9223372036854775807 : Int64))) (i4 &&& (3 : Int32))  X0 e0 hcl hsl  
    have hv : (own_f0_0 j0 j2 i4) = (own_f0_73 j0 j2 i4 (j0 &&& (9223372036854775807 : Int64)) ((9223372036854775807 : Int64) - (j0 &&& (9223372036854775807 : Int64))) (i4 &&& (3 : Int32))) := by unfold own_f0_0; rw [if_pos hc23]
    exact ⟨T3, X3, e3, fun fs hr => pre2 _ (st3 fs (by rw [hv] at hr; exact hr))⟩
  · have pre4 : ∀ target, Steps p.tables e below (T0.setTop (mkF m 40 #[.val (.long j0), .second, .val (.long j2), .second, .val (.int i4), .val (.long (j0 &&& (9223372036854775807 : Int64))), .second, .val (.long (j2 &&& (9223372036854775807 : Int64))), .second, .val (.int (i4 &&& (3 : Int32))), .unset, .unset, .unset, .unset, .unset, .unset] [(.int (2 : Int32)), (.int (i4 &&& (3 : Int32)))])) target → Steps p.tables e below (T0.setTop (mkF m 0 #[.val (.long j0), .second, .val (.long j2), .second, .val (.int i4), .unset, .unset, .unset, .unset, .unset, .unset, .unset, .unset, .unset, .unset, .unset] [])) target := by
      intro target kt
      refine pre1 target ?_
      show Steps p.tables e below (T0.setTop (mkF m 23 #[.val (.long j0), .second, .val (.long j2), .second, .val (.int i4), .val (.long (j0 &&& (9223372036854775807 : Int64))), .second, .val (.long (j2 &&& (9223372036854775807 : Int64))), .second, .val (.int (i4 &&& (3 : Int32))), .unset, .unset, .unset, .unset, .unset, .unset] [(.int (1 : Int32)), (.int (i4 &&& (3 : Int32)))])) _
      refine XS.icmpYes X0.here hx rfl (pc0 := 23) (pc' := 37) rfl (hb hby at_23) rfl (feq hc23).2 (by decide) (by decide) ?_
      show Steps p.tables e below (T0.setTop (mkF m 37 #[.val (.long j0), .second, .val (.long j2), .second, .val (.int i4), .val (.long (j0 &&& (9223372036854775807 : Int64))), .second, .val (.long (j2 &&& (9223372036854775807 : Int64))), .second, .val (.int (i4 &&& (3 : Int32))), .unset, .unset, .unset, .unset, .unset, .unset] [])) _
      refine XS.iload X0.here hx rfl (hb hby at_37) rfl ?_
      show Steps p.tables e below (T0.setTop (mkF m 39 #[.val (.long j0), .second, .val (.long j2), .second, .val (.int i4), .val (.long (j0 &&& (9223372036854775807 : Int64))), .second, .val (.long (j2 &&& (9223372036854775807 : Int64))), .second, .val (.int (i4 &&& (3 : Int32))), .unset, .unset, .unset, .unset, .unset, .unset] [(.int (i4 &&& (3 : Int32)))])) _
      refine XS.iconst X0.here hx rfl (hb hby at_39) ?_
      exact kt
    by_cases hc40 : (i4 &&& (3 : Int32)) = (2 : Int32)
    · have pre5 : ∀ target, Steps p.tables e below (T0.setTop (mkF m 73 #[.val (.long j0), .second, .val (.long j2), .second, .val (.int i4), .val (.long (j0 &&& (9223372036854775807 : Int64))), .second, .val (.long ((((9223372036854775807 : Int64) - (j0 &&& (9223372036854775807 : Int64))) + (1 : Int64)) &&& (9223372036854775807 : Int64))), .second, .val (.int (i4 &&& (3 : Int32))), .unset, .unset, .unset, .unset, .unset, .unset] [])) target → Steps p.tables e below (T0.setTop (mkF m 0 #[.val (.long j0), .second, .val (.long j2), .second, .val (.int i4), .unset, .unset, .unset, .unset, .unset, .unset, .unset, .unset, .unset, .unset, .unset] [])) target := by
        intro target kt
        refine pre4 target ?_
        show Steps p.tables e below (T0.setTop (mkF m 40 #[.val (.long j0), .second, .val (.long j2), .second, .val (.int i4), .val (.long (j0 &&& (9223372036854775807 : Int64))), .second, .val (.long (j2 &&& (9223372036854775807 : Int64))), .second, .val (.int (i4 &&& (3 : Int32))), .unset, .unset, .unset, .unset, .unset, .unset] [(.int (2 : Int32)), (.int (i4 &&& (3 : Int32)))])) _
        refine XS.icmpNo X0.here hx rfl (hb hby at_40) rfl (teq hc40).2 ?_
        show Steps p.tables e below (T0.setTop (mkF m 43 #[.val (.long j0), .second, .val (.long j2), .second, .val (.int i4), .val (.long (j0 &&& (9223372036854775807 : Int64))), .second, .val (.long (j2 &&& (9223372036854775807 : Int64))), .second, .val (.int (i4 &&& (3 : Int32))), .unset, .unset, .unset, .unset, .unset, .unset] [])) _
        refine X0.ldc2Long hx hown (mvT hZ (hw _ (List.mem_of_getElem? (i := 0) rfl))) (g := (mkF m 43 #[.val (.long j0), .second, .val (.long j2), .second, .val (.int i4), .val (.long (j0 &&& (9223372036854775807 : Int64))), .second, .val (.long (j2 &&& (9223372036854775807 : Int64))), .second, .val (.int (i4 &&& (3 : Int32))), .unset, .unset, .unset, .unset, .unset, .unset] [])) rfl (hb hby at_43) _ ?_
        show Steps p.tables e below (T0.setTop (mkF m 46 #[.val (.long j0), .second, .val (.long j2), .second, .val (.int i4), .val (.long (j0 &&& (9223372036854775807 : Int64))), .second, .val (.long (j2 &&& (9223372036854775807 : Int64))), .second, .val (.int (i4 &&& (3 : Int32))), .unset, .unset, .unset, .unset, .unset, .unset] [(.long (9223372036854775807 : Int64))])) _
        refine XS.lload X0.here hx rfl (hb hby at_46) rfl ?_
        show Steps p.tables e below (T0.setTop (mkF m 48 #[.val (.long j0), .second, .val (.long j2), .second, .val (.int i4), .val (.long (j0 &&& (9223372036854775807 : Int64))), .second, .val (.long (j2 &&& (9223372036854775807 : Int64))), .second, .val (.int (i4 &&& (3 : Int32))), .unset, .unset, .unset, .unset, .unset, .unset] [(.long (j0 &&& (9223372036854775807 : Int64))), (.long (9223372036854775807 : Int64))])) _
        refine XS.lsub X0.here hx rfl (hb hby at_48) rfl ?_
        show Steps p.tables e below (T0.setTop (mkF m 49 #[.val (.long j0), .second, .val (.long j2), .second, .val (.int i4), .val (.long (j0 &&& (9223372036854775807 : Int64))), .second, .val (.long (j2 &&& (9223372036854775807 : Int64))), .second, .val (.int (i4 &&& (3 : Int32))), .unset, .unset, .unset, .unset, .unset, .unset] [(.long ((9223372036854775807 : Int64) - (j0 &&& (9223372036854775807 : Int64))))])) _
        refine XS.lconst X0.here hx rfl (hb hby at_49) ?_
        show Steps p.tables e below (T0.setTop (mkF m 50 #[.val (.long j0), .second, .val (.long j2), .second, .val (.int i4), .val (.long (j0 &&& (9223372036854775807 : Int64))), .second, .val (.long (j2 &&& (9223372036854775807 : Int64))), .second, .val (.int (i4 &&& (3 : Int32))), .unset, .unset, .unset, .unset, .unset, .unset] [(.long (1 : Int64)), (.long ((9223372036854775807 : Int64) - (j0 &&& (9223372036854775807 : Int64))))])) _
        refine XS.ladd X0.here hx rfl (hb hby at_50) rfl ?_
        show Steps p.tables e below (T0.setTop (mkF m 51 #[.val (.long j0), .second, .val (.long j2), .second, .val (.int i4), .val (.long (j0 &&& (9223372036854775807 : Int64))), .second, .val (.long (j2 &&& (9223372036854775807 : Int64))), .second, .val (.int (i4 &&& (3 : Int32))), .unset, .unset, .unset, .unset, .unset, .unset] [(.long (((9223372036854775807 : Int64) - (j0 &&& (9223372036854775807 : Int64))) + (1 : Int64)))])) _
        refine X0.ldc2Long hx hown (mvT hZ (hw _ (List.mem_of_getElem? (i := 0) rfl))) (g := (mkF m 51 #[.val (.long j0), .second, .val (.long j2), .second, .val (.int i4), .val (.long (j0 &&& (9223372036854775807 : Int64))), .second, .val (.long (j2 &&& (9223372036854775807 : Int64))), .second, .val (.int (i4 &&& (3 : Int32))), .unset, .unset, .unset, .unset, .unset, .unset] [(.long (((9223372036854775807 : Int64) - (j0 &&& (9223372036854775807 : Int64))) + (1 : Int64)))])) rfl (hb hby at_51) _ ?_
        show Steps p.tables e below (T0.setTop (mkF m 54 #[.val (.long j0), .second, .val (.long j2), .second, .val (.int i4), .val (.long (j0 &&& (9223372036854775807 : Int64))), .second, .val (.long (j2 &&& (9223372036854775807 : Int64))), .second, .val (.int (i4 &&& (3 : Int32))), .unset, .unset, .unset, .unset, .unset, .unset] [(.long (9223372036854775807 : Int64)), (.long (((9223372036854775807 : Int64) - (j0 &&& (9223372036854775807 : Int64))) + (1 : Int64)))])) _
        refine XS.land X0.here hx rfl (hb hby at_54) rfl ?_
        show Steps p.tables e below (T0.setTop (mkF m 55 #[.val (.long j0), .second, .val (.long j2), .second, .val (.int i4), .val (.long (j0 &&& (9223372036854775807 : Int64))), .second, .val (.long (j2 &&& (9223372036854775807 : Int64))), .second, .val (.int (i4 &&& (3 : Int32))), .unset, .unset, .unset, .unset, .unset, .unset] [(.long ((((9223372036854775807 : Int64) - (j0 &&& (9223372036854775807 : Int64))) + (1 : Int64)) &&& (9223372036854775807 : Int64)))])) _
        refine XS.lstore X0.here hx rfl (hb hby at_55) rfl (l' := #[.val (.long j0), .second, .val (.long j2), .second, .val (.int i4), .val (.long (j0 &&& (9223372036854775807 : Int64))), .second, .val (.long ((((9223372036854775807 : Int64) - (j0 &&& (9223372036854775807 : Int64))) + (1 : Int64)) &&& (9223372036854775807 : Int64))), .second, .val (.int (i4 &&& (3 : Int32))), .unset, .unset, .unset, .unset, .unset, .unset]) rfl ?_
        show Steps p.tables e below (T0.setTop (mkF m 57 #[.val (.long j0), .second, .val (.long j2), .second, .val (.int i4), .val (.long (j0 &&& (9223372036854775807 : Int64))), .second, .val (.long ((((9223372036854775807 : Int64) - (j0 &&& (9223372036854775807 : Int64))) + (1 : Int64)) &&& (9223372036854775807 : Int64))), .second, .val (.int (i4 &&& (3 : Int32))), .unset, .unset, .unset, .unset, .unset, .unset] [])) _
        refine XS.goto X0.here hx rfl (pc0 := 57) (pc' := 73) rfl (hb hby at_57) (by decide) (by decide) ?_
        exact kt
      obtain ⟨T6, X6, e6, st6⟩ := own_b0_73 hx hZ hw hby hml hown hret j0 j2 i4 (j0 &&& (9223372036854775807 : Int64)) ((((9223372036854775807 : Int64) - (j0 &&& (9223372036854775807 : Int64))) + (1 : Int64)) &&& (9223372036854775807 : Int64)) (i4 &&& (3 : Int32))  X0 e0 hcl hsl  
      have hv : (own_f0_0 j0 j2 i4) = (own_f0_73 j0 j2 i4 (j0 &&& (9223372036854775807 : Int64)) ((((9223372036854775807 : Int64) - (j0 &&& (9223372036854775807 : Int64))) + (1 : Int64)) &&& (9223372036854775807 : Int64)) (i4 &&& (3 : Int32))) := by unfold own_f0_0; rw [if_neg hc23, if_pos hc40]
      exact ⟨T6, X6, e6, fun fs hr => pre5 _ (st6 fs (by rw [hv] at hr; exact hr))⟩
    · have pre7 : ∀ target, Steps p.tables e below (T0.setTop (mkF m 63 #[.val (.long j0), .second, .val (.long j2), .second, .val (.int i4), .val (.long (j0 &&& (9223372036854775807 : Int64))), .second, .val (.long (j2 &&& (9223372036854775807 : Int64))), .second, .val (.int (i4 &&& (3 : Int32))), .unset, .unset, .unset, .unset, .unset, .unset] [(.int (3 : Int32)), (.int (i4 &&& (3 : Int32)))])) target → Steps p.tables e below (T0.setTop (mkF m 0 #[.val (.long j0), .second, .val (.long j2), .second, .val (.int i4), .unset, .unset, .unset, .unset, .unset, .unset, .unset, .unset, .unset, .unset, .unset] [])) target := by
        intro target kt
        refine pre4 target ?_
        show Steps p.tables e below (T0.setTop (mkF m 40 #[.val (.long j0), .second, .val (.long j2), .second, .val (.int i4), .val (.long (j0 &&& (9223372036854775807 : Int64))), .second, .val (.long (j2 &&& (9223372036854775807 : Int64))), .second, .val (.int (i4 &&& (3 : Int32))), .unset, .unset, .unset, .unset, .unset, .unset] [(.int (2 : Int32)), (.int (i4 &&& (3 : Int32)))])) _
        refine XS.icmpYes X0.here hx rfl (pc0 := 40) (pc' := 60) rfl (hb hby at_40) rfl (feq hc40).2 (by decide) (by decide) ?_
        show Steps p.tables e below (T0.setTop (mkF m 60 #[.val (.long j0), .second, .val (.long j2), .second, .val (.int i4), .val (.long (j0 &&& (9223372036854775807 : Int64))), .second, .val (.long (j2 &&& (9223372036854775807 : Int64))), .second, .val (.int (i4 &&& (3 : Int32))), .unset, .unset, .unset, .unset, .unset, .unset] [])) _
        refine XS.iload X0.here hx rfl (hb hby at_60) rfl ?_
        show Steps p.tables e below (T0.setTop (mkF m 62 #[.val (.long j0), .second, .val (.long j2), .second, .val (.int i4), .val (.long (j0 &&& (9223372036854775807 : Int64))), .second, .val (.long (j2 &&& (9223372036854775807 : Int64))), .second, .val (.int (i4 &&& (3 : Int32))), .unset, .unset, .unset, .unset, .unset, .unset] [(.int (i4 &&& (3 : Int32)))])) _
        refine XS.iconst X0.here hx rfl (hb hby at_62) ?_
        exact kt
      by_cases hc63 : (i4 &&& (3 : Int32)) = (3 : Int32)
      · have pre8 : ∀ target, Steps p.tables e below (T0.setTop (mkF m 73 #[.val (.long j0), .second, .val (.long j2), .second, .val (.int i4), .val (.long (j0 &&& (9223372036854775807 : Int64))), .second, .val (.long (j2 &&& (255 : Int64))), .second, .val (.int (i4 &&& (3 : Int32))), .unset, .unset, .unset, .unset, .unset, .unset] [])) target → Steps p.tables e below (T0.setTop (mkF m 0 #[.val (.long j0), .second, .val (.long j2), .second, .val (.int i4), .unset, .unset, .unset, .unset, .unset, .unset, .unset, .unset, .unset, .unset, .unset] [])) target := by
          intro target kt
          refine pre7 target ?_
          show Steps p.tables e below (T0.setTop (mkF m 63 #[.val (.long j0), .second, .val (.long j2), .second, .val (.int i4), .val (.long (j0 &&& (9223372036854775807 : Int64))), .second, .val (.long (j2 &&& (9223372036854775807 : Int64))), .second, .val (.int (i4 &&& (3 : Int32))), .unset, .unset, .unset, .unset, .unset, .unset] [(.int (3 : Int32)), (.int (i4 &&& (3 : Int32)))])) _
          refine XS.icmpNo X0.here hx rfl (hb hby at_63) rfl (teq hc63).2 ?_
          show Steps p.tables e below (T0.setTop (mkF m 66 #[.val (.long j0), .second, .val (.long j2), .second, .val (.int i4), .val (.long (j0 &&& (9223372036854775807 : Int64))), .second, .val (.long (j2 &&& (9223372036854775807 : Int64))), .second, .val (.int (i4 &&& (3 : Int32))), .unset, .unset, .unset, .unset, .unset, .unset] [])) _
          refine XS.lloadN X0.here hx rfl (hb hby at_66) rfl ?_
          show Steps p.tables e below (T0.setTop (mkF m 67 #[.val (.long j0), .second, .val (.long j2), .second, .val (.int i4), .val (.long (j0 &&& (9223372036854775807 : Int64))), .second, .val (.long (j2 &&& (9223372036854775807 : Int64))), .second, .val (.int (i4 &&& (3 : Int32))), .unset, .unset, .unset, .unset, .unset, .unset] [(.long j2)])) _
          refine X0.ldc2Long hx hown (mvT hZ (hw _ (List.mem_of_getElem? (i := 6) rfl))) (g := (mkF m 67 #[.val (.long j0), .second, .val (.long j2), .second, .val (.int i4), .val (.long (j0 &&& (9223372036854775807 : Int64))), .second, .val (.long (j2 &&& (9223372036854775807 : Int64))), .second, .val (.int (i4 &&& (3 : Int32))), .unset, .unset, .unset, .unset, .unset, .unset] [(.long j2)])) rfl (hb hby at_67) _ ?_
          show Steps p.tables e below (T0.setTop (mkF m 70 #[.val (.long j0), .second, .val (.long j2), .second, .val (.int i4), .val (.long (j0 &&& (9223372036854775807 : Int64))), .second, .val (.long (j2 &&& (9223372036854775807 : Int64))), .second, .val (.int (i4 &&& (3 : Int32))), .unset, .unset, .unset, .unset, .unset, .unset] [(.long (255 : Int64)), (.long j2)])) _
          refine XS.land X0.here hx rfl (hb hby at_70) rfl ?_
          show Steps p.tables e below (T0.setTop (mkF m 71 #[.val (.long j0), .second, .val (.long j2), .second, .val (.int i4), .val (.long (j0 &&& (9223372036854775807 : Int64))), .second, .val (.long (j2 &&& (9223372036854775807 : Int64))), .second, .val (.int (i4 &&& (3 : Int32))), .unset, .unset, .unset, .unset, .unset, .unset] [(.long (j2 &&& (255 : Int64)))])) _
          refine XS.lstore X0.here hx rfl (hb hby at_71) rfl (l' := #[.val (.long j0), .second, .val (.long j2), .second, .val (.int i4), .val (.long (j0 &&& (9223372036854775807 : Int64))), .second, .val (.long (j2 &&& (255 : Int64))), .second, .val (.int (i4 &&& (3 : Int32))), .unset, .unset, .unset, .unset, .unset, .unset]) rfl ?_
          exact kt
        obtain ⟨T9, X9, e9, st9⟩ := own_b0_73 hx hZ hw hby hml hown hret j0 j2 i4 (j0 &&& (9223372036854775807 : Int64)) (j2 &&& (255 : Int64)) (i4 &&& (3 : Int32))  X0 e0 hcl hsl  
        have hv : (own_f0_0 j0 j2 i4) = (own_f0_73 j0 j2 i4 (j0 &&& (9223372036854775807 : Int64)) (j2 &&& (255 : Int64)) (i4 &&& (3 : Int32))) := by unfold own_f0_0; rw [if_neg hc23, if_neg hc40, if_pos hc63]
        exact ⟨T9, X9, e9, fun fs hr => pre8 _ (st9 fs (by rw [hv] at hr; exact hr))⟩
      · have pre10 : ∀ target, Steps p.tables e below (T0.setTop (mkF m 73 #[.val (.long j0), .second, .val (.long j2), .second, .val (.int i4), .val (.long (j0 &&& (9223372036854775807 : Int64))), .second, .val (.long (j2 &&& (9223372036854775807 : Int64))), .second, .val (.int (i4 &&& (3 : Int32))), .unset, .unset, .unset, .unset, .unset, .unset] [])) target → Steps p.tables e below (T0.setTop (mkF m 0 #[.val (.long j0), .second, .val (.long j2), .second, .val (.int i4), .unset, .unset, .unset, .unset, .unset, .unset, .unset, .unset, .unset, .unset, .unset] [])) target := by
          intro target kt
          refine pre7 target ?_
          show Steps p.tables e below (T0.setTop (mkF m 63 #[.val (.long j0), .second, .val (.long j2), .second, .val (.int i4), .val (.long (j0 &&& (9223372036854775807 : Int64))), .second, .val (.long (j2 &&& (9223372036854775807 : Int64))), .second, .val (.int (i4 &&& (3 : Int32))), .unset, .unset, .unset, .unset, .unset, .unset] [(.int (3 : Int32)), (.int (i4 &&& (3 : Int32)))])) _
          refine XS.icmpYes X0.here hx rfl (pc0 := 63) (pc' := 73) rfl (hb hby at_63) rfl (feq hc63).2 (by decide) (by decide) ?_
          exact kt
        obtain ⟨T11, X11, e11, st11⟩ := own_b0_73 hx hZ hw hby hml hown hret j0 j2 i4 (j0 &&& (9223372036854775807 : Int64)) (j2 &&& (9223372036854775807 : Int64)) (i4 &&& (3 : Int32))  X0 e0 hcl hsl  
        have hv : (own_f0_0 j0 j2 i4) = (own_f0_73 j0 j2 i4 (j0 &&& (9223372036854775807 : Int64)) (j2 &&& (9223372036854775807 : Int64)) (i4 &&& (3 : Int32))) := by unfold own_f0_0; rw [if_neg hc23, if_neg hc40, if_neg hc63]
        exact ⟨T11, X11, e11, fun fs hr => pre10 _ (st11 fs (by rw [hv] at hr; exact hr))⟩
def Q0 (Z : State) (j0 : Int64) (j2 : Int64) (i4 : Int32) (h0 : Heap) (n0 : Nat) (v : Option Value) (h : Heap) (L : List Loc) : Prop := v = some (.int (own_f0_0 j0 j2 i4)) ∧ L = [] ∧ h = h0
set_option maxRecDepth 65536 in
set_option maxHeartbeats 40000000 in
theorem rm0 (l : Launch) (Z : State) (a0_ : Array Value) (hw : ∀ d ∈ tables_1, d.before a0_ Z = true) (ws : List Jvm.Cond) (j0 : Int64) (j2 : Int64) (i4 : Int32) (h0 : Heap) (n0 : Nat) (Z0 : n0 ≤ h0.size)  :
    MetFree l x (head1 (Jvm.Cond.code x code maxLocals ret :: ws) room_1) (fun a U => a = #[(.long j0), (.long j2), (.int i4)] ∧ Z.Warmed39 U.vm ∧ U.heap = h0) (fun _ _ _ _ _ => True) (fun _ U o U' => ∃ v L, o = .returned v ∧ Q0 Z j0 j2 i4 h0 n0 v U'.heap L ∧ FrameEnd U o U' L room_1.cells room_1.slots) := by
  refine MetFree.of_bodySF (plainFor_of_name pn_0) hisR ?_
  intro p e s m args below meth c s₁ Bd hml0 hP hK
  obtain ⟨rfl, hZ, hh⟩ := hP
  have hx := Bd.exec
  have hby := Bd.bytes
  have hml : c.maxLocals = 16 := hml0
  have hown : s.vm.findClass "com/example/refill/refill/core/TokensSumPinLaw" = some m.cls := findClass_of_methodNamed Bd.named
  have X0 : Stand p l e room_1 s m #[(.long j0), (.long j2), (.int i4)] below meth c s₁ [] 0 0 := Stand.of_body Bd
  have e0 : s₁.heap = h0 := by rw [← hh, Bd.state]; rfl
  obtain ⟨T', X', e', st'⟩ := own_b0_0 hx hZ hw hby hml hown Bd.returns  j0 j2 i4 X0 e0 (by decide) (by decide) 
  obtain ⟨fs, hr, hrun, hended, hW, hsame⟩ := X'.leave (v := some (.int (own_f0_0 j0 j2 i4))) (fun h => by rw [Bd.returns] at h; cases h)
  refine ⟨_, _, castTop (ef_0 m j0 j2 i4) (st' fs hr), hrun, hended, _, _, rfl, ?_, ⟨_, rfl⟩, hW, hsame.mono (by decide) (by decide)⟩
  exact ⟨rfl, rfl, e'⟩
theorem own_core (j0 j2 : Int64) (i4 : Int32) (a b : Int64) (i9 : Int32) (ha : 0 ≤ a.toInt) (hb : 0 ≤ b.toInt) : own_f0_73 j0 j2 i4 a b i9 = 1 := by
  have h1 := c_ladd a b
  have h2 := c_lsub (9223372036854775807 : Int64) a
  have r1 := rng64 (a + b)
  have r2 := rng64 ((9223372036854775807 : Int64) - a)
  have r3 := rng64 a
  have r4 := rng64 b
  have lM : (9223372036854775807 : Int64).toInt = 9223372036854775807 := by decide +kernel
  have l0 : (0 : Int64).toInt = 0 := by decide +kernel
  by_cases c1 : (a + b) < 0
  · have c2 : ((9223372036854775807 : Int64) - a) < b := by rw [Int64.lt_iff_toInt_lt] at c1 ⊢; omega
    simp only [own_f0_73, own_f0_96, own_f1_0, if_pos c1, if_pos c2, if_true]
  · have c2 : ¬ ((9223372036854775807 : Int64) - a) < b := by rw [Int64.lt_iff_toInt_lt] at c1 ⊢; omega
    simp only [own_f0_73, own_f0_96, own_f1_0, if_neg c1, if_neg c2, if_true]
theorem own_m63 (x : Int64) : 0 ≤ (x &&& (9223372036854775807 : Int64)).toInt := by
  rw [c_maskL x 9223372036854775807 63 (by decide +kernel) (by decide +kernel)]
  exact Int.emod_nonneg _ (by decide +kernel)
theorem own_m8 (x : Int64) : 0 ≤ (x &&& (255 : Int64)).toInt := by
  rw [c_maskL x 255 8 (by decide +kernel) (by decide +kernel)]
  exact Int.emod_nonneg _ (by decide +kernel)
theorem own_mx (a : Int64) (h : 0 ≤ a.toInt) : 0 ≤ ((9223372036854775807 : Int64) - a).toInt := by
  have h2 := c_lsub (9223372036854775807 : Int64) a
  have r2 := rng64 ((9223372036854775807 : Int64) - a)
  have r3 := rng64 a
  have lM : (9223372036854775807 : Int64).toInt = 9223372036854775807 := by decide +kernel
  rw [lM] at h2
  generalize ((9223372036854775807 : Int64) - a).toInt = y at *
  generalize a.toInt = z at *
  omega
theorem own_law (j0 : Int64) (j2 : Int64) (i4 : Int32) : own_f0_0 j0 j2 i4 = 1 := by
  unfold own_f0_0
  rw [own_core _ _ _ _ _ _ (own_m63 j0) (own_mx _ (own_m63 j0)), own_core _ _ _ _ _ _ (own_m63 j0) (own_m63 _), own_core _ _ _ _ _ _ (own_m63 j0) (own_m8 j2), own_core _ _ _ _ _ _ (own_m63 j0) (own_m63 j2), ite_self, ite_self, ite_self]
set_option maxRecDepth 65536 in
set_option maxHeartbeats 40000000 in
theorem comes_1 {Post : Tables → Env → Array Value → State → Outcome → State → Prop} (hpost : ∀ tb e args s v u, (limb_1_1.after args s (.returned v) u = true ∧ limb_1_2.after args s (.returned v) u = true ∧ True) → FrameEnd s (.returned v) u (Jvm.fieldLocs frame_1_writes args s ++ Jvm.arrayLocs frame_1_arrays args s ++ Jvm.staticLocs frame_1_statics s) 0 0 → Post tb e args s (.returned v) u) :
    ArmFor flags0 classFile x code maxLocals ret World_1 tables_1 room_1 Calls_1 rest_1 Pre_1 Post := by
  intro l hfl _ _ p e ha hc hk s m args below hf hA hF happ hP
  obtain ⟨hcalls, hrest, hpre⟩ := hP
  obtain ⟨-, -, -, hnamed, -, -, -, hat⟩ := (Spec.applies_iff hf).mp happ
  obtain ⟨hg, hn⟩ := and_e (Cond.before_iff.mp (show (Jvm.Cond.and given_1 narrow_1).before args s = true from hpre))
  obtain ⟨hcount, hg⟩ := and_e hg
  obtain ⟨g0, hg⟩ := and_e hg
  obtain ⟨g1, hg⟩ := and_e hg
  have g2 := hg
  obtain ⟨w0, w1, w2, rfl⟩ : ∃ w0 w1 w2 : Value, args = #[w0, w1, w2] := by
    have hs : args.size = 3 := by simpa [Cond.value, given_1] using hcount
    obtain ⟨L⟩ := args
    match L, hs with
    | [w0, w1, w2], _ => exact ⟨w0, w1, w2, rfl⟩
  have hw := fun d (hd : d ∈ tables_1) => atoms_spec (ws := Jvm.Cond.code x code maxLocals ret :: tables_1) hat d (List.mem_cons_of_mem _ hd)
  obtain ⟨i0, ei0⟩ := isL_v g0
  obtain rfl : w0 = (.long i0) := Option.some.inj ei0
  obtain ⟨i1, ei1⟩ := isL_v g1
  obtain rfl : w1 = (.long i1) := Option.some.inj ei1
  obtain ⟨i2, ei2⟩ := is_v g2
  obtain rfl : w2 = (.int i2) := Option.some.inj ei2
  obtain ⟨n, o, h1, h2, h3, _, L, rfl, ⟨rfl, rfl, N⟩, hq⟩ := rm0 l s _ hw tables_1 i0 i1 i2 s.heap s.heap.size (Nat.le_refl _) p e ha hc hk s m _ below hf ((Spec.applies_iff_loose hf).mp happ).1 ⟨rfl, State.Warmed39.refl s, rfl⟩ trivial
  rw [own_law i0 i1 i2] at h3 hq
  refine ⟨n, _, h1, h2, h3, hpost _ _ _ _ _ _ ⟨Cond.after_iff.mpr rfl, Cond.after_iff.mpr (eq_i res_at (Term.int_eval (1)) rfl), trivial⟩ ⟨hq.1, hq.2.1, (hq.2.2.sift fun y hy => nomatch hy).mono (by decide) (by decide)⟩⟩
theorem main_1_1 : Claimed_1_1 := comes_1 fun _ _ _ _ _ _ h hF => ⟨h.1, hF⟩
theorem main_1_2 : Claimed_1_2 := comes_1 fun _ _ _ _ _ _ h hF => ⟨h.2.1, hF⟩
end Jvm.Pilot.@@N@@
namespace Jvm.Pilot.@@N@@
open Jvm Jvm.ClassFile Sem Op Lib Jvm.Free Jvm.Stand Jvm.Pilot.@@N@@.Jvm.D
/-! MADE BY PROGRAM (witnessworld.py) out of the Statement's table words and the real class files: 9 classes; the members and pool entries that the words name. The judged class is class 1, her method 1. -/
namespace start1
open Jvm.ClassFile
def u (s : String) : CpInfo := .utf8 (stringToUtf16 s)
/-- a pool by its gaps: so many unusable entries, then the entry; so many at the end -/
def gap : Nat → List CpInfo → List CpInfo
  | 0, r => r
  | n + 1, r => .unusable :: gap n r
def poolList (es : List (Nat × CpInfo)) (last : Nat) : List CpInfo := es.foldr (fun e r => gap e.1 (e.2 :: r)) (gap last [])
def pool (es : List (Nat × CpInfo)) (last : Nat) : Array CpInfo := ⟨poolList es last⟩
def fileOf (pool : Array CpInfo) (this : Nat) (attrs : Array Attribute := #[]) (ms : Array MethodInfo := #[]) (fl : Nat := 33) (sup : Nat := 0) (ifs : Array Nat := #[]) (fds : Array FieldInfo := #[]) : ClassFile where
  minorVersion := 0
  majorVersion := 65
  constantPool := pool
  accessFlags := fl
  thisClass := this
  superClass := sup
  interfaces := ifs
  fields := fds
  methods := ms
  attributes := attrs
def plain (name : String) (sup : Option ClassId) : Class where
  name := name
  kind := .ordinary
  loader := none
  accessFlags := 33
  super := sup
  interfaces := #[]
  cf := none
  fields := #[]
  methods := #[]
  instanceTypes := #[]
  staticTypes := #[]
  resolved := #[]
  callSites := []
  init := .initialized
  statics := none
  mirror := none

def pool0 : Array CpInfo := pool [(5, u "<init>"), (0, u "()V"), (1, .class_ 10), (1, u "java/lang/Object")] 113

def k0m0 : Method := { name := "<init>", desc := "()V", sig := { parameters := [], returnType := none }, accessFlags := 1, code := none }
/-- java/lang/Object -/
def k0 : Class := { plain "java/lang/Object" none with
  accessFlags := 33
  interfaces := #[]
  cf := some (fileOf pool0 8 #[] #[{ accessFlags := 1, nameIndex := 5, descriptorIndex := 6, attributes := #[] }] 33 0 #[] #[])
  fields := #[]
  methods := #[k0m0]
  instanceTypes := #[]
  staticTypes := #[]
  resolved := Array.replicate 124 none
  statics := none }

def pool1 : Array CpInfo := pool [(2, .class_ 4), (1, u "java/lang/Object"), (0, u "<init>"), (0, u "()V"), (2, .long 9223372036854775807), (1, .long 255), (1, .methodref 14 15), (0, .class_ 16), (0, .nameAndType 17 18), (0, u "com/example/refill/refill/core/Tokens"), (0, u "sum"), (0, u "(JJ)J"), (0, .class_ 20), (0, u "com/example/refill/refill/core/TokensSumPinLaw"), (2, u "law"), (0, u "(JJI)Z")] 3

def k1m0 : Method := { name := "<init>", desc := "()V", sig := { parameters := [], returnType := none }, accessFlags := 2, code := none }
def k1c1 : Code := { maxStack := 4, maxLocals := 16, code := code, exceptionTable := #[], attributes := #[] }
def k1m1 : Method := { name := "law", desc := "(JJI)Z", sig := { parameters := [.long, .long, .int], returnType := some .boolean }, accessFlags := 9, code := some k1c1 }
/-- com/example/refill/refill/core/TokensSumPinLaw -/
def k1 : Class := { plain "com/example/refill/refill/core/TokensSumPinLaw" (some 0) with
  accessFlags := 49
  interfaces := #[]
  cf := some (fileOf pool1 19 #[] #[{ accessFlags := 2, nameIndex := 5, descriptorIndex := 6, attributes := #[] }, { accessFlags := 9, nameIndex := 23, descriptorIndex := 24, attributes := #[] }] 49 2 #[] #[])
  fields := #[]
  methods := #[k1m0, k1m1]
  instanceTypes := #[]
  staticTypes := #[]
  resolved := Array.replicate 28 none
  statics := none }

def pool2 : Array CpInfo := pool [(2, .class_ 4), (1, u "java/lang/Object"), (0, u "<init>"), (0, u "()V"), (2, .long 9223372036854775807), (1, .class_ 12), (0, u "com/example/refill/refill/core/Tokens"), (2, u "sum"), (0, u "(JJ)J")] 4

def k2m0 : Method := { name := "<init>", desc := "()V", sig := { parameters := [], returnType := none }, accessFlags := 2, code := none }
def k2c1 : Code := { maxStack := 6, maxLocals := 6, code := prog_14_method_2_code, exceptionTable := #[], attributes := #[] }
def k2m1 : Method := { name := "sum", desc := "(JJ)J", sig := { parameters := [.long, .long], returnType := some .long }, accessFlags := 9, code := some k2c1 }
/-- com/example/refill/refill/core/Tokens -/
def k2 : Class := { plain "com/example/refill/refill/core/Tokens" (some 0) with
  accessFlags := 49
  interfaces := #[]
  cf := some (fileOf pool2 11 #[] #[{ accessFlags := 2, nameIndex := 5, descriptorIndex := 6, attributes := #[] }, { accessFlags := 9, nameIndex := 15, descriptorIndex := 16, attributes := #[] }] 49 2 #[] #[])
  fields := #[]
  methods := #[k2m0, k2m1]
  instanceTypes := #[]
  staticTypes := #[]
  resolved := Array.replicate 21 none
  statics := none }

def pool3 : Array CpInfo := pool [(1, u "java/lang/Cloneable"), (0, .class_ 1), (0, u "java/lang/Object"), (0, .class_ 3)] 3

/-- java/lang/Cloneable -/
def k3 : Class := { plain "java/lang/Cloneable" (some 0) with
  accessFlags := 1537
  interfaces := #[]
  cf := some (fileOf pool3 2 #[] #[] 1537 4 #[] #[])
  fields := #[]
  methods := #[]
  instanceTypes := #[]
  staticTypes := #[]
  resolved := Array.replicate 8 none
  statics := none }

def pool4 : Array CpInfo := pool [(1, u "java/io/Serializable"), (0, .class_ 1), (0, u "java/lang/Object"), (0, .class_ 3)] 3

/-- java/io/Serializable -/
def k4 : Class := { plain "java/io/Serializable" (some 0) with
  accessFlags := 1537
  interfaces := #[]
  cf := some (fileOf pool4 2 #[] #[] 1537 4 #[] #[])
  fields := #[]
  methods := #[]
  instanceTypes := #[]
  staticTypes := #[]
  resolved := Array.replicate 8 none
  statics := none }

/-- the primitive byte -/
def k5 : Class := { plain "byte" none with kind := .primitive 'B', accessFlags := 0x411 }
/-- [B -/
def k6 : Class := { plain "[B" (some 0) with kind := .array 5 .byte, interfaces := #[3, 4], accessFlags := 1041 }

/-- the primitive int -/
def k7 : Class := { plain "int" none with kind := .primitive 'I', accessFlags := 0x411 }
/-- [I -/
def k8 : Class := { plain "[I" (some 0) with kind := .array 7 .int, interfaces := #[3, 4], accessFlags := 1041 }

def heap : Heap := #[]
def classes : Array Class := #[k0, k1, k2, k3, k4, k5, k6, k7, k8]
def interned : List (Array UInt16 × Addr) := []
def slotsUsed : Nat := 0
def theMethod : MethodId := ⟨1, 1⟩
def args0 : Array Value := #[.long 5, .long 6, .int 7]
def aboutOver (below : List Frame) : State where
  vm := { classes := classes, interned := interned.toArray }
  heap := heap
  slotsUsed := slotsUsed
  threads := #[{ frames := .invoking theMethod args0 :: below }]
def below0 : List Frame := [.native { method := ⟨0, 0⟩, args := #[] }]
def about1 : State := aboutOver below0
def p0 : Program := .bare "" "" ""
def e0 : Env := launch0.env 0 0 0
theorem w_frames : about1.frames = Frame.invoking theMethod args0 :: below0 := rfl
set_option maxRecDepth 65536 in
theorem w_args : argsFit about1.vm theMethod args0 = true := by decide +kernel
set_option maxRecDepth 65536 in
theorem w_heap : heapFits about1 = true := by decide +kernel
set_option maxRecDepth 65536 in
theorem w_runnable : about1.curStatus? = some .runnable := by decide +kernel
set_option maxRecDepth 65536 in
theorem w_alone : about1.alone = true := by decide +kernel
set_option maxRecDepth 65536 in
theorem w_named : about1.methodNamed? x = some theMethod := by decide +kernel
set_option maxRecDepth 65536 in
theorem w_hears : about1.hears theMethod below0 = true := by decide +kernel
set_option maxRecDepth 65536 in
theorem w_ripe : about1.ripe theMethod args0 below0 = true := by decide +kernel
theorem w_running : about1.status = .running := rfl
set_option maxRecDepth 65536 in
theorem w_room : about1.hasRoom e0.platform room_1 = true :=
  launch0.hasRoom_least _ room_1 (by decide +kernel) (by decide +kernel) (by decide +kernel) (by decide +kernel) (by decide +kernel) (by decide +kernel)
theorem allAtoms_all (ts : List Jvm.Cond) (a : Array Jvm.Value) (st : Jvm.State) : (allAtoms ts).before a st = ts.all (fun c => c.before a st) := by
  induction ts with
  | nil => rfl
  | cons c t ih =>
    show (Jvm.Cond.and c (allAtoms t)).before a st = _
    rw [Jvm.Cond.before_and, ih, List.all_cons]
def words1 : List Jvm.Cond := Jvm.Cond.code x code maxLocals ret :: tables_1
/-- a 'code' word, met by the world's own term for the bytes: nothing is compared byte by byte -/
theorem code_word {y : MethodName} {bytes : ByteArray} {mx : Nat} {rt : Option FieldType} {a : Array Value} {s : State} {m : MethodId} {meth : Method} {c : Code} (h1 : s.methodNamed? y = some m) (h2 : s.vm.method? m = some meth) (h3 : meth.code = some c) (h4 : c.code = bytes)
    (h5 : (c.maxLocals == mx && c.exceptionTable.isEmpty && decide (c.maxStack ≤ mostOperands) && decide (meth.sig.returnType = rt) && !meth.locks && decide (parseMethodDescriptor y.desc = some meth.sig)) = true) : (Jvm.Cond.code y bytes mx rt).before a s = true := by
  simp only [Bool.and_eq_true, beq_iff_eq, Bool.not_eq_true', decide_eq_true_eq] at h5
  obtain ⟨⟨⟨⟨⟨g1, g2⟩, g3⟩, g4⟩, g5⟩, g6⟩ := h5
  simp [Cond.before, Cond.holds, Cond.value, h1, h2, h3, h4, g1, g2, g3, g4, g5, g6]
def isCode : Jvm.Cond → Bool
  | .code _ _ _ _ => true
  | _ => false
theorem all_split {L : List Jvm.Cond} {P : Jvm.Cond → Bool} (h1 : L.all (fun c => isCode c || P c) = true) (h2 : ∀ c ∈ L.filter isCode, P c = true) : L.all P = true := by
  refine List.all_eq_true.mpr fun c hc => ?_
  have h := List.all_eq_true.mp h1 c hc
  rcases Bool.eq_false_or_eq_true (isCode c) with hi | hi
  · exact h2 c (List.mem_filter.mpr ⟨hc, hi⟩)
  · simpa [hi] using h
set_option maxRecDepth 65536 in
theorem w_c0 : (Jvm.Cond.code x code maxLocals ret).before args0 about1 = true := code_word (m := ⟨1, 1⟩) (meth := k1m1) (c := k1c1) (by decide +kernel) rfl rfl rfl (by decide +kernel)
set_option maxRecDepth 65536 in
theorem w_c1 : (Jvm.Cond.code ({ cls := "com/example/refill/refill/core/Tokens", name := "sum", desc := "(JJ)J" } : Jvm.MethodName) prog_14_method_2_code (6 : Nat) (Option.some Jvm.ClassFile.FieldType.long)).before args0 about1 = true := code_word (m := ⟨2, 1⟩) (meth := k2m1) (c := k2c1) (by decide +kernel) rfl rfl rfl (by decide +kernel)
def codes1 : List Jvm.Cond := [Jvm.Cond.code x code maxLocals ret, Jvm.Cond.code ({ cls := "com/example/refill/refill/core/Tokens", name := "sum", desc := "(JJ)J" } : Jvm.MethodName) prog_14_method_2_code (6 : Nat) (Option.some Jvm.ClassFile.FieldType.long)]
set_option maxRecDepth 65536 in
theorem codes_eq : words1.filter isCode = codes1 := rfl
theorem w_codes : ∀ c ∈ words1.filter isCode, c.before args0 about1 = true := by
  rw [codes_eq]
  intro c hc
  simp only [codes1, List.mem_cons, List.not_mem_nil, or_false] at hc
  rcases hc with rfl | rfl
  · exact w_c0
  · exact w_c1
set_option maxRecDepth 65536 in
theorem w_t1 : words1.all (fun c => isCode c || c.before args0 about1) = true := by decide +kernel
theorem w_tables : (allAtoms (Jvm.Cond.code x code maxLocals ret :: tables_1)).before args0 about1 = true := by
  rw [allAtoms_all]
  show words1.all (fun c => c.before args0 about1) = true
  refine all_split ?_ w_codes
  rw [w_t1]
set_option maxRecDepth 65536 in
theorem w_case : (Jvm.Cond.and given_1 narrow_1).before args0 about1 = true := by decide +kernel
theorem w_applies : (headSpec (Jvm.Cond.code x code maxLocals ret :: tables_1) room_1).applies x e0.platform about1 = true :=
  (Spec.applies_iff w_frames).mpr ⟨w_running, w_runnable, w_alone, w_named, w_hears, w_ripe, w_room, w_tables⟩
theorem atStart : AtStart classFile x code maxLocals ret World_1 tables_1 room_1 Calls_1 rest_1 Pre_1 launch0 p0 e0 about1 theMethod args0 below0 :=
  ⟨lists_1, trivial, launch0.admits_env _ _ _, launch0.least_env, fairChoices_fair.cas, fairChoices_fair.clock, w_frames, w_args, w_heap, w_applies, trivial, trivial, w_case⟩
end start1
theorem witness_1 : WitnessClaimed_1 := ⟨start1.p0, start1.e0, start1.about1, start1.theMethod, start1.args0, start1.below0, start1.atStart⟩
end Jvm.Pilot.@@N@@
