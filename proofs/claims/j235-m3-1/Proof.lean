import JvmDerived
import JvmDerived.Pilot.@@N@@Statement
import JvmDerived.Pilot.@@N@@Code
set_option linter.unusedVariables false
set_option linter.unusedSimpArgs false
set_option maxHeartbeats 40000000
set_option maxRecDepth 65536
namespace Jvm.RoadKit
open Sem ClassFile Op Lib Jvm.Stand Jvm.Free Jvm.LawKit
section New
variable {p : Program} {l : Launch} {e : Env} {R : Room} {s : State} {m : MethodId} {args : Array Value} {below : List Frame} {meth : Method} {c : Code} {T : State} {locs : List Loc} {cells slots : Nat}
theorem retI (X : Stand p l e R s m args below meth c T locs cells slots) (hx : p.tables.exec = Jvm.exec) {pc : Nat} {Ls : Array Slot} {z : Int32} {rest : List Value} (hret : meth.sig.returnType = some .int) (hd : decode c.code pc = .ok (.ireturn, 1)) {fs : List Frame}
    (hl : ∀ (f : JFrame) (acts : List Action), f.method = m → f.locked = none → f.entered = [] → (doReturn e (T.setTop f) acts (some (.int z))).1 = T.setFrames fs) : Steps p.tables e below (T.setTop (mkF m pc Ls (.int z :: rest))) (T.setFrames fs) := by
  have hm' : T.vm.method? m = some meth := X.method'
  have hn : narrow .int (.int z) = .int z := rfl
  show Steps p.tables e below (T.setTop { method := m, pc := pc, locals := Ls, stack := _ :: rest, locked := none }) _
  jvm_step X.here [X.here.top, hx, hd, hm', hret, hn]
  first | (intro acts; rw [hl _ acts rfl rfl rfl]) | rw [hl _ _ rfl rfl rfl]
  exact Steps.refl _
end New
end Jvm.RoadKit
namespace Jvm.Pilot.@@N@@
open Jvm Jvm.ClassFile Sem Op Lib Jvm.Free Jvm.Stand Jvm.LawKit Jvm.RoadKit Bundle Jvm.Pilot.@@N@@.Jvm.D
theorem own_m63 (x : Int64) : 0 ≤ (x &&& (9223372036854775807 : Int64)).toInt := by
  rw [c_maskL x 9223372036854775807 63 (by decide +kernel) (by decide +kernel)]
  exact Int.emod_nonneg _ (by decide +kernel)
theorem own_rem (y : Int64) (h : 0 ≤ y.toInt) : 0 ≤ (y - (y / (10000000001 : Int64)) * (10000000001 : Int64)).toInt ∧ (y - (y / (10000000001 : Int64)) * (10000000001 : Int64)).toInt ≤ 10000000000 := by
  rw [(c_lrem y (10000000001 : Int64) 10000000001 (by decide +kernel)).1 h]
  generalize y.toInt = v
  omega
theorem own_burst (j6 : Int64) : 0 ≤ ((j6 &&& (9223372036854775807 : Int64)) - ((j6 &&& (9223372036854775807 : Int64)) / (10000000001 : Int64)) * (10000000001 : Int64)).toInt ∧ ((j6 &&& (9223372036854775807 : Int64)) - ((j6 &&& (9223372036854775807 : Int64)) / (10000000001 : Int64)) * (10000000001 : Int64)).toInt ≤ 10000000000 := own_rem _ (own_m63 j6)
theorem own_x6 (b : Int64) (h0 : -10000000000 ≤ b.toInt) (h1 : b.toInt ≤ 10000000000) : (b * (60000000 : Int64)).toInt = b.toInt * 60000000 := by
  have l6 : (60000000 : Int64).toInt = 60000000 := by decide +kernel
  have a := c_lmul b 60000000
  have r := rng64 (b * (60000000 : Int64))
  rw [l6] at a
  generalize (b * (60000000 : Int64)).toInt = v at *
  generalize b.toInt = w at *
  omega
theorem own_inc1 (y : Int64) (h0 : 0 ≤ y.toInt) (h1 : y.toInt ≤ 1000000000000000000) : (y + (1 : Int64)).toInt = y.toInt + 1 := by
  have l1 : (1 : Int64).toInt = 1 := by decide +kernel
  have a := c_ladd y 1
  have r := rng64 (y + (1 : Int64))
  rw [l1] at a
  generalize (y + (1 : Int64)).toInt = v at *
  generalize y.toInt = w at *
  omega
theorem own_cap {b : Int64} (h0 : 0 ≤ b.toInt) (h1 : b.toInt ≤ 10000000000) : ((b * (60000000 : Int64)) + (1 : Int64)).toInt = b.toInt * 60000000 + 1 := by
  have e := own_x6 b (by omega) h1
  rw [own_inc1 _ (by rw [e]; omega) (by rw [e]; omega), e]
theorem own_nz (j6 : Int64) : ((((j6 &&& (9223372036854775807 : Int64)) - ((j6 &&& (9223372036854775807 : Int64)) / (10000000001 : Int64)) * (10000000001 : Int64)) * (60000000 : Int64)) + (1 : Int64)) ≠ 0 := by
  have l0 : (0 : Int64).toInt = 0 := by decide +kernel
  have b := own_burst j6
  generalize ((j6 &&& (9223372036854775807 : Int64)) - ((j6 &&& (9223372036854775807 : Int64)) / (10000000001 : Int64)) * (10000000001 : Int64)) = B at *
  intro h
  have c := own_cap b.1 b.2
  rw [h, l0] at c
  generalize B.toInt = v at *
  omega
theorem d2_0 : decode jdk_30_method_1_code 0 = .ok (.aload_n 0, 1) := by decide +kernel
theorem d2_1 : decode jdk_30_method_1_code 1 = .ok (.invokespecial 1, 3) := by decide +kernel
theorem d2_4 : decode jdk_30_method_1_code 4 = .ok (.return_, 1) := by decide +kernel
theorem pn_2 : plainName "java/lang/Record" = true := by first | (simp [plainName, overriddenIn]; done) | decide +kernel
theorem ef_2 (m : MethodId) (a0 : Addr) : entryFrame m #[(.ref a0)] 1 = mkF m 0 #[.val (.ref a0)] [] := by first | (simp [entryFrame, mkF, argsToLocals, Value.category]; done) | rfl
set_option maxRecDepth 65536 in
set_option maxHeartbeats 40000000 in
theorem own_b2_0 {p : Program} {l : Launch} {e : Env} {s : State} {m : MethodId} {args : Array Value} {below : List Frame} {meth : Method} {c : Code} {Z : State} {a0_ : Array Value} (hx : p.tables.exec = Jvm.exec) (hZ : Z.Warmed39 s.vm) (hw : ∀ d ∈ tables_1, d.before a0_ Z = true) (hby : c.code = jdk_30_method_1_code) (hml : c.maxLocals = 1) (hown : s.vm.findClass "java/lang/Record" = some m.cls) (hret : meth.sig.returnType = none) (hnm : meth.name = "<init>") {T0 : State} {locs : List Loc} {cells slots : Nat} {h0 : Heap} (a0 : Addr)
    (X0 : Stand p l e ({ frames := 1, cells := 0, slots := 0, locals := 12 } : Room) s m args below meth c T0 locs cells slots) (e0 : T0.heap = h0) (hcl : cells ≤ ({ frames := 1, cells := 0, slots := 0, locals := 12 } : Room).cells) (hsl : slots ≤ ({ frames := 1, cells := 0, slots := 0, locals := 12 } : Room).slots)  :
    ∃ T', Stand p l e ({ frames := 1, cells := 0, slots := 0, locals := 12 } : Room) s m args below meth c T' locs cells slots ∧ T'.heap = h0 ∧ ∀ fs, (∀ (f : JFrame) (acts : List Action), f.method = m → f.locked = none → f.entered = [] → (doReturn e (T'.setTop f) acts (none)).1 = T'.setFrames fs) → Steps p.tables e below (T0.setTop (mkF m 0 #[.val (.ref a0)] [])) (T'.setFrames fs) := by
  obtain ⟨T1, X1, e1, st1⟩ := initO X0 hx hZ hown (hw _ (List.mem_of_getElem? (i := 14) rfl)) (hw _ (List.mem_of_getElem? (i := 15) rfl)) (hw _ (List.mem_of_getElem? (i := 16) rfl)) e0 (g := (mkF m 1 #[.val (.ref a0)] [(.ref a0)])) rfl (by rw [hml]; rfl) rfl (hb hby d2_1) (by decide) (W := 0) (by show 2 * 0 + _ ≤ _; exact Nat.le_of_eq rfl) (by decide)
  refine ⟨T1, X1, e1, fun fs hr => ?_⟩
  show Steps p.tables e below (T0.setTop (mkF m 0 #[.val (.ref a0)] [])) _
  refine XS.aloadN X0.here hx rfl (hb hby d2_0) rfl rfl ?_
  show Steps p.tables e below (T0.setTop (mkF m 1 #[.val (.ref a0)] [(.ref a0)])) _
  refine st1 _ ?_
  show Steps p.tables e below (T1.setTop (mkF m 4 #[.val (.ref a0)] [])) _
  exact X1.returnOut hx hret (hb hby d2_4) hr
def Q2 (Z : State) (a0 : Addr) (h0 : Heap) (n0 : Nat) (v : Option Value) (h : Heap) (L : List Loc) : Prop := v = none ∧ L = [] ∧ h = h0
set_option maxRecDepth 65536 in
set_option maxHeartbeats 40000000 in
theorem rm2 (l : Launch) (Z : State) (a0_ : Array Value) (hw : ∀ d ∈ tables_1, d.before a0_ Z = true) (ws : List Jvm.Cond) (a0 : Addr) (h0 : Heap) (n0 : Nat) (Z0 : n0 ≤ h0.size)  :
    MetFree l (⟨"java/lang/Record", "<init>", "()V"⟩ : MethodName) (head1 (Jvm.Cond.code (⟨"java/lang/Record", "<init>", "()V"⟩ : MethodName) jdk_30_method_1_code 1 none :: ws) ({ frames := 1, cells := 0, slots := 0, locals := 12 } : Room)) (fun a U => a = #[(.ref a0)] ∧ Z.Warmed39 U.vm ∧ U.heap = h0) (fun _ _ _ _ _ => True) (fun _ U o U' => ∃ v L, o = .returned v ∧ Q2 Z a0 h0 n0 v U'.heap L ∧ FrameEnd U o U' L ({ frames := 1, cells := 0, slots := 0, locals := 12 } : Room).cells ({ frames := 1, cells := 0, slots := 0, locals := 12 } : Room).slots) := by
  refine MetFree.of_bodySF (plainFor_of_name pn_2) hisR ?_
  intro p e s m args below meth c s₁ Bd hml0 hP hK
  obtain ⟨rfl, hZ, hh⟩ := hP
  have hx := Bd.exec
  have hby := Bd.bytes
  have hml : c.maxLocals = 1 := hml0
  have hown : s.vm.findClass "java/lang/Record" = some m.cls := findClass_of_methodNamed Bd.named
  have X0 : Stand p l e ({ frames := 1, cells := 0, slots := 0, locals := 12 } : Room) s m #[(.ref a0)] below meth c s₁ [] 0 0 := Stand.of_body Bd
  have e0 : s₁.heap = h0 := by rw [← hh, Bd.state]; rfl
  have hnm := (name_of_methodNamed Bd.named Bd.method).1
  obtain ⟨T', X', e', st'⟩ := own_b2_0 hx hZ hw hby hml hown Bd.returns hnm a0 X0 e0 (by decide) (by decide) 
  obtain ⟨fs, hr, hrun, hended, hW, hsame⟩ := X'.leave (v := none) (fun _ => rfl)
  refine ⟨_, _, castTop (ef_2 m a0) (st' fs hr), hrun, hended, _, _, rfl, ?_, ⟨_, rfl⟩, hW, hsame.mono (by decide) (by decide)⟩
  exact ⟨rfl, rfl, e'⟩
theorem d1_0 : decode prog_63_method_2_code 0 = .ok (.aload_n 0, 1) := by decide +kernel
theorem d1_1 : decode prog_63_method_2_code 1 = .ok (.invokespecial 1, 3) := by decide +kernel
theorem d1_4 : decode prog_63_method_2_code 4 = .ok (.aload_n 0, 1) := by decide +kernel
theorem d1_5 : decode prog_63_method_2_code 5 = .ok (.lload_n 1, 1) := by decide +kernel
theorem d1_6 : decode prog_63_method_2_code 6 = .ok (.putfield 7, 3) := by decide +kernel
theorem d1_9 : decode prog_63_method_2_code 9 = .ok (.aload_n 0, 1) := by decide +kernel
theorem d1_10 : decode prog_63_method_2_code 10 = .ok (.lload_n 3, 1) := by decide +kernel
theorem d1_11 : decode prog_63_method_2_code 11 = .ok (.putfield 13, 3) := by decide +kernel
theorem d1_14 : decode prog_63_method_2_code 14 = .ok (.aload_n 0, 1) := by decide +kernel
theorem d1_15 : decode prog_63_method_2_code 15 = .ok (.iload 5, 2) := by decide +kernel
theorem d1_17 : decode prog_63_method_2_code 17 = .ok (.putfield 16, 3) := by decide +kernel
theorem d1_20 : decode prog_63_method_2_code 20 = .ok (.return_, 1) := by decide +kernel
theorem pn_1 : plainName "com/example/refill/refill/core/store/BucketLimits" = true := by first | (simp [plainName, overriddenIn]; done) | decide +kernel
theorem pd_1_0 : parseMethodDescriptor "()V" = some ⟨[], none⟩ := by decide +kernel
theorem ef_1 (m : MethodId) (a0 : Addr) (j1 : Int64) (j3 : Int64) (i5 : Int32) : entryFrame m #[(.ref a0), (.long j1), (.long j3), (.int i5)] 6 = mkF m 0 #[.val (.ref a0), .val (.long j1), .second, .val (.long j3), .second, .val (.int i5)] [] := by first | (simp [entryFrame, mkF, argsToLocals, Value.category]; done) | rfl
def own_o1_burstTokens (j1 : Int64) (j3 : Int64) (i5 : Int32) (w_burstTokens : Int64) (w_tokensPerMinute : Int64) (w_heldAcrossLoss : Int32) : Int64 :=
  j1
def own_o1_tokensPerMinute (j1 : Int64) (j3 : Int64) (i5 : Int32) (w_burstTokens : Int64) (w_tokensPerMinute : Int64) (w_heldAcrossLoss : Int32) : Int64 :=
  j3
def own_o1_heldAcrossLoss (j1 : Int64) (j3 : Int64) (i5 : Int32) (w_burstTokens : Int64) (w_tokensPerMinute : Int64) (w_heldAcrossLoss : Int32) : Int32 :=
  (nar .boolean i5)
set_option maxRecDepth 65536 in
set_option maxHeartbeats 40000000 in
theorem own_b1_0 {p : Program} {l : Launch} {e : Env} {s : State} {m : MethodId} {args : Array Value} {below : List Frame} {meth : Method} {c : Code} {Z : State} {a0_ : Array Value} {n0 : Nat} (hx : p.tables.exec = Jvm.exec) (hZ : Z.Warmed39 s.vm) (hw : ∀ d ∈ tables_1, d.before a0_ Z = true) (hby : c.code = prog_63_method_2_code) (hml : c.maxLocals = 6) (hown : s.vm.findClass "com/example/refill/refill/core/store/BucketLimits" = some m.cls) (hret : meth.sig.returnType = none) (hnm : meth.name = "<init>") {T0 : State} {locs : List Loc} {h0 : Heap} (a0 : Addr) (j1 : Int64) (j3 : Int64) (i5 : Int32) (w_burstTokens : Int64) (w_tokensPerMinute : Int64) (w_heldAcrossLoss : Int32)
    (X0 : Stand p l e ({ frames := 2, cells := 0, slots := 0, locals := 24 } : Room) s m args below meth c T0 locs 0 0) (e0 : T0.heap = h0) (N0 : Fr n0 locs) (Z0 : n0 ≤ h0.size) (E_a0 : Exa Z h0 a0 "com/example/refill/refill/core/store/BucketLimits") (g_a0 : n0 ≤ a0) (F_burstTokens_a0 : Fld Z h0 a0 "com/example/refill/refill/core/store/BucketLimits" "burstTokens" "J" (.long w_burstTokens)) (F_tokensPerMinute_a0 : Fld Z h0 a0 "com/example/refill/refill/core/store/BucketLimits" "tokensPerMinute" "J" (.long w_tokensPerMinute)) (F_heldAcrossLoss_a0 : Fld Z h0 a0 "com/example/refill/refill/core/store/BucketLimits" "heldAcrossLoss" "Z" (.int w_heldAcrossLoss)) :
    ∃ T' h' locs', Stand p l e ({ frames := 2, cells := 0, slots := 0, locals := 24 } : Room) s m args below meth c T' locs' 0 0 ∧ T'.heap = h' ∧ Fr n0 locs' ∧ Keep h0 h' [a0] ∧ Exa Z h' a0 "com/example/refill/refill/core/store/BucketLimits" ∧ Fld Z h' a0 "com/example/refill/refill/core/store/BucketLimits" "burstTokens" "J" (.long (own_o1_burstTokens j1 j3 i5 w_burstTokens w_tokensPerMinute w_heldAcrossLoss)) ∧ Fld Z h' a0 "com/example/refill/refill/core/store/BucketLimits" "tokensPerMinute" "J" (.long (own_o1_tokensPerMinute j1 j3 i5 w_burstTokens w_tokensPerMinute w_heldAcrossLoss)) ∧ Fld Z h' a0 "com/example/refill/refill/core/store/BucketLimits" "heldAcrossLoss" "Z" (.int (own_o1_heldAcrossLoss j1 j3 i5 w_burstTokens w_tokensPerMinute w_heldAcrossLoss)) ∧ ∀ fs, (∀ (f : JFrame) (acts : List Action), f.method = m → f.locked = none → f.entered = [] → (doReturn e (T'.setTop f) acts (none)).1 = T'.setFrames fs) → Steps p.tables e below (T0.setTop (mkF m 0 #[.val (.ref a0), .val (.long j1), .second, .val (.long j3), .second, .val (.int i5)] [])) (T'.setFrames fs) := by
  obtain ⟨_, _, ⟨T1, L1, k1, n1⟩, -, X1, ⟨Lc1, hQ1, l1, y1, z1⟩, st1⟩ := X0.specialBack hx (y := (⟨"java/lang/Record", "<init>", "()V"⟩ : MethodName)) rfl hown (mvT hZ (hw _ (List.mem_of_getElem? (i := 9) rfl))) (mvT hZ (hw _ (List.mem_of_getElem? (i := 10) rfl))) (mvT hZ (hw _ (List.mem_of_getElem? (i := 13) rfl))) (by decide) (backOf (W := 0) (rm2 l Z a0_ hw [] a0  h0 n0 Z0 ) hZ (hw _ (List.mem_of_getElem? (i := 13) rfl)) (hw _ (List.mem_of_getElem? (i := 12) rfl)) (by decide) (by decide)) (g := (mkF m 1 #[.val (.ref a0), .val (.long j1), .second, .val (.long j3), .second, .val (.int i5)] [(.ref a0)])) rfl (by rw [hml]; rfl) (Steps.refl _) (a := a0) (argsL := []) (rest := []) (lenOf pd_1_0 rfl) rfl (by show 2 * 0 + _ ≤ _; exact Nat.le_of_eq rfl) (hb hby d1_1) (fun _ _ => ⟨rfl, e0, (by decide : 0 + 0 ≤ ({ frames := 2, cells := 0, slots := 0, locals := 24 } : Room).cells), (by decide : 0 + 0 ≤ ({ frames := 2, cells := 0, slots := 0, locals := 24 } : Room).slots)⟩)
  dsimp only [Pt.U, Pt.locs, Pt.cells, Pt.slots] at X1 l1 y1 z1 st1 hQ1
  subst l1 y1 z1
  obtain ⟨rfl, rfl, e1⟩ := hQ1
  rw [List.append_nil] at X1
  obtain ⟨T2, h2, X2, e2, W2, st2⟩ := putF X1 hx hZ hown (host := "") (Or.inl (hw _ (List.mem_of_getElem? (i := 17) rfl))) Via.refl e1 F_burstTokens_a0 E_a0 (Or.inr ⟨(hw _ (List.mem_of_getElem? (i := 18) rfl)), rfl, hnm⟩) (hw _ (List.mem_of_getElem? (i := 4) rfl)) (ty := .long) (by decide) rfl rfl (g := (mkF m 6 #[.val (.ref a0), .val (.long j1), .second, .val (.long j3), .second, .val (.int i5)] [(.long j1), (.ref a0)])) rfl rfl (hb hby d1_6)
  have N2 := Fr.snoc X2 N0 g_a0
  have Z2 : n0 ≤ h2.size := Nat.le_trans Z0 (Keep.of_wr W2).1
  have K2 : Keep h0 h2 [a0] := (Keep.refl h0 [a0]).wr W2 (Or.inl (List.mem_of_getElem? (i := 0) rfl))
  have E_a0_k2 := E_a0.wr W2
  have F_burstTokens_a0_k2 := F_burstTokens_a0.same W2
  have F_tokensPerMinute_a0_k2 := F_tokensPerMinute_a0.other W2 (Or.inr (slot_ne (Or.inr (hw _ (List.mem_of_getElem? (i := 20) rfl))) (Or.inr (hw _ (List.mem_of_getElem? (i := 18) rfl))) (by decide) (t := .long) (t' := .long) (by decide) (by decide)))
  have F_heldAcrossLoss_a0_k2 := F_heldAcrossLoss_a0.other W2 (Or.inr (slot_ne (Or.inr (hw _ (List.mem_of_getElem? (i := 22) rfl))) (Or.inr (hw _ (List.mem_of_getElem? (i := 18) rfl))) (by decide) (t := .boolean) (t' := .long) (by decide) (by decide)))
  obtain ⟨T3, h3, X3, e3, W3, st3⟩ := putF X2 hx hZ hown (host := "") (Or.inl (hw _ (List.mem_of_getElem? (i := 19) rfl))) Via.refl e2 F_tokensPerMinute_a0_k2 E_a0_k2 (Or.inr ⟨(hw _ (List.mem_of_getElem? (i := 20) rfl)), rfl, hnm⟩) (hw _ (List.mem_of_getElem? (i := 4) rfl)) (ty := .long) (by decide) rfl rfl (g := (mkF m 11 #[.val (.ref a0), .val (.long j1), .second, .val (.long j3), .second, .val (.int i5)] [(.long j3), (.ref a0)])) rfl rfl (hb hby d1_11)
  have N3 := Fr.snoc X3 N2 g_a0
  have Z3 : n0 ≤ h3.size := Nat.le_trans Z2 (Keep.of_wr W3).1
  have K3 : Keep h0 h3 [a0] := K2.wr W3 (Or.inl (List.mem_of_getElem? (i := 0) rfl))
  have E_a0_k3 := E_a0_k2.wr W3
  have F_burstTokens_a0_k3 := F_burstTokens_a0_k2.other W3 (Or.inr (slot_ne (Or.inr (hw _ (List.mem_of_getElem? (i := 18) rfl))) (Or.inr (hw _ (List.mem_of_getElem? (i := 20) rfl))) (by decide) (t := .long) (t' := .long) (by decide) (by decide)))
  have F_tokensPerMinute_a0_k3 := F_tokensPerMinute_a0_k2.same W3
  have F_heldAcrossLoss_a0_k3 := F_heldAcrossLoss_a0_k2.other W3 (Or.inr (slot_ne (Or.inr (hw _ (List.mem_of_getElem? (i := 22) rfl))) (Or.inr (hw _ (List.mem_of_getElem? (i := 20) rfl))) (by decide) (t := .boolean) (t' := .long) (by decide) (by decide)))
  obtain ⟨T4, h4, X4, e4, W4, st4⟩ := putFN X3 hx hZ hown (hw _ (List.mem_of_getElem? (i := 21) rfl)) Via.refl e3 F_heldAcrossLoss_a0_k3 E_a0_k3 (Or.inr ⟨(hw _ (List.mem_of_getElem? (i := 22) rfl)), rfl, hnm⟩) (hw _ (List.mem_of_getElem? (i := 4) rfl)) (ty := .boolean) (v' := (.int (nar .boolean i5))) (by decide) rfl (fits_nar_bool _) (g := (mkF m 17 #[.val (.ref a0), .val (.long j1), .second, .val (.long j3), .second, .val (.int i5)] [(.int i5), (.ref a0)])) rfl rfl (hb hby d1_17)
  have N4 := Fr.snoc X4 N3 g_a0
  have Z4 : n0 ≤ h4.size := Nat.le_trans Z3 (Keep.of_wr W4).1
  have K4 : Keep h0 h4 [a0] := K3.wr W4 (Or.inl (List.mem_of_getElem? (i := 0) rfl))
  have E_a0_k4 := E_a0_k3.wr W4
  have F_burstTokens_a0_k4 := F_burstTokens_a0_k3.other W4 (Or.inr (slot_ne (Or.inr (hw _ (List.mem_of_getElem? (i := 18) rfl))) (Or.inr (hw _ (List.mem_of_getElem? (i := 22) rfl))) (by decide) (t := .long) (t' := .boolean) (by decide) (by decide)))
  have F_tokensPerMinute_a0_k4 := F_tokensPerMinute_a0_k3.other W4 (Or.inr (slot_ne (Or.inr (hw _ (List.mem_of_getElem? (i := 20) rfl))) (Or.inr (hw _ (List.mem_of_getElem? (i := 22) rfl))) (by decide) (t := .long) (t' := .boolean) (by decide) (by decide)))
  have F_heldAcrossLoss_a0_k4 := F_heldAcrossLoss_a0_k3.same W4
  have ho_burstTokens : (own_o1_burstTokens j1 j3 i5 w_burstTokens w_tokensPerMinute w_heldAcrossLoss) = j1 := by unfold own_o1_burstTokens; rfl
  have ho_tokensPerMinute : (own_o1_tokensPerMinute j1 j3 i5 w_burstTokens w_tokensPerMinute w_heldAcrossLoss) = j3 := by unfold own_o1_tokensPerMinute; rfl
  have ho_heldAcrossLoss : (own_o1_heldAcrossLoss j1 j3 i5 w_burstTokens w_tokensPerMinute w_heldAcrossLoss) = (nar .boolean i5) := by unfold own_o1_heldAcrossLoss; rfl
  refine ⟨T4, _, _, X4, e4, N4, K4, E_a0_k4, (by rw [ho_burstTokens]; exact F_burstTokens_a0_k4), (by rw [ho_tokensPerMinute]; exact F_tokensPerMinute_a0_k4), (by rw [ho_heldAcrossLoss]; exact F_heldAcrossLoss_a0_k4), fun fs hr => ?_⟩
  show Steps p.tables e below (T0.setTop (mkF m 0 #[.val (.ref a0), .val (.long j1), .second, .val (.long j3), .second, .val (.int i5)] [])) _
  refine XS.aloadN X0.here hx rfl (hb hby d1_0) rfl rfl ?_
  show Steps p.tables e below (T0.setTop (mkF m 1 #[.val (.ref a0), .val (.long j1), .second, .val (.long j3), .second, .val (.int i5)] [(.ref a0)])) _
  refine st1.trans ?_
  show Steps p.tables e below (T1.setTop (mkF m 4 #[.val (.ref a0), .val (.long j1), .second, .val (.long j3), .second, .val (.int i5)] [])) _
  refine XS.aloadN X1.here hx rfl (hb hby d1_4) rfl rfl ?_
  show Steps p.tables e below (T1.setTop (mkF m 5 #[.val (.ref a0), .val (.long j1), .second, .val (.long j3), .second, .val (.int i5)] [(.ref a0)])) _
  refine XS.lloadN X1.here hx rfl (hb hby d1_5) rfl ?_
  show Steps p.tables e below (T1.setTop (mkF m 6 #[.val (.ref a0), .val (.long j1), .second, .val (.long j3), .second, .val (.int i5)] [(.long j1), (.ref a0)])) _
  refine st2 _ ?_
  show Steps p.tables e below (T2.setTop (mkF m 9 #[.val (.ref a0), .val (.long j1), .second, .val (.long j3), .second, .val (.int i5)] [])) _
  refine XS.aloadN X2.here hx rfl (hb hby d1_9) rfl rfl ?_
  show Steps p.tables e below (T2.setTop (mkF m 10 #[.val (.ref a0), .val (.long j1), .second, .val (.long j3), .second, .val (.int i5)] [(.ref a0)])) _
  refine XS.lloadN X2.here hx rfl (hb hby d1_10) rfl ?_
  show Steps p.tables e below (T2.setTop (mkF m 11 #[.val (.ref a0), .val (.long j1), .second, .val (.long j3), .second, .val (.int i5)] [(.long j3), (.ref a0)])) _
  refine st3 _ ?_
  show Steps p.tables e below (T3.setTop (mkF m 14 #[.val (.ref a0), .val (.long j1), .second, .val (.long j3), .second, .val (.int i5)] [])) _
  refine XS.aloadN X3.here hx rfl (hb hby d1_14) rfl rfl ?_
  show Steps p.tables e below (T3.setTop (mkF m 15 #[.val (.ref a0), .val (.long j1), .second, .val (.long j3), .second, .val (.int i5)] [(.ref a0)])) _
  refine XS.iload X3.here hx rfl (hb hby d1_15) rfl ?_
  show Steps p.tables e below (T3.setTop (mkF m 17 #[.val (.ref a0), .val (.long j1), .second, .val (.long j3), .second, .val (.int i5)] [(.int i5), (.ref a0)])) _
  refine st4 _ ?_
  show Steps p.tables e below (T4.setTop (mkF m 20 #[.val (.ref a0), .val (.long j1), .second, .val (.long j3), .second, .val (.int i5)] [])) _
  exact X4.returnOut hx hret (hb hby d1_20) hr
def Q1 (Z : State) (a0 : Addr) (j1 : Int64) (j3 : Int64) (i5 : Int32) (w_burstTokens : Int64) (w_tokensPerMinute : Int64) (w_heldAcrossLoss : Int32) (h0 : Heap) (n0 : Nat) (v : Option Value) (h : Heap) (L : List Loc) : Prop := v = none ∧ Fr n0 L ∧ Keep h0 h [a0] ∧ Exa Z h a0 "com/example/refill/refill/core/store/BucketLimits" ∧ Fld Z h a0 "com/example/refill/refill/core/store/BucketLimits" "burstTokens" "J" (.long (own_o1_burstTokens j1 j3 i5 w_burstTokens w_tokensPerMinute w_heldAcrossLoss)) ∧ Fld Z h a0 "com/example/refill/refill/core/store/BucketLimits" "tokensPerMinute" "J" (.long (own_o1_tokensPerMinute j1 j3 i5 w_burstTokens w_tokensPerMinute w_heldAcrossLoss)) ∧ Fld Z h a0 "com/example/refill/refill/core/store/BucketLimits" "heldAcrossLoss" "Z" (.int (own_o1_heldAcrossLoss j1 j3 i5 w_burstTokens w_tokensPerMinute w_heldAcrossLoss))
set_option maxRecDepth 65536 in
set_option maxHeartbeats 40000000 in
theorem rm1 (l : Launch) (Z : State) (a0_ : Array Value) (hw : ∀ d ∈ tables_1, d.before a0_ Z = true) (ws : List Jvm.Cond) (a0 : Addr) (j1 : Int64) (j3 : Int64) (i5 : Int32) (w_burstTokens : Int64) (w_tokensPerMinute : Int64) (w_heldAcrossLoss : Int32) (h0 : Heap) (n0 : Nat) (Z0 : n0 ≤ h0.size) (E_a0 : Exa Z h0 a0 "com/example/refill/refill/core/store/BucketLimits") (g_a0 : n0 ≤ a0) (F_burstTokens_a0 : Fld Z h0 a0 "com/example/refill/refill/core/store/BucketLimits" "burstTokens" "J" (.long w_burstTokens)) (F_tokensPerMinute_a0 : Fld Z h0 a0 "com/example/refill/refill/core/store/BucketLimits" "tokensPerMinute" "J" (.long w_tokensPerMinute)) (F_heldAcrossLoss_a0 : Fld Z h0 a0 "com/example/refill/refill/core/store/BucketLimits" "heldAcrossLoss" "Z" (.int w_heldAcrossLoss)) :
    MetFree l (⟨"com/example/refill/refill/core/store/BucketLimits", "<init>", "(JJZ)V"⟩ : MethodName) (head1 (Jvm.Cond.code (⟨"com/example/refill/refill/core/store/BucketLimits", "<init>", "(JJZ)V"⟩ : MethodName) prog_63_method_2_code 6 none :: ws) ({ frames := 2, cells := 0, slots := 0, locals := 24 } : Room)) (fun a U => a = #[(.ref a0), (.long j1), (.long j3), (.int i5)] ∧ Z.Warmed39 U.vm ∧ U.heap = h0) (fun _ _ _ _ _ => True) (fun _ U o U' => ∃ v L, o = .returned v ∧ Q1 Z a0 j1 j3 i5 w_burstTokens w_tokensPerMinute w_heldAcrossLoss h0 n0 v U'.heap L ∧ FrameEnd U o U' L ({ frames := 2, cells := 0, slots := 0, locals := 24 } : Room).cells ({ frames := 2, cells := 0, slots := 0, locals := 24 } : Room).slots) := by
  refine MetFree.of_bodySF (plainFor_of_name pn_1) hisR ?_
  intro p e s m args below meth c s₁ Bd hml0 hP hK
  obtain ⟨rfl, hZ, hh⟩ := hP
  have hx := Bd.exec
  have hby := Bd.bytes
  have hml : c.maxLocals = 6 := hml0
  have hown : s.vm.findClass "com/example/refill/refill/core/store/BucketLimits" = some m.cls := findClass_of_methodNamed Bd.named
  have X0 : Stand p l e ({ frames := 2, cells := 0, slots := 0, locals := 24 } : Room) s m #[(.ref a0), (.long j1), (.long j3), (.int i5)] below meth c s₁ [] 0 0 := Stand.of_body Bd
  have e0 : s₁.heap = h0 := by rw [← hh, Bd.state]; rfl
  have hnm := (name_of_methodNamed Bd.named Bd.method).1
  obtain ⟨T', h', L', X', e', N', K', G0', G1', G2', G3', st'⟩ := own_b1_0 hx hZ hw hby hml hown Bd.returns hnm a0 j1 j3 i5 w_burstTokens w_tokensPerMinute w_heldAcrossLoss X0 e0 (Fr.nil n0) Z0 E_a0 g_a0 F_burstTokens_a0 F_tokensPerMinute_a0 F_heldAcrossLoss_a0
  obtain ⟨fs, hr, hrun, hended, hW, hsame⟩ := X'.leave (v := none) (fun _ => rfl)
  refine ⟨_, _, castTop (ef_1 m a0 j1 j3 i5) (st' fs hr), hrun, hended, _, _, rfl, ?_, ⟨_, rfl⟩, hW, hsame.mono (by decide) (by decide)⟩
  subst e'
  exact ⟨rfl, N', K', G0', G1', G2', G3'⟩
theorem d4_0 : decode prog_75_method_1_code 0 = .ok (.aload_n 0, 1) := by decide +kernel
theorem d4_1 : decode prog_75_method_1_code 1 = .ok (.invokespecial 1, 3) := by decide +kernel
theorem d4_4 : decode prog_75_method_1_code 4 = .ok (.aload_n 0, 1) := by decide +kernel
theorem d4_5 : decode prog_75_method_1_code 5 = .ok (.lload_n 1, 1) := by decide +kernel
theorem d4_6 : decode prog_75_method_1_code 6 = .ok (.putfield 7, 3) := by decide +kernel
theorem d4_9 : decode prog_75_method_1_code 9 = .ok (.aload_n 0, 1) := by decide +kernel
theorem d4_10 : decode prog_75_method_1_code 10 = .ok (.lload_n 3, 1) := by decide +kernel
theorem d4_11 : decode prog_75_method_1_code 11 = .ok (.putfield 13, 3) := by decide +kernel
theorem d4_14 : decode prog_75_method_1_code 14 = .ok (.return_, 1) := by decide +kernel
theorem pn_4 : plainName "com/example/refill/refill/core/store/TokenBucket" = true := by first | (simp [plainName, overriddenIn]; done) | decide +kernel
theorem pd_4_0 : parseMethodDescriptor "()V" = some ⟨[], none⟩ := by decide +kernel
theorem ef_4 (m : MethodId) (a0 : Addr) (j1 : Int64) (j3 : Int64) : entryFrame m #[(.ref a0), (.long j1), (.long j3)] 5 = mkF m 0 #[.val (.ref a0), .val (.long j1), .second, .val (.long j3), .second] [] := by first | (simp [entryFrame, mkF, argsToLocals, Value.category]; done) | rfl
def own_o4_levelUnits (j1 : Int64) (j3 : Int64) (w_levelUnits : Int64) (w_updatedMicros : Int64) : Int64 :=
  j1
def own_o4_updatedMicros (j1 : Int64) (j3 : Int64) (w_levelUnits : Int64) (w_updatedMicros : Int64) : Int64 :=
  j3
set_option maxRecDepth 65536 in
set_option maxHeartbeats 40000000 in
theorem own_b4_0 {p : Program} {l : Launch} {e : Env} {s : State} {m : MethodId} {args : Array Value} {below : List Frame} {meth : Method} {c : Code} {Z : State} {a0_ : Array Value} {n0 : Nat} (hx : p.tables.exec = Jvm.exec) (hZ : Z.Warmed39 s.vm) (hw : ∀ d ∈ tables_1, d.before a0_ Z = true) (hby : c.code = prog_75_method_1_code) (hml : c.maxLocals = 5) (hown : s.vm.findClass "com/example/refill/refill/core/store/TokenBucket" = some m.cls) (hret : meth.sig.returnType = none) (hnm : meth.name = "<init>") {T0 : State} {locs : List Loc} {h0 : Heap} (a0 : Addr) (j1 : Int64) (j3 : Int64) (w_levelUnits : Int64) (w_updatedMicros : Int64)
    (X0 : Stand p l e ({ frames := 2, cells := 0, slots := 0, locals := 24 } : Room) s m args below meth c T0 locs 0 0) (e0 : T0.heap = h0) (N0 : Fr n0 locs) (Z0 : n0 ≤ h0.size) (E_a0 : Exa Z h0 a0 "com/example/refill/refill/core/store/TokenBucket") (g_a0 : n0 ≤ a0) (F_levelUnits_a0 : Fld Z h0 a0 "com/example/refill/refill/core/store/TokenBucket" "levelUnits" "J" (.long w_levelUnits)) (F_updatedMicros_a0 : Fld Z h0 a0 "com/example/refill/refill/core/store/TokenBucket" "updatedMicros" "J" (.long w_updatedMicros)) :
    ∃ T' h' locs', Stand p l e ({ frames := 2, cells := 0, slots := 0, locals := 24 } : Room) s m args below meth c T' locs' 0 0 ∧ T'.heap = h' ∧ Fr n0 locs' ∧ Keep h0 h' [a0] ∧ Exa Z h' a0 "com/example/refill/refill/core/store/TokenBucket" ∧ Fld Z h' a0 "com/example/refill/refill/core/store/TokenBucket" "levelUnits" "J" (.long (own_o4_levelUnits j1 j3 w_levelUnits w_updatedMicros)) ∧ Fld Z h' a0 "com/example/refill/refill/core/store/TokenBucket" "updatedMicros" "J" (.long (own_o4_updatedMicros j1 j3 w_levelUnits w_updatedMicros)) ∧ ∀ fs, (∀ (f : JFrame) (acts : List Action), f.method = m → f.locked = none → f.entered = [] → (doReturn e (T'.setTop f) acts (none)).1 = T'.setFrames fs) → Steps p.tables e below (T0.setTop (mkF m 0 #[.val (.ref a0), .val (.long j1), .second, .val (.long j3), .second] [])) (T'.setFrames fs) := by
  obtain ⟨_, _, ⟨T1, L1, k1, n1⟩, -, X1, ⟨Lc1, hQ1, l1, y1, z1⟩, st1⟩ := X0.specialBack hx (y := (⟨"java/lang/Record", "<init>", "()V"⟩ : MethodName)) rfl hown (mvT hZ (hw _ (List.mem_of_getElem? (i := 29) rfl))) (mvT hZ (hw _ (List.mem_of_getElem? (i := 10) rfl))) (mvT hZ (hw _ (List.mem_of_getElem? (i := 13) rfl))) (by decide) (backOf (W := 0) (rm2 l Z a0_ hw [] a0  h0 n0 Z0 ) hZ (hw _ (List.mem_of_getElem? (i := 13) rfl)) (hw _ (List.mem_of_getElem? (i := 12) rfl)) (by decide) (by decide)) (g := (mkF m 1 #[.val (.ref a0), .val (.long j1), .second, .val (.long j3), .second] [(.ref a0)])) rfl (by rw [hml]; rfl) (Steps.refl _) (a := a0) (argsL := []) (rest := []) (lenOf pd_4_0 rfl) rfl (by show 2 * 0 + _ ≤ _; exact Nat.le_of_eq rfl) (hb hby d4_1) (fun _ _ => ⟨rfl, e0, (by decide : 0 + 0 ≤ ({ frames := 2, cells := 0, slots := 0, locals := 24 } : Room).cells), (by decide : 0 + 0 ≤ ({ frames := 2, cells := 0, slots := 0, locals := 24 } : Room).slots)⟩)
  dsimp only [Pt.U, Pt.locs, Pt.cells, Pt.slots] at X1 l1 y1 z1 st1 hQ1
  subst l1 y1 z1
  obtain ⟨rfl, rfl, e1⟩ := hQ1
  rw [List.append_nil] at X1
  obtain ⟨T2, h2, X2, e2, W2, st2⟩ := putF X1 hx hZ hown (host := "") (Or.inl (hw _ (List.mem_of_getElem? (i := 30) rfl))) Via.refl e1 F_levelUnits_a0 E_a0 (Or.inr ⟨(hw _ (List.mem_of_getElem? (i := 31) rfl)), rfl, hnm⟩) (hw _ (List.mem_of_getElem? (i := 24) rfl)) (ty := .long) (by decide) rfl rfl (g := (mkF m 6 #[.val (.ref a0), .val (.long j1), .second, .val (.long j3), .second] [(.long j1), (.ref a0)])) rfl rfl (hb hby d4_6)
  have N2 := Fr.snoc X2 N0 g_a0
  have Z2 : n0 ≤ h2.size := Nat.le_trans Z0 (Keep.of_wr W2).1
  have K2 : Keep h0 h2 [a0] := (Keep.refl h0 [a0]).wr W2 (Or.inl (List.mem_of_getElem? (i := 0) rfl))
  have E_a0_k2 := E_a0.wr W2
  have F_levelUnits_a0_k2 := F_levelUnits_a0.same W2
  have F_updatedMicros_a0_k2 := F_updatedMicros_a0.other W2 (Or.inr (slot_ne (Or.inr (hw _ (List.mem_of_getElem? (i := 33) rfl))) (Or.inr (hw _ (List.mem_of_getElem? (i := 31) rfl))) (by decide) (t := .long) (t' := .long) (by decide) (by decide)))
  obtain ⟨T3, h3, X3, e3, W3, st3⟩ := putF X2 hx hZ hown (host := "") (Or.inl (hw _ (List.mem_of_getElem? (i := 32) rfl))) Via.refl e2 F_updatedMicros_a0_k2 E_a0_k2 (Or.inr ⟨(hw _ (List.mem_of_getElem? (i := 33) rfl)), rfl, hnm⟩) (hw _ (List.mem_of_getElem? (i := 24) rfl)) (ty := .long) (by decide) rfl rfl (g := (mkF m 11 #[.val (.ref a0), .val (.long j1), .second, .val (.long j3), .second] [(.long j3), (.ref a0)])) rfl rfl (hb hby d4_11)
  have N3 := Fr.snoc X3 N2 g_a0
  have Z3 : n0 ≤ h3.size := Nat.le_trans Z2 (Keep.of_wr W3).1
  have K3 : Keep h0 h3 [a0] := K2.wr W3 (Or.inl (List.mem_of_getElem? (i := 0) rfl))
  have E_a0_k3 := E_a0_k2.wr W3
  have F_levelUnits_a0_k3 := F_levelUnits_a0_k2.other W3 (Or.inr (slot_ne (Or.inr (hw _ (List.mem_of_getElem? (i := 31) rfl))) (Or.inr (hw _ (List.mem_of_getElem? (i := 33) rfl))) (by decide) (t := .long) (t' := .long) (by decide) (by decide)))
  have F_updatedMicros_a0_k3 := F_updatedMicros_a0_k2.same W3
  have ho_levelUnits : (own_o4_levelUnits j1 j3 w_levelUnits w_updatedMicros) = j1 := by unfold own_o4_levelUnits; rfl
  have ho_updatedMicros : (own_o4_updatedMicros j1 j3 w_levelUnits w_updatedMicros) = j3 := by unfold own_o4_updatedMicros; rfl
  refine ⟨T3, _, _, X3, e3, N3, K3, E_a0_k3, (by rw [ho_levelUnits]; exact F_levelUnits_a0_k3), (by rw [ho_updatedMicros]; exact F_updatedMicros_a0_k3), fun fs hr => ?_⟩
  show Steps p.tables e below (T0.setTop (mkF m 0 #[.val (.ref a0), .val (.long j1), .second, .val (.long j3), .second] [])) _
  refine XS.aloadN X0.here hx rfl (hb hby d4_0) rfl rfl ?_
  show Steps p.tables e below (T0.setTop (mkF m 1 #[.val (.ref a0), .val (.long j1), .second, .val (.long j3), .second] [(.ref a0)])) _
  refine st1.trans ?_
  show Steps p.tables e below (T1.setTop (mkF m 4 #[.val (.ref a0), .val (.long j1), .second, .val (.long j3), .second] [])) _
  refine XS.aloadN X1.here hx rfl (hb hby d4_4) rfl rfl ?_
  show Steps p.tables e below (T1.setTop (mkF m 5 #[.val (.ref a0), .val (.long j1), .second, .val (.long j3), .second] [(.ref a0)])) _
  refine XS.lloadN X1.here hx rfl (hb hby d4_5) rfl ?_
  show Steps p.tables e below (T1.setTop (mkF m 6 #[.val (.ref a0), .val (.long j1), .second, .val (.long j3), .second] [(.long j1), (.ref a0)])) _
  refine st2 _ ?_
  show Steps p.tables e below (T2.setTop (mkF m 9 #[.val (.ref a0), .val (.long j1), .second, .val (.long j3), .second] [])) _
  refine XS.aloadN X2.here hx rfl (hb hby d4_9) rfl rfl ?_
  show Steps p.tables e below (T2.setTop (mkF m 10 #[.val (.ref a0), .val (.long j1), .second, .val (.long j3), .second] [(.ref a0)])) _
  refine XS.lloadN X2.here hx rfl (hb hby d4_10) rfl ?_
  show Steps p.tables e below (T2.setTop (mkF m 11 #[.val (.ref a0), .val (.long j1), .second, .val (.long j3), .second] [(.long j3), (.ref a0)])) _
  refine st3 _ ?_
  show Steps p.tables e below (T3.setTop (mkF m 14 #[.val (.ref a0), .val (.long j1), .second, .val (.long j3), .second] [])) _
  exact X3.returnOut hx hret (hb hby d4_14) hr
def Q4 (Z : State) (a0 : Addr) (j1 : Int64) (j3 : Int64) (w_levelUnits : Int64) (w_updatedMicros : Int64) (h0 : Heap) (n0 : Nat) (v : Option Value) (h : Heap) (L : List Loc) : Prop := v = none ∧ Fr n0 L ∧ Keep h0 h [a0] ∧ Exa Z h a0 "com/example/refill/refill/core/store/TokenBucket" ∧ Fld Z h a0 "com/example/refill/refill/core/store/TokenBucket" "levelUnits" "J" (.long (own_o4_levelUnits j1 j3 w_levelUnits w_updatedMicros)) ∧ Fld Z h a0 "com/example/refill/refill/core/store/TokenBucket" "updatedMicros" "J" (.long (own_o4_updatedMicros j1 j3 w_levelUnits w_updatedMicros))
set_option maxRecDepth 65536 in
set_option maxHeartbeats 40000000 in
theorem rm4 (l : Launch) (Z : State) (a0_ : Array Value) (hw : ∀ d ∈ tables_1, d.before a0_ Z = true) (ws : List Jvm.Cond) (a0 : Addr) (j1 : Int64) (j3 : Int64) (w_levelUnits : Int64) (w_updatedMicros : Int64) (h0 : Heap) (n0 : Nat) (Z0 : n0 ≤ h0.size) (E_a0 : Exa Z h0 a0 "com/example/refill/refill/core/store/TokenBucket") (g_a0 : n0 ≤ a0) (F_levelUnits_a0 : Fld Z h0 a0 "com/example/refill/refill/core/store/TokenBucket" "levelUnits" "J" (.long w_levelUnits)) (F_updatedMicros_a0 : Fld Z h0 a0 "com/example/refill/refill/core/store/TokenBucket" "updatedMicros" "J" (.long w_updatedMicros)) :
    MetFree l (⟨"com/example/refill/refill/core/store/TokenBucket", "<init>", "(JJ)V"⟩ : MethodName) (head1 (Jvm.Cond.code (⟨"com/example/refill/refill/core/store/TokenBucket", "<init>", "(JJ)V"⟩ : MethodName) prog_75_method_1_code 5 none :: ws) ({ frames := 2, cells := 0, slots := 0, locals := 24 } : Room)) (fun a U => a = #[(.ref a0), (.long j1), (.long j3)] ∧ Z.Warmed39 U.vm ∧ U.heap = h0) (fun _ _ _ _ _ => True) (fun _ U o U' => ∃ v L, o = .returned v ∧ Q4 Z a0 j1 j3 w_levelUnits w_updatedMicros h0 n0 v U'.heap L ∧ FrameEnd U o U' L ({ frames := 2, cells := 0, slots := 0, locals := 24 } : Room).cells ({ frames := 2, cells := 0, slots := 0, locals := 24 } : Room).slots) := by
  refine MetFree.of_bodySF (plainFor_of_name pn_4) hisR ?_
  intro p e s m args below meth c s₁ Bd hml0 hP hK
  obtain ⟨rfl, hZ, hh⟩ := hP
  have hx := Bd.exec
  have hby := Bd.bytes
  have hml : c.maxLocals = 5 := hml0
  have hown : s.vm.findClass "com/example/refill/refill/core/store/TokenBucket" = some m.cls := findClass_of_methodNamed Bd.named
  have X0 : Stand p l e ({ frames := 2, cells := 0, slots := 0, locals := 24 } : Room) s m #[(.ref a0), (.long j1), (.long j3)] below meth c s₁ [] 0 0 := Stand.of_body Bd
  have e0 : s₁.heap = h0 := by rw [← hh, Bd.state]; rfl
  have hnm := (name_of_methodNamed Bd.named Bd.method).1
  obtain ⟨T', h', L', X', e', N', K', G0', G1', G2', st'⟩ := own_b4_0 hx hZ hw hby hml hown Bd.returns hnm a0 j1 j3 w_levelUnits w_updatedMicros X0 e0 (Fr.nil n0) Z0 E_a0 g_a0 F_levelUnits_a0 F_updatedMicros_a0
  obtain ⟨fs, hr, hrun, hended, hW, hsame⟩ := X'.leave (v := none) (fun _ => rfl)
  refine ⟨_, _, castTop (ef_4 m a0 j1 j3) (st' fs hr), hrun, hended, _, _, rfl, ?_, ⟨_, rfl⟩, hW, hsame.mono (by decide) (by decide)⟩
  subst e'
  exact ⟨rfl, N', K', G0', G1', G2'⟩
theorem d6_0 : decode prog_63_method_9_code 0 = .ok (.aload_n 0, 1) := by decide +kernel
theorem d6_1 : decode prog_63_method_9_code 1 = .ok (.getfield 7, 3) := by decide +kernel
theorem d6_4 : decode prog_63_method_9_code 4 = .ok (.lreturn, 1) := by decide +kernel
theorem pn_6 : plainName "com/example/refill/refill/core/store/BucketLimits" = true := by first | (simp [plainName, overriddenIn]; done) | decide +kernel
theorem ef_6 (m : MethodId) (a0 : Addr) : entryFrame m #[(.ref a0)] 1 = mkF m 0 #[.val (.ref a0)] [] := by first | (simp [entryFrame, mkF, argsToLocals, Value.category]; done) | rfl
def own_f6_0 (w_burstTokens_a0 : Int64) : Int64 :=
  w_burstTokens_a0
set_option maxRecDepth 65536 in
set_option maxHeartbeats 40000000 in
theorem own_b6_0 {p : Program} {l : Launch} {e : Env} {s : State} {m : MethodId} {args : Array Value} {below : List Frame} {meth : Method} {c : Code} {Z : State} {a0_ : Array Value} (hx : p.tables.exec = Jvm.exec) (hZ : Z.Warmed39 s.vm) (hw : ∀ d ∈ tables_1, d.before a0_ Z = true) (hby : c.code = prog_63_method_9_code) (hml : c.maxLocals = 1) (hown : s.vm.findClass "com/example/refill/refill/core/store/BucketLimits" = some m.cls) (hret : meth.sig.returnType = some .long) {T0 : State} {locs : List Loc} {cells slots : Nat} {h0 : Heap} (a0 : Addr) (w_burstTokens_a0 : Int64)
    (X0 : Stand p l e ({ frames := 0, cells := 0, slots := 0, locals := 0 } : Room) s m args below meth c T0 locs cells slots) (e0 : T0.heap = h0) (hcl : cells ≤ ({ frames := 0, cells := 0, slots := 0, locals := 0 } : Room).cells) (hsl : slots ≤ ({ frames := 0, cells := 0, slots := 0, locals := 0 } : Room).slots) (F_burstTokens_a0 : Fld Z h0 a0 "com/example/refill/refill/core/store/BucketLimits" "burstTokens" "J" (.long w_burstTokens_a0)) :
    ∃ T', Stand p l e ({ frames := 0, cells := 0, slots := 0, locals := 0 } : Room) s m args below meth c T' locs cells slots ∧ T'.heap = h0 ∧ ∀ fs, (∀ (f : JFrame) (acts : List Action), f.method = m → f.locked = none → f.entered = [] → (doReturn e (T'.setTop f) acts (some (.long (own_f6_0 w_burstTokens_a0)))).1 = T'.setFrames fs) → Steps p.tables e below (T0.setTop (mkF m 0 #[.val (.ref a0)] [])) (T'.setFrames fs) := by
  obtain ⟨T1, X1, e1, st1⟩ := getF X0 hx hZ hown (host := "") (Or.inl (hw _ (List.mem_of_getElem? (i := 17) rfl))) Via.refl e0 F_burstTokens_a0 (g := (mkF m 1 #[.val (.ref a0)] [(.ref a0)])) rfl rfl (hb hby d6_1)
  refine ⟨T1, X1, e1, fun fs hr => ?_⟩
  have hv : (own_f6_0 w_burstTokens_a0) = w_burstTokens_a0 := by unfold own_f6_0; rfl
  rw [hv] at hr
  show Steps p.tables e below (T0.setTop (mkF m 0 #[.val (.ref a0)] [])) _
  refine XS.aloadN X0.here hx rfl (hb hby d6_0) rfl rfl ?_
  show Steps p.tables e below (T0.setTop (mkF m 1 #[.val (.ref a0)] [(.ref a0)])) _
  refine st1 _ ?_
  show Steps p.tables e below (T1.setTop (mkF m 4 #[.val (.ref a0)] [(.long w_burstTokens_a0)])) _
  exact X1.lreturnOut hx hret (hb hby d6_4) hr
def Q6 (Z : State) (a0 : Addr) (w_burstTokens_a0 : Int64) (h0 : Heap) (n0 : Nat) (v : Option Value) (h : Heap) (L : List Loc) : Prop := v = some (.long (own_f6_0 w_burstTokens_a0)) ∧ L = [] ∧ h = h0
set_option maxRecDepth 65536 in
set_option maxHeartbeats 40000000 in
theorem rm6 (l : Launch) (Z : State) (a0_ : Array Value) (hw : ∀ d ∈ tables_1, d.before a0_ Z = true) (ws : List Jvm.Cond) (a0 : Addr) (w_burstTokens_a0 : Int64) (h0 : Heap) (n0 : Nat) (Z0 : n0 ≤ h0.size) (F_burstTokens_a0 : Fld Z h0 a0 "com/example/refill/refill/core/store/BucketLimits" "burstTokens" "J" (.long w_burstTokens_a0)) :
    MetFree l (⟨"com/example/refill/refill/core/store/BucketLimits", "burstTokens", "()J"⟩ : MethodName) (head1 (Jvm.Cond.code (⟨"com/example/refill/refill/core/store/BucketLimits", "burstTokens", "()J"⟩ : MethodName) prog_63_method_9_code 1 (some .long) :: ws) ({ frames := 0, cells := 0, slots := 0, locals := 0 } : Room)) (fun a U => a = #[(.ref a0)] ∧ Z.Warmed39 U.vm ∧ U.heap = h0) (fun _ _ _ _ _ => True) (fun _ U o U' => ∃ v L, o = .returned v ∧ Q6 Z a0 w_burstTokens_a0 h0 n0 v U'.heap L ∧ FrameEnd U o U' L ({ frames := 0, cells := 0, slots := 0, locals := 0 } : Room).cells ({ frames := 0, cells := 0, slots := 0, locals := 0 } : Room).slots) := by
  refine MetFree.of_bodySF (plainFor_of_name pn_6) hisR ?_
  intro p e s m args below meth c s₁ Bd hml0 hP hK
  obtain ⟨rfl, hZ, hh⟩ := hP
  have hx := Bd.exec
  have hby := Bd.bytes
  have hml : c.maxLocals = 1 := hml0
  have hown : s.vm.findClass "com/example/refill/refill/core/store/BucketLimits" = some m.cls := findClass_of_methodNamed Bd.named
  have X0 : Stand p l e ({ frames := 0, cells := 0, slots := 0, locals := 0 } : Room) s m #[(.ref a0)] below meth c s₁ [] 0 0 := Stand.of_body Bd
  have e0 : s₁.heap = h0 := by rw [← hh, Bd.state]; rfl
  obtain ⟨T', X', e', st'⟩ := own_b6_0 hx hZ hw hby hml hown Bd.returns  a0 w_burstTokens_a0 X0 e0 (by decide) (by decide) F_burstTokens_a0
  obtain ⟨fs, hr, hrun, hended, hW, hsame⟩ := X'.leave (v := some (.long (own_f6_0 w_burstTokens_a0))) (fun h => by rw [Bd.returns] at h; cases h)
  refine ⟨_, _, castTop (ef_6 m a0) (st' fs hr), hrun, hended, _, _, rfl, ?_, ⟨_, rfl⟩, hW, hsame.mono (by decide) (by decide)⟩
  exact ⟨rfl, rfl, e'⟩
theorem d5_0 : decode prog_75_method_5_code 0 = .ok (.lload_n 2, 1) := by decide +kernel
theorem d5_1 : decode prog_75_method_5_code 1 = .ok (.aload_n 1, 1) := by decide +kernel
theorem d5_2 : decode prog_75_method_5_code 2 = .ok (.invokevirtual 32, 3) := by decide +kernel
theorem d5_5 : decode prog_75_method_5_code 5 = .ok (.lcmp, 1) := by decide +kernel
theorem d5_6 : decode prog_75_method_5_code 6 = .ok (.ifCond .gt 20, 3) := by decide +kernel
theorem d5_9 : decode prog_75_method_5_code 9 = .ok (.aload_n 0, 1) := by decide +kernel
theorem d5_10 : decode prog_75_method_5_code 10 = .ok (.getfield 7, 3) := by decide +kernel
theorem d5_13 : decode prog_75_method_5_code 13 = .ok (.lload_n 2, 1) := by decide +kernel
theorem d5_14 : decode prog_75_method_5_code 14 = .ok (.ldc2_w 35, 3) := by decide +kernel
theorem d5_17 : decode prog_75_method_5_code 17 = .ok (.lmul, 1) := by decide +kernel
theorem d5_18 : decode prog_75_method_5_code 18 = .ok (.lcmp, 1) := by decide +kernel
theorem d5_19 : decode prog_75_method_5_code 19 = .ok (.ifCond .lt 7, 3) := by decide +kernel
theorem d5_22 : decode prog_75_method_5_code 22 = .ok (.iconst 1, 1) := by decide +kernel
theorem d5_23 : decode prog_75_method_5_code 23 = .ok (.goto 4, 3) := by decide +kernel
theorem d5_26 : decode prog_75_method_5_code 26 = .ok (.iconst 0, 1) := by decide +kernel
theorem d5_27 : decode prog_75_method_5_code 27 = .ok (.ireturn, 1) := by decide +kernel
theorem pn_5 : plainName "com/example/refill/refill/core/store/TokenBucket" = true := by first | (simp [plainName, overriddenIn]; done) | decide +kernel
theorem pd_5_0 : parseMethodDescriptor "()J" = some ⟨[], some .long⟩ := by decide +kernel
theorem ef_5 (m : MethodId) (a0 : Addr) (a1 : Addr) (j2 : Int64) : entryFrame m #[(.ref a0), (.ref a1), (.long j2)] 4 = mkF m 0 #[.val (.ref a0), .val (.ref a1), .val (.long j2), .second] [] := by first | (simp [entryFrame, mkF, argsToLocals, Value.category]; done) | rfl
def own_f5_0 (j2 : Int64) (w_burstTokens_a1 : Int64) (w_levelUnits_a0 : Int64) : Int32 :=
  (if (own_f6_0 w_burstTokens_a1) < j2 then (0 : Int32) else (if w_levelUnits_a0 < (j2 * (60000000 : Int64)) then (0 : Int32) else (1 : Int32)))
set_option maxRecDepth 65536 in
set_option maxHeartbeats 40000000 in
theorem own_b5_0 {p : Program} {l : Launch} {e : Env} {s : State} {m : MethodId} {args : Array Value} {below : List Frame} {meth : Method} {c : Code} {Z : State} {a0_ : Array Value} (hx : p.tables.exec = Jvm.exec) (hZ : Z.Warmed39 s.vm) (hw : ∀ d ∈ tables_1, d.before a0_ Z = true) (hby : c.code = prog_75_method_5_code) (hml : c.maxLocals = 4) (hown : s.vm.findClass "com/example/refill/refill/core/store/TokenBucket" = some m.cls) (hret : meth.sig.returnType = some .boolean) {T0 : State} {locs : List Loc} {cells slots : Nat} {h0 : Heap} (a0 : Addr) (a1 : Addr) (j2 : Int64) (w_burstTokens_a1 : Int64) (w_levelUnits_a0 : Int64)
    (X0 : Stand p l e ({ frames := 1, cells := 0, slots := 0, locals := 14 } : Room) s m args below meth c T0 locs cells slots) (e0 : T0.heap = h0) (hcl : cells ≤ ({ frames := 1, cells := 0, slots := 0, locals := 14 } : Room).cells) (hsl : slots ≤ ({ frames := 1, cells := 0, slots := 0, locals := 14 } : Room).slots) (F_burstTokens_a1 : Fld Z h0 a1 "com/example/refill/refill/core/store/BucketLimits" "burstTokens" "J" (.long w_burstTokens_a1)) (E_a1 : Exa Z h0 a1 "com/example/refill/refill/core/store/BucketLimits") (F_levelUnits_a0 : Fld Z h0 a0 "com/example/refill/refill/core/store/TokenBucket" "levelUnits" "J" (.long w_levelUnits_a0)) :
    ∃ T', Stand p l e ({ frames := 1, cells := 0, slots := 0, locals := 14 } : Room) s m args below meth c T' locs cells slots ∧ T'.heap = h0 ∧ ∀ fs, (∀ (f : JFrame) (acts : List Action), f.method = m → f.locked = none → f.entered = [] → (doReturn e (T'.setTop f) acts (some (.int (own_f5_0 j2 w_burstTokens_a1 w_levelUnits_a0)))).1 = T'.setFrames fs) → Steps p.tables e below (T0.setTop (mkF m 0 #[.val (.ref a0), .val (.ref a1), .val (.long j2), .second] [])) (T'.setFrames fs) := by
  obtain ⟨cq1, kq1, q1a, q1b, q1c⟩ := isOf hZ e0 E_a1
  obtain ⟨_, _, ⟨T1, L1, k1, n1⟩, -, X1, ⟨Lc1, hQ1, l1, y1, z1⟩, st1⟩ := X0.virtualBack hx (y := (⟨"com/example/refill/refill/core/store/BucketLimits", "burstTokens", "()J"⟩ : MethodName)) (z := (⟨"com/example/refill/refill/core/store/BucketLimits", "burstTokens", "()J"⟩ : MethodName)) hown (mvT hZ (hw _ (List.mem_of_getElem? (i := 39) rfl))) (mvT hZ (hw _ (List.mem_of_getElem? (i := 40) rfl))) (notFace_of_selects (args := #[]) (mvT hZ (hw _ (List.mem_of_getElem? (i := 42) rfl)))) (mvT hZ (hw _ (List.mem_of_getElem? (i := 42) rfl))) (mvT hZ (hw _ (List.mem_of_getElem? (i := 41) rfl))) (by decide) (backOf (W := 2) (rm6 l Z a0_ hw [] a1 w_burstTokens_a1 h0 0 (Nat.zero_le _) F_burstTokens_a1) hZ (hw _ (List.mem_of_getElem? (i := 43) rfl)) (hw _ (List.mem_of_getElem? (i := 5) rfl)) (by decide) (by decide)) q1a q1c (g := (mkF m 2 #[.val (.ref a0), .val (.ref a1), .val (.long j2), .second] [(.ref a1), (.long j2)])) rfl (by rw [hml]; rfl) (Steps.refl _) (argsL := []) (rest := [(.long j2)]) (lenOf pd_5_0 rfl) rfl (by show 2 * 0 + _ ≤ _; exact Nat.le_of_eq rfl) (hb hby d5_2) (fun _ _ => ⟨rfl, e0, hcl, hsl⟩)
  dsimp only [Pt.U, Pt.locs, Pt.cells, Pt.slots] at X1 l1 y1 z1 st1 hQ1
  subst l1 y1 z1
  obtain ⟨rfl, rfl, e1⟩ := hQ1
  rw [List.append_nil] at X1
  have pre2 : ∀ target, Steps p.tables e below (T1.setTop (mkF m 6 #[.val (.ref a0), .val (.ref a1), .val (.long j2), .second] [(.int (lcmpW j2 (own_f6_0 w_burstTokens_a1)))])) target → Steps p.tables e below (T0.setTop (mkF m 0 #[.val (.ref a0), .val (.ref a1), .val (.long j2), .second] [])) target := by
    intro target kt
    show Steps p.tables e below (T0.setTop (mkF m 0 #[.val (.ref a0), .val (.ref a1), .val (.long j2), .second] [])) _
    refine XS.lloadN X0.here hx rfl (hb hby d5_0) rfl ?_
    show Steps p.tables e below (T0.setTop (mkF m 1 #[.val (.ref a0), .val (.ref a1), .val (.long j2), .second] [(.long j2)])) _
    refine XS.aloadN X0.here hx rfl (hb hby d5_1) rfl rfl ?_
    show Steps p.tables e below (T0.setTop (mkF m 2 #[.val (.ref a0), .val (.ref a1), .val (.long j2), .second] [(.ref a1), (.long j2)])) _
    refine st1.trans ?_
    show Steps p.tables e below (T1.setTop (mkF m 5 #[.val (.ref a0), .val (.ref a1), .val (.long j2), .second] [(.long (own_f6_0 w_burstTokens_a1)), (.long j2)])) _
    refine XS.lcmp X1.here hx rfl (hb hby d5_5) rfl ?_
    exact kt
  by_cases hc6 : (own_f6_0 w_burstTokens_a1) < j2
  · refine ⟨T1, X1, e1, fun fs hr => ?_⟩
    have hv : (own_f5_0 j2 w_burstTokens_a1 w_levelUnits_a0) = (0 : Int32) := by unfold own_f5_0; rw [if_pos hc6]
    rw [hv] at hr
    refine pre2 _ ?_
    show Steps p.tables e below (T1.setTop (mkF m 6 #[.val (.ref a0), .val (.ref a1), .val (.long j2), .second] [(.int (lcmpW j2 (own_f6_0 w_burstTokens_a1)))])) _
    refine XS.ifYes X1.here hx rfl (pc0 := 6) (pc' := 26) rfl (hb hby d5_6) rfl ((if0 _ _).trans (tlt ((lw_gt _ _).mpr hc6)).2.2.1) (by decide) (by decide) ?_
    show Steps p.tables e below (T1.setTop (mkF m 26 #[.val (.ref a0), .val (.ref a1), .val (.long j2), .second] [])) _
    refine XS.iconst X1.here hx rfl (hb hby d5_26) ?_
    show Steps p.tables e below (T1.setTop (mkF m 27 #[.val (.ref a0), .val (.ref a1), .val (.long j2), .second] [(.int (0 : Int32))])) _
    exact retN X1 hx (t := .boolean) hret (by simp) (hb hby d5_27) hr
  · obtain ⟨T3, X3, e3, st3⟩ := getF X1 hx hZ hown (host := "") (Or.inl (hw _ (List.mem_of_getElem? (i := 30) rfl))) Via.refl e1 F_levelUnits_a0 (g := (mkF m 10 #[.val (.ref a0), .val (.ref a1), .val (.long j2), .second] [(.ref a0)])) rfl rfl (hb hby d5_10)
    have pre4 : ∀ target, Steps p.tables e below (T3.setTop (mkF m 19 #[.val (.ref a0), .val (.ref a1), .val (.long j2), .second] [(.int (lcmpW w_levelUnits_a0 (j2 * (60000000 : Int64))))])) target → Steps p.tables e below (T0.setTop (mkF m 0 #[.val (.ref a0), .val (.ref a1), .val (.long j2), .second] [])) target := by
      intro target kt
      refine pre2 target ?_
      show Steps p.tables e below (T1.setTop (mkF m 6 #[.val (.ref a0), .val (.ref a1), .val (.long j2), .second] [(.int (lcmpW j2 (own_f6_0 w_burstTokens_a1)))])) _
      refine XS.ifNo X1.here hx rfl (hb hby d5_6) rfl ((if0 _ _).trans (flt (mt (lw_gt _ _).mp hc6)).2.2.1) ?_
      show Steps p.tables e below (T1.setTop (mkF m 9 #[.val (.ref a0), .val (.ref a1), .val (.long j2), .second] [])) _
      refine XS.aloadN X1.here hx rfl (hb hby d5_9) rfl rfl ?_
      show Steps p.tables e below (T1.setTop (mkF m 10 #[.val (.ref a0), .val (.ref a1), .val (.long j2), .second] [(.ref a0)])) _
      refine st3 _ ?_
      show Steps p.tables e below (T3.setTop (mkF m 13 #[.val (.ref a0), .val (.ref a1), .val (.long j2), .second] [(.long w_levelUnits_a0)])) _
      refine XS.lloadN X3.here hx rfl (hb hby d5_13) rfl ?_
      show Steps p.tables e below (T3.setTop (mkF m 14 #[.val (.ref a0), .val (.ref a1), .val (.long j2), .second] [(.long j2), (.long w_levelUnits_a0)])) _
      refine X3.ldc2Long hx hown (mvT hZ (hw _ (List.mem_of_getElem? (i := 44) rfl))) (g := (mkF m 14 #[.val (.ref a0), .val (.ref a1), .val (.long j2), .second] [(.long j2), (.long w_levelUnits_a0)])) rfl (hb hby d5_14) _ ?_
      show Steps p.tables e below (T3.setTop (mkF m 17 #[.val (.ref a0), .val (.ref a1), .val (.long j2), .second] [(.long (60000000 : Int64)), (.long j2), (.long w_levelUnits_a0)])) _
      refine XS.lmul X3.here hx rfl (hb hby d5_17) rfl ?_
      show Steps p.tables e below (T3.setTop (mkF m 18 #[.val (.ref a0), .val (.ref a1), .val (.long j2), .second] [(.long (j2 * (60000000 : Int64))), (.long w_levelUnits_a0)])) _
      refine XS.lcmp X3.here hx rfl (hb hby d5_18) rfl ?_
      exact kt
    by_cases hc19 : w_levelUnits_a0 < (j2 * (60000000 : Int64))
    · refine ⟨T3, X3, e3, fun fs hr => ?_⟩
      have hv : (own_f5_0 j2 w_burstTokens_a1 w_levelUnits_a0) = (0 : Int32) := by unfold own_f5_0; rw [if_neg hc6, if_pos hc19]
      rw [hv] at hr
      refine pre4 _ ?_
      show Steps p.tables e below (T3.setTop (mkF m 19 #[.val (.ref a0), .val (.ref a1), .val (.long j2), .second] [(.int (lcmpW w_levelUnits_a0 (j2 * (60000000 : Int64))))])) _
      refine XS.ifYes X3.here hx rfl (pc0 := 19) (pc' := 26) rfl (hb hby d5_19) rfl ((if0 _ _).trans (tlt ((lw_lt _ _).mpr hc19)).1) (by decide) (by decide) ?_
      show Steps p.tables e below (T3.setTop (mkF m 26 #[.val (.ref a0), .val (.ref a1), .val (.long j2), .second] [])) _
      refine XS.iconst X3.here hx rfl (hb hby d5_26) ?_
      show Steps p.tables e below (T3.setTop (mkF m 27 #[.val (.ref a0), .val (.ref a1), .val (.long j2), .second] [(.int (0 : Int32))])) _
      exact retN X3 hx (t := .boolean) hret (by simp) (hb hby d5_27) hr
    · refine ⟨T3, X3, e3, fun fs hr => ?_⟩
      have hv : (own_f5_0 j2 w_burstTokens_a1 w_levelUnits_a0) = (1 : Int32) := by unfold own_f5_0; rw [if_neg hc6, if_neg hc19]
      rw [hv] at hr
      refine pre4 _ ?_
      show Steps p.tables e below (T3.setTop (mkF m 19 #[.val (.ref a0), .val (.ref a1), .val (.long j2), .second] [(.int (lcmpW w_levelUnits_a0 (j2 * (60000000 : Int64))))])) _
      refine XS.ifNo X3.here hx rfl (hb hby d5_19) rfl ((if0 _ _).trans (flt (mt (lw_lt _ _).mp hc19)).1) ?_
      show Steps p.tables e below (T3.setTop (mkF m 22 #[.val (.ref a0), .val (.ref a1), .val (.long j2), .second] [])) _
      refine XS.iconst X3.here hx rfl (hb hby d5_22) ?_
      show Steps p.tables e below (T3.setTop (mkF m 23 #[.val (.ref a0), .val (.ref a1), .val (.long j2), .second] [(.int (1 : Int32))])) _
      refine XS.goto X3.here hx rfl (pc0 := 23) (pc' := 27) rfl (hb hby d5_23) (by decide) (by decide) ?_
      show Steps p.tables e below (T3.setTop (mkF m 27 #[.val (.ref a0), .val (.ref a1), .val (.long j2), .second] [(.int (1 : Int32))])) _
      exact retN X3 hx (t := .boolean) hret (by simp) (hb hby d5_27) hr
def Q5 (Z : State) (a0 : Addr) (a1 : Addr) (j2 : Int64) (w_burstTokens_a1 : Int64) (w_levelUnits_a0 : Int64) (h0 : Heap) (n0 : Nat) (v : Option Value) (h : Heap) (L : List Loc) : Prop := v = some (.int (own_f5_0 j2 w_burstTokens_a1 w_levelUnits_a0)) ∧ L = [] ∧ h = h0
set_option maxRecDepth 65536 in
set_option maxHeartbeats 40000000 in
theorem rm5 (l : Launch) (Z : State) (a0_ : Array Value) (hw : ∀ d ∈ tables_1, d.before a0_ Z = true) (ws : List Jvm.Cond) (a0 : Addr) (a1 : Addr) (j2 : Int64) (w_burstTokens_a1 : Int64) (w_levelUnits_a0 : Int64) (h0 : Heap) (n0 : Nat) (Z0 : n0 ≤ h0.size) (F_burstTokens_a1 : Fld Z h0 a1 "com/example/refill/refill/core/store/BucketLimits" "burstTokens" "J" (.long w_burstTokens_a1)) (E_a1 : Exa Z h0 a1 "com/example/refill/refill/core/store/BucketLimits") (F_levelUnits_a0 : Fld Z h0 a0 "com/example/refill/refill/core/store/TokenBucket" "levelUnits" "J" (.long w_levelUnits_a0)) :
    MetFree l (⟨"com/example/refill/refill/core/store/TokenBucket", "holds", "(Lcom/example/refill/refill/core/store/BucketLimits;J)Z"⟩ : MethodName) (head1 (Jvm.Cond.code (⟨"com/example/refill/refill/core/store/TokenBucket", "holds", "(Lcom/example/refill/refill/core/store/BucketLimits;J)Z"⟩ : MethodName) prog_75_method_5_code 4 (some .boolean) :: ws) ({ frames := 1, cells := 0, slots := 0, locals := 14 } : Room)) (fun a U => a = #[(.ref a0), (.ref a1), (.long j2)] ∧ Z.Warmed39 U.vm ∧ U.heap = h0) (fun _ _ _ _ _ => True) (fun _ U o U' => ∃ v L, o = .returned v ∧ Q5 Z a0 a1 j2 w_burstTokens_a1 w_levelUnits_a0 h0 n0 v U'.heap L ∧ FrameEnd U o U' L ({ frames := 1, cells := 0, slots := 0, locals := 14 } : Room).cells ({ frames := 1, cells := 0, slots := 0, locals := 14 } : Room).slots) := by
  refine MetFree.of_bodySF (plainFor_of_name pn_5) hisR ?_
  intro p e s m args below meth c s₁ Bd hml0 hP hK
  obtain ⟨rfl, hZ, hh⟩ := hP
  have hx := Bd.exec
  have hby := Bd.bytes
  have hml : c.maxLocals = 4 := hml0
  have hown : s.vm.findClass "com/example/refill/refill/core/store/TokenBucket" = some m.cls := findClass_of_methodNamed Bd.named
  have X0 : Stand p l e ({ frames := 1, cells := 0, slots := 0, locals := 14 } : Room) s m #[(.ref a0), (.ref a1), (.long j2)] below meth c s₁ [] 0 0 := Stand.of_body Bd
  have e0 : s₁.heap = h0 := by rw [← hh, Bd.state]; rfl
  obtain ⟨T', X', e', st'⟩ := own_b5_0 hx hZ hw hby hml hown Bd.returns  a0 a1 j2 w_burstTokens_a1 w_levelUnits_a0 X0 e0 (by decide) (by decide) F_burstTokens_a1 E_a1 F_levelUnits_a0
  obtain ⟨fs, hr, hrun, hended, hW, hsame⟩ := X'.leave (v := some (.int (own_f5_0 j2 w_burstTokens_a1 w_levelUnits_a0))) (fun h => by rw [Bd.returns] at h; cases h)
  refine ⟨_, _, castTop (ef_5 m a0 a1 j2) (st' fs hr), hrun, hended, _, _, rfl, ?_, ⟨_, rfl⟩, hW, hsame.mono (by decide) (by decide)⟩
  exact ⟨rfl, rfl, e'⟩
theorem pn_0 : plainName "com/example/refill/refill/core/store/TokenBucketHoldsPinLaw" = true := by first | (simp [plainName, overriddenIn]; done) | decide +kernel
theorem pd_0_0 : parseMethodDescriptor "(JJZ)V" = some ⟨[.long, .long, .boolean], none⟩ := by decide +kernel
theorem pd_0_1 : parseMethodDescriptor "(JJ)V" = some ⟨[.long, .long], none⟩ := by decide +kernel
theorem pd_0_2 : parseMethodDescriptor "(Lcom/example/refill/refill/core/store/BucketLimits;J)Z" = some ⟨[(.object "com/example/refill/refill/core/store/BucketLimits"), .long], some .boolean⟩ := by decide +kernel
theorem ef_0 (m : MethodId) (j0 : Int64) (j2 : Int64) (j4 : Int64) (j6 : Int64) (j8 : Int64) (i10 : Int32) : entryFrame m #[(.long j0), (.long j2), (.long j4), (.long j6), (.long j8), (.int i10)] maxLocals = mkF m 0 #[.val (.long j0), .second, .val (.long j2), .second, .val (.long j4), .second, .val (.long j6), .second, .val (.long j8), .second, .val (.int i10), .unset, .unset, .unset, .unset, .unset, .unset, .unset, .unset, .unset, .unset, .unset, .unset, .unset, .unset] [] := by first | (simp [entryFrame, mkF, argsToLocals, Value.category, maxLocals]; done) | rfl
def own_f0_190 (j0 : Int64) (j2 : Int64) (j4 : Int64) (j6 : Int64) (j8 : Int64) (i10 : Int32) (j11 : Int64) (j13 : Int64) (j15 : Int64) (j17 : Int64) (i21 : Int32) (j22 : Int64) (u0 : Int32) (w_burstTokens_a19 : Int64) (w_tokensPerMinute_a19 : Int64) (w_heldAcrossLoss_a19 : Int32) (w_levelUnits_a20 : Int64) (w_updatedMicros_a20 : Int64) : Int32 :=
  (if i21 = u0 then (1 : Int32) else (0 : Int32))
def own_f0_189 (j0 : Int64) (j2 : Int64) (j4 : Int64) (j6 : Int64) (j8 : Int64) (i10 : Int32) (j11 : Int64) (j13 : Int64) (j15 : Int64) (j17 : Int64) (i21 : Int32) (j22 : Int64) (w_burstTokens_a19 : Int64) (w_tokensPerMinute_a19 : Int64) (w_heldAcrossLoss_a19 : Int32) (w_levelUnits_a20 : Int64) (w_updatedMicros_a20 : Int64) : Int32 :=
  (own_f0_190 j0 j2 j4 j6 j8 i10 j11 j13 j15 j17 i21 j22 (0 : Int32) w_burstTokens_a19 w_tokensPerMinute_a19 w_heldAcrossLoss_a19 w_levelUnits_a20 w_updatedMicros_a20)
def own_f0_169 (j0 : Int64) (j2 : Int64) (j4 : Int64) (j6 : Int64) (j8 : Int64) (i10 : Int32) (j11 : Int64) (j13 : Int64) (j15 : Int64) (j17 : Int64) (i21 : Int32) (j22 : Int64) (w_burstTokens_a19 : Int64) (w_tokensPerMinute_a19 : Int64) (w_heldAcrossLoss_a19 : Int32) (w_levelUnits_a20 : Int64) (w_updatedMicros_a20 : Int64) : Int32 :=
  (if j11 < j17 then (own_f0_189 j0 j2 j4 j6 j8 i10 j11 j13 j15 j17 i21 j22 w_burstTokens_a19 w_tokensPerMinute_a19 w_heldAcrossLoss_a19 w_levelUnits_a20 w_updatedMicros_a20) else (if j22 < j17 then (own_f0_189 j0 j2 j4 j6 j8 i10 j11 j13 j15 j17 i21 j22 w_burstTokens_a19 w_tokensPerMinute_a19 w_heldAcrossLoss_a19 w_levelUnits_a20 w_updatedMicros_a20) else (own_f0_190 j0 j2 j4 j6 j8 i10 j11 j13 j15 j17 i21 j22 (1 : Int32) w_burstTokens_a19 w_tokensPerMinute_a19 w_heldAcrossLoss_a19 w_levelUnits_a20 w_updatedMicros_a20)))
def own_f0_108 (j0 : Int64) (j2 : Int64) (j4 : Int64) (j6 : Int64) (j8 : Int64) (i10 : Int32) (j11 : Int64) (j13 : Int64) (j15 : Int64) (j17 : Int64) (u0 : Int32) (v1 : Int64) (v2 : Int64) (w_burstTokens_b3 : Int64) (w_tokensPerMinute_b3 : Int64) (w_heldAcrossLoss_b3 : Int32) : Int32 :=
  (if j15 < (0 : Int64) then (if ((j15 / (60000000 : Int64)) * (60000000 : Int64)) = j15 then (own_f0_169 j0 j2 j4 j6 j8 i10 j11 j13 j15 j17 (own_f5_0 j17 (own_o1_burstTokens v2 v1 u0 w_burstTokens_b3 w_tokensPerMinute_b3 w_heldAcrossLoss_b3) (own_o4_levelUnits j15 j2 (0 : Int64) (0 : Int64))) (j15 / (60000000 : Int64)) (own_o1_burstTokens v2 v1 u0 w_burstTokens_b3 w_tokensPerMinute_b3 w_heldAcrossLoss_b3) (own_o1_tokensPerMinute v2 v1 u0 w_burstTokens_b3 w_tokensPerMinute_b3 w_heldAcrossLoss_b3) (own_o1_heldAcrossLoss v2 v1 u0 w_burstTokens_b3 w_tokensPerMinute_b3 w_heldAcrossLoss_b3) (own_o4_levelUnits j15 j2 (0 : Int64) (0 : Int64)) (own_o4_updatedMicros j15 j2 (0 : Int64) (0 : Int64))) else (own_f0_169 j0 j2 j4 j6 j8 i10 j11 j13 j15 j17 (own_f5_0 j17 (own_o1_burstTokens v2 v1 u0 w_burstTokens_b3 w_tokensPerMinute_b3 w_heldAcrossLoss_b3) (own_o4_levelUnits j15 j2 (0 : Int64) (0 : Int64))) ((j15 / (60000000 : Int64)) - (1 : Int64)) (own_o1_burstTokens v2 v1 u0 w_burstTokens_b3 w_tokensPerMinute_b3 w_heldAcrossLoss_b3) (own_o1_tokensPerMinute v2 v1 u0 w_burstTokens_b3 w_tokensPerMinute_b3 w_heldAcrossLoss_b3) (own_o1_heldAcrossLoss v2 v1 u0 w_burstTokens_b3 w_tokensPerMinute_b3 w_heldAcrossLoss_b3) (own_o4_levelUnits j15 j2 (0 : Int64) (0 : Int64)) (own_o4_updatedMicros j15 j2 (0 : Int64) (0 : Int64)))) else (own_f0_169 j0 j2 j4 j6 j8 i10 j11 j13 j15 j17 (own_f5_0 j17 (own_o1_burstTokens v2 v1 u0 w_burstTokens_b3 w_tokensPerMinute_b3 w_heldAcrossLoss_b3) (own_o4_levelUnits j15 j2 (0 : Int64) (0 : Int64))) (j15 / (60000000 : Int64)) (own_o1_burstTokens v2 v1 u0 w_burstTokens_b3 w_tokensPerMinute_b3 w_heldAcrossLoss_b3) (own_o1_tokensPerMinute v2 v1 u0 w_burstTokens_b3 w_tokensPerMinute_b3 w_heldAcrossLoss_b3) (own_o1_heldAcrossLoss v2 v1 u0 w_burstTokens_b3 w_tokensPerMinute_b3 w_heldAcrossLoss_b3) (own_o4_levelUnits j15 j2 (0 : Int64) (0 : Int64)) (own_o4_updatedMicros j15 j2 (0 : Int64) (0 : Int64))))
def own_f0_88 (j0 : Int64) (j2 : Int64) (j4 : Int64) (j6 : Int64) (j8 : Int64) (i10 : Int32) (j11 : Int64) (j13 : Int64) (j15 : Int64) (j17 : Int64) : Int32 :=
  (if (i10 &&& (1 : Int32)) = (0 : Int32) then (own_f0_108 j0 j2 j4 j6 j8 i10 j11 j13 j15 j17 (0 : Int32) j8 j11 (0 : Int64) (0 : Int64) (0 : Int32)) else (own_f0_108 j0 j2 j4 j6 j8 i10 j11 j13 j15 j17 (1 : Int32) j8 j11 (0 : Int64) (0 : Int64) (0 : Int32)))
def own_f0_46 (j0 : Int64) (j2 : Int64) (j4 : Int64) (j6 : Int64) (j8 : Int64) (i10 : Int32) (j11 : Int64) (j13 : Int64) (j15 : Int64) (v0 : Int64) : Int32 :=
  (if (i10 &&& (2 : Int32)) = (0 : Int32) then (own_f0_88 j0 j2 j4 j6 j8 i10 j11 j13 j15 v0) else (if j11 < v0 then (own_f0_88 j0 j2 j4 j6 j8 i10 j11 j13 j15 v0) else (if (-j11) < v0 then (own_f0_88 j0 j2 j4 j6 j8 i10 j11 j13 ((v0 * (60000000 : Int64)) - ((((i10.toUInt32 >>> ((2 : Int32) &&& 31).toUInt32).toInt32) &&& (1 : Int32)).toInt64)) v0) else (own_f0_88 j0 j2 j4 j6 j8 i10 j11 j13 j15 v0))))
def own_f0_0 (j0 : Int64) (j2 : Int64) (j4 : Int64) (j6 : Int64) (j8 : Int64) (i10 : Int32) : Int32 :=
  (if j4 < (0 : Int64) then (own_f0_46 j0 j2 j4 j6 j8 i10 ((j6 &&& (9223372036854775807 : Int64)) - ((j6 &&& (9223372036854775807 : Int64)) / (10000000001 : Int64)) * (10000000001 : Int64)) (((j6 &&& (9223372036854775807 : Int64)) - ((j6 &&& (9223372036854775807 : Int64)) / (10000000001 : Int64)) * (10000000001 : Int64)) * (60000000 : Int64)) (j0 - (j0 / ((((j6 &&& (9223372036854775807 : Int64)) - ((j6 &&& (9223372036854775807 : Int64)) / (10000000001 : Int64)) * (10000000001 : Int64)) * (60000000 : Int64)) + (1 : Int64))) * ((((j6 &&& (9223372036854775807 : Int64)) - ((j6 &&& (9223372036854775807 : Int64)) / (10000000001 : Int64)) * (10000000001 : Int64)) * (60000000 : Int64)) + (1 : Int64))) (j4 - (j4 / (10000000001 : Int64)) * (10000000001 : Int64))) else (own_f0_46 j0 j2 j4 j6 j8 i10 ((j6 &&& (9223372036854775807 : Int64)) - ((j6 &&& (9223372036854775807 : Int64)) / (10000000001 : Int64)) * (10000000001 : Int64)) (((j6 &&& (9223372036854775807 : Int64)) - ((j6 &&& (9223372036854775807 : Int64)) / (10000000001 : Int64)) * (10000000001 : Int64)) * (60000000 : Int64)) (j0 - (j0 / ((((j6 &&& (9223372036854775807 : Int64)) - ((j6 &&& (9223372036854775807 : Int64)) / (10000000001 : Int64)) * (10000000001 : Int64)) * (60000000 : Int64)) + (1 : Int64))) * ((((j6 &&& (9223372036854775807 : Int64)) - ((j6 &&& (9223372036854775807 : Int64)) / (10000000001 : Int64)) * (10000000001 : Int64)) * (60000000 : Int64)) + (1 : Int64))) j4))
set_option maxRecDepth 65536 in
set_option maxHeartbeats 40000000 in
theorem own_b0_190 {p : Program} {l : Launch} {e : Env} {s : State} {m : MethodId} {args : Array Value} {below : List Frame} {meth : Method} {c : Code} {Z : State} {a0_ : Array Value} {n0 : Nat} (hx : p.tables.exec = Jvm.exec) (hZ : Z.Warmed39 s.vm) (hw : ∀ d ∈ tables_1, d.before a0_ Z = true) (hby : c.code = code) (hml : c.maxLocals = 25) (hown : s.vm.findClass "com/example/refill/refill/core/store/TokenBucketHoldsPinLaw" = some m.cls) (hret : meth.sig.returnType = some .boolean) {T0 : State} {locs : List Loc} {h0 : Heap} (j0 : Int64) (j2 : Int64) (j4 : Int64) (j6 : Int64) (j8 : Int64) (i10 : Int32) (j11 : Int64) (j13 : Int64) (j15 : Int64) (j17 : Int64) (a19 : Addr) (a20 : Addr) (i21 : Int32) (j22 : Int64) (u0 : Int32) (w_burstTokens_a19 : Int64) (w_tokensPerMinute_a19 : Int64) (w_heldAcrossLoss_a19 : Int32) (w_levelUnits_a20 : Int64) (w_updatedMicros_a20 : Int64)
    (X0 : Stand p l e room_1 s m args below meth c T0 locs 2 5) (e0 : T0.heap = h0) (N0 : Fr n0 locs) (Z0 : n0 ≤ h0.size) (g_a19 : n0 ≤ a19) (E_a19 : Exa Z h0 a19 "com/example/refill/refill/core/store/BucketLimits") (F_burstTokens_a19 : Fld Z h0 a19 "com/example/refill/refill/core/store/BucketLimits" "burstTokens" "J" (.long w_burstTokens_a19)) (F_tokensPerMinute_a19 : Fld Z h0 a19 "com/example/refill/refill/core/store/BucketLimits" "tokensPerMinute" "J" (.long w_tokensPerMinute_a19)) (F_heldAcrossLoss_a19 : Fld Z h0 a19 "com/example/refill/refill/core/store/BucketLimits" "heldAcrossLoss" "Z" (.int w_heldAcrossLoss_a19)) (ne_a19_a20 : a19 ≠ a20) (g_a20 : n0 ≤ a20) (E_a20 : Exa Z h0 a20 "com/example/refill/refill/core/store/TokenBucket") (F_levelUnits_a20 : Fld Z h0 a20 "com/example/refill/refill/core/store/TokenBucket" "levelUnits" "J" (.long w_levelUnits_a20)) (F_updatedMicros_a20 : Fld Z h0 a20 "com/example/refill/refill/core/store/TokenBucket" "updatedMicros" "J" (.long w_updatedMicros_a20)) :
    ∃ T' locs' cells' slots', Stand p l e room_1 s m args below meth c T' locs' cells' slots' ∧ Fr n0 locs' ∧ cells' ≤ room_1.cells ∧ slots' ≤ room_1.slots ∧ ∀ fs, (∀ (f : JFrame) (acts : List Action), f.method = m → f.locked = none → f.entered = [] → (doReturn e (T'.setTop f) acts (some (.int (own_f0_190 j0 j2 j4 j6 j8 i10 j11 j13 j15 j17 i21 j22 u0 w_burstTokens_a19 w_tokensPerMinute_a19 w_heldAcrossLoss_a19 w_levelUnits_a20 w_updatedMicros_a20)))).1 = T'.setFrames fs) → Steps p.tables e below (T0.setTop (mkF m 190 #[.val (.long j0), .second, .val (.long j2), .second, .val (.long j4), .second, .val (.long j6), .second, .val (.long j8), .second, .val (.int i10), .val (.long j11), .second, .val (.long j13), .second, .val (.long j15), .second, .val (.long j17), .second, .val (.ref a19), .val (.ref a20), .val (.int i21), .val (.long j22), .second, .unset] [(.int u0)])) (T'.setFrames fs) := by
  have pre1 : ∀ target, Steps p.tables e below (T0.setTop (mkF m 196 #[.val (.long j0), .second, .val (.long j2), .second, .val (.long j4), .second, .val (.long j6), .second, .val (.long j8), .second, .val (.int i10), .val (.long j11), .second, .val (.long j13), .second, .val (.long j15), .second, .val (.long j17), .second, .val (.ref a19), .val (.ref a20), .val (.int i21), .val (.long j22), .second, .val (.int u0)] [(.int u0), (.int i21)])) target → Steps p.tables e below (T0.setTop (mkF m 190 #[.val (.long j0), .second, .val (.long j2), .second, .val (.long j4), .second, .val (.long j6), .second, .val (.long j8), .second, .val (.int i10), .val (.long j11), .second, .val (.long j13), .second, .val (.long j15), .second, .val (.long j17), .second, .val (.ref a19), .val (.ref a20), .val (.int i21), .val (.long j22), .second, .unset] [(.int u0)])) target := by
    intro target kt
    show Steps p.tables e below (T0.setTop (mkF m 190 #[.val (.long j0), .second, .val (.long j2), .second, .val (.long j4), .second, .val (.long j6), .second, .val (.long j8), .second, .val (.int i10), .val (.long j11), .second, .val (.long j13), .second, .val (.long j15), .second, .val (.long j17), .second, .val (.ref a19), .val (.ref a20), .val (.int i21), .val (.long j22), .second, .unset] [(.int u0)])) _
    refine XS.istore X0.here hx rfl (hb hby at_190) rfl (l' := #[.val (.long j0), .second, .val (.long j2), .second, .val (.long j4), .second, .val (.long j6), .second, .val (.long j8), .second, .val (.int i10), .val (.long j11), .second, .val (.long j13), .second, .val (.long j15), .second, .val (.long j17), .second, .val (.ref a19), .val (.ref a20), .val (.int i21), .val (.long j22), .second, .val (.int u0)]) rfl ?_
    show Steps p.tables e below (T0.setTop (mkF m 192 #[.val (.long j0), .second, .val (.long j2), .second, .val (.long j4), .second, .val (.long j6), .second, .val (.long j8), .second, .val (.int i10), .val (.long j11), .second, .val (.long j13), .second, .val (.long j15), .second, .val (.long j17), .second, .val (.ref a19), .val (.ref a20), .val (.int i21), .val (.long j22), .second, .val (.int u0)] [])) _
    refine XS.iload X0.here hx rfl (hb hby at_192) rfl ?_
    show Steps p.tables e below (T0.setTop (mkF m 194 #[.val (.long j0), .second, .val (.long j2), .second, .val (.long j4), .second, .val (.long j6), .second, .val (.long j8), .second, .val (.int i10), .val (.long j11), .second, .val (.long j13), .second, .val (.long j15), .second, .val (.long j17), .second, .val (.ref a19), .val (.ref a20), .val (.int i21), .val (.long j22), .second, .val (.int u0)] [(.int i21)])) _
    refine XS.iload X0.here hx rfl (hb hby at_194) rfl ?_
    exact kt
  by_cases hc196 : i21 = u0
  · refine ⟨T0, _, _, _, X0, N0, (by decide), (by decide), fun fs hr => ?_⟩
    have hv : (own_f0_190 j0 j2 j4 j6 j8 i10 j11 j13 j15 j17 i21 j22 u0 w_burstTokens_a19 w_tokensPerMinute_a19 w_heldAcrossLoss_a19 w_levelUnits_a20 w_updatedMicros_a20) = (1 : Int32) := by unfold own_f0_190; rw [if_pos hc196]
    rw [hv] at hr
    refine pre1 _ ?_
    show Steps p.tables e below (T0.setTop (mkF m 196 #[.val (.long j0), .second, .val (.long j2), .second, .val (.long j4), .second, .val (.long j6), .second, .val (.long j8), .second, .val (.int i10), .val (.long j11), .second, .val (.long j13), .second, .val (.long j15), .second, .val (.long j17), .second, .val (.ref a19), .val (.ref a20), .val (.int i21), .val (.long j22), .second, .val (.int u0)] [(.int u0), (.int i21)])) _
    refine XS.icmpNo X0.here hx rfl (hb hby at_196) rfl (teq hc196).2 ?_
    show Steps p.tables e below (T0.setTop (mkF m 199 #[.val (.long j0), .second, .val (.long j2), .second, .val (.long j4), .second, .val (.long j6), .second, .val (.long j8), .second, .val (.int i10), .val (.long j11), .second, .val (.long j13), .second, .val (.long j15), .second, .val (.long j17), .second, .val (.ref a19), .val (.ref a20), .val (.int i21), .val (.long j22), .second, .val (.int u0)] [])) _
    refine XS.iconst X0.here hx rfl (hb hby at_199) ?_
    show Steps p.tables e below (T0.setTop (mkF m 200 #[.val (.long j0), .second, .val (.long j2), .second, .val (.long j4), .second, .val (.long j6), .second, .val (.long j8), .second, .val (.int i10), .val (.long j11), .second, .val (.long j13), .second, .val (.long j15), .second, .val (.long j17), .second, .val (.ref a19), .val (.ref a20), .val (.int i21), .val (.long j22), .second, .val (.int u0)] [(.int (1 : Int32))])) _
    refine XS.goto X0.here hx rfl (pc0 := 200) (pc' := 204) rfl (hb hby at_200) (by decide) (by decide) ?_
    show Steps p.tables e below (T0.setTop (mkF m 204 #[.val (.long j0), .second, .val (.long j2), .second, .val (.long j4), .second, .val (.long j6), .second, .val (.long j8), .second, .val (.int i10), .val (.long j11), .second, .val (.long j13), .second, .val (.long j15), .second, .val (.long j17), .second, .val (.ref a19), .val (.ref a20), .val (.int i21), .val (.long j22), .second, .val (.int u0)] [(.int (1 : Int32))])) _
    exact retN X0 hx (t := .boolean) hret (by simp) (hb hby at_204) hr
  · refine ⟨T0, _, _, _, X0, N0, (by decide), (by decide), fun fs hr => ?_⟩
    have hv : (own_f0_190 j0 j2 j4 j6 j8 i10 j11 j13 j15 j17 i21 j22 u0 w_burstTokens_a19 w_tokensPerMinute_a19 w_heldAcrossLoss_a19 w_levelUnits_a20 w_updatedMicros_a20) = (0 : Int32) := by unfold own_f0_190; rw [if_neg hc196]
    rw [hv] at hr
    refine pre1 _ ?_
    show Steps p.tables e below (T0.setTop (mkF m 196 #[.val (.long j0), .second, .val (.long j2), .second, .val (.long j4), .second, .val (.long j6), .second, .val (.long j8), .second, .val (.int i10), .val (.long j11), .second, .val (.long j13), .second, .val (.long j15), .second, .val (.long j17), .second, .val (.ref a19), .val (.ref a20), .val (.int i21), .val (.long j22), .second, .val (.int u0)] [(.int u0), (.int i21)])) _
    refine XS.icmpYes X0.here hx rfl (pc0 := 196) (pc' := 203) rfl (hb hby at_196) rfl (feq hc196).2 (by decide) (by decide) ?_
    show Steps p.tables e below (T0.setTop (mkF m 203 #[.val (.long j0), .second, .val (.long j2), .second, .val (.long j4), .second, .val (.long j6), .second, .val (.long j8), .second, .val (.int i10), .val (.long j11), .second, .val (.long j13), .second, .val (.long j15), .second, .val (.long j17), .second, .val (.ref a19), .val (.ref a20), .val (.int i21), .val (.long j22), .second, .val (.int u0)] [])) _
    refine XS.iconst X0.here hx rfl (hb hby at_203) ?_
    show Steps p.tables e below (T0.setTop (mkF m 204 #[.val (.long j0), .second, .val (.long j2), .second, .val (.long j4), .second, .val (.long j6), .second, .val (.long j8), .second, .val (.int i10), .val (.long j11), .second, .val (.long j13), .second, .val (.long j15), .second, .val (.long j17), .second, .val (.ref a19), .val (.ref a20), .val (.int i21), .val (.long j22), .second, .val (.int u0)] [(.int (0 : Int32))])) _
    exact retN X0 hx (t := .boolean) hret (by simp) (hb hby at_204) hr
set_option maxRecDepth 65536 in
set_option maxHeartbeats 40000000 in
theorem own_b0_189 {p : Program} {l : Launch} {e : Env} {s : State} {m : MethodId} {args : Array Value} {below : List Frame} {meth : Method} {c : Code} {Z : State} {a0_ : Array Value} {n0 : Nat} (hx : p.tables.exec = Jvm.exec) (hZ : Z.Warmed39 s.vm) (hw : ∀ d ∈ tables_1, d.before a0_ Z = true) (hby : c.code = code) (hml : c.maxLocals = 25) (hown : s.vm.findClass "com/example/refill/refill/core/store/TokenBucketHoldsPinLaw" = some m.cls) (hret : meth.sig.returnType = some .boolean) {T0 : State} {locs : List Loc} {h0 : Heap} (j0 : Int64) (j2 : Int64) (j4 : Int64) (j6 : Int64) (j8 : Int64) (i10 : Int32) (j11 : Int64) (j13 : Int64) (j15 : Int64) (j17 : Int64) (a19 : Addr) (a20 : Addr) (i21 : Int32) (j22 : Int64) (w_burstTokens_a19 : Int64) (w_tokensPerMinute_a19 : Int64) (w_heldAcrossLoss_a19 : Int32) (w_levelUnits_a20 : Int64) (w_updatedMicros_a20 : Int64)
    (X0 : Stand p l e room_1 s m args below meth c T0 locs 2 5) (e0 : T0.heap = h0) (N0 : Fr n0 locs) (Z0 : n0 ≤ h0.size) (g_a19 : n0 ≤ a19) (E_a19 : Exa Z h0 a19 "com/example/refill/refill/core/store/BucketLimits") (F_burstTokens_a19 : Fld Z h0 a19 "com/example/refill/refill/core/store/BucketLimits" "burstTokens" "J" (.long w_burstTokens_a19)) (F_tokensPerMinute_a19 : Fld Z h0 a19 "com/example/refill/refill/core/store/BucketLimits" "tokensPerMinute" "J" (.long w_tokensPerMinute_a19)) (F_heldAcrossLoss_a19 : Fld Z h0 a19 "com/example/refill/refill/core/store/BucketLimits" "heldAcrossLoss" "Z" (.int w_heldAcrossLoss_a19)) (ne_a19_a20 : a19 ≠ a20) (g_a20 : n0 ≤ a20) (E_a20 : Exa Z h0 a20 "com/example/refill/refill/core/store/TokenBucket") (F_levelUnits_a20 : Fld Z h0 a20 "com/example/refill/refill/core/store/TokenBucket" "levelUnits" "J" (.long w_levelUnits_a20)) (F_updatedMicros_a20 : Fld Z h0 a20 "com/example/refill/refill/core/store/TokenBucket" "updatedMicros" "J" (.long w_updatedMicros_a20)) :
    ∃ T' locs' cells' slots', Stand p l e room_1 s m args below meth c T' locs' cells' slots' ∧ Fr n0 locs' ∧ cells' ≤ room_1.cells ∧ slots' ≤ room_1.slots ∧ ∀ fs, (∀ (f : JFrame) (acts : List Action), f.method = m → f.locked = none → f.entered = [] → (doReturn e (T'.setTop f) acts (some (.int (own_f0_189 j0 j2 j4 j6 j8 i10 j11 j13 j15 j17 i21 j22 w_burstTokens_a19 w_tokensPerMinute_a19 w_heldAcrossLoss_a19 w_levelUnits_a20 w_updatedMicros_a20)))).1 = T'.setFrames fs) → Steps p.tables e below (T0.setTop (mkF m 189 #[.val (.long j0), .second, .val (.long j2), .second, .val (.long j4), .second, .val (.long j6), .second, .val (.long j8), .second, .val (.int i10), .val (.long j11), .second, .val (.long j13), .second, .val (.long j15), .second, .val (.long j17), .second, .val (.ref a19), .val (.ref a20), .val (.int i21), .val (.long j22), .second, .unset] [])) (T'.setFrames fs) := by
  have pre1 : ∀ target, Steps p.tables e below (T0.setTop (mkF m 190 #[.val (.long j0), .second, .val (.long j2), .second, .val (.long j4), .second, .val (.long j6), .second, .val (.long j8), .second, .val (.int i10), .val (.long j11), .second, .val (.long j13), .second, .val (.long j15), .second, .val (.long j17), .second, .val (.ref a19), .val (.ref a20), .val (.int i21), .val (.long j22), .second, .unset] [(.int (0 : Int32))])) target → Steps p.tables e below (T0.setTop (mkF m 189 #[.val (.long j0), .second, .val (.long j2), .second, .val (.long j4), .second, .val (.long j6), .second, .val (.long j8), .second, .val (.int i10), .val (.long j11), .second, .val (.long j13), .second, .val (.long j15), .second, .val (.long j17), .second, .val (.ref a19), .val (.ref a20), .val (.int i21), .val (.long j22), .second, .unset] [])) target := by
    intro target kt
    show Steps p.tables e below (T0.setTop (mkF m 189 #[.val (.long j0), .second, .val (.long j2), .second, .val (.long j4), .second, .val (.long j6), .second, .val (.long j8), .second, .val (.int i10), .val (.long j11), .second, .val (.long j13), .second, .val (.long j15), .second, .val (.long j17), .second, .val (.ref a19), .val (.ref a20), .val (.int i21), .val (.long j22), .second, .unset] [])) _
    refine XS.iconst X0.here hx rfl (hb hby at_189) ?_
    exact kt
  obtain ⟨T2, L2, k2, n2, X2, N2, hk2', hn2, st2⟩ := own_b0_190 hx hZ hw hby hml hown hret j0 j2 j4 j6 j8 i10 j11 j13 j15 j17 a19 a20 i21 j22 (0 : Int32) w_burstTokens_a19 w_tokensPerMinute_a19 w_heldAcrossLoss_a19 w_levelUnits_a20 w_updatedMicros_a20 X0 e0 N0 Z0 g_a19 E_a19 F_burstTokens_a19 F_tokensPerMinute_a19 F_heldAcrossLoss_a19 ne_a19_a20 g_a20 E_a20 F_levelUnits_a20 F_updatedMicros_a20 
  have hv : (own_f0_189 j0 j2 j4 j6 j8 i10 j11 j13 j15 j17 i21 j22 w_burstTokens_a19 w_tokensPerMinute_a19 w_heldAcrossLoss_a19 w_levelUnits_a20 w_updatedMicros_a20) = (own_f0_190 j0 j2 j4 j6 j8 i10 j11 j13 j15 j17 i21 j22 (0 : Int32) w_burstTokens_a19 w_tokensPerMinute_a19 w_heldAcrossLoss_a19 w_levelUnits_a20 w_updatedMicros_a20) := by unfold own_f0_189; rfl
  exact ⟨T2, L2, k2, n2, X2, N2, hk2', hn2, fun fs hr => pre1 _ (st2 fs (by rw [hv] at hr; exact hr))⟩
set_option maxRecDepth 65536 in
set_option maxHeartbeats 40000000 in
theorem own_b0_169 {p : Program} {l : Launch} {e : Env} {s : State} {m : MethodId} {args : Array Value} {below : List Frame} {meth : Method} {c : Code} {Z : State} {a0_ : Array Value} {n0 : Nat} (hx : p.tables.exec = Jvm.exec) (hZ : Z.Warmed39 s.vm) (hw : ∀ d ∈ tables_1, d.before a0_ Z = true) (hby : c.code = code) (hml : c.maxLocals = 25) (hown : s.vm.findClass "com/example/refill/refill/core/store/TokenBucketHoldsPinLaw" = some m.cls) (hret : meth.sig.returnType = some .boolean) {T0 : State} {locs : List Loc} {h0 : Heap} (j0 : Int64) (j2 : Int64) (j4 : Int64) (j6 : Int64) (j8 : Int64) (i10 : Int32) (j11 : Int64) (j13 : Int64) (j15 : Int64) (j17 : Int64) (a19 : Addr) (a20 : Addr) (i21 : Int32) (j22 : Int64) (w_burstTokens_a19 : Int64) (w_tokensPerMinute_a19 : Int64) (w_heldAcrossLoss_a19 : Int32) (w_levelUnits_a20 : Int64) (w_updatedMicros_a20 : Int64)
    (X0 : Stand p l e room_1 s m args below meth c T0 locs 2 5) (e0 : T0.heap = h0) (N0 : Fr n0 locs) (Z0 : n0 ≤ h0.size) (g_a19 : n0 ≤ a19) (E_a19 : Exa Z h0 a19 "com/example/refill/refill/core/store/BucketLimits") (F_burstTokens_a19 : Fld Z h0 a19 "com/example/refill/refill/core/store/BucketLimits" "burstTokens" "J" (.long w_burstTokens_a19)) (F_tokensPerMinute_a19 : Fld Z h0 a19 "com/example/refill/refill/core/store/BucketLimits" "tokensPerMinute" "J" (.long w_tokensPerMinute_a19)) (F_heldAcrossLoss_a19 : Fld Z h0 a19 "com/example/refill/refill/core/store/BucketLimits" "heldAcrossLoss" "Z" (.int w_heldAcrossLoss_a19)) (ne_a19_a20 : a19 ≠ a20) (g_a20 : n0 ≤ a20) (E_a20 : Exa Z h0 a20 "com/example/refill/refill/core/store/TokenBucket") (F_levelUnits_a20 : Fld Z h0 a20 "com/example/refill/refill/core/store/TokenBucket" "levelUnits" "J" (.long w_levelUnits_a20)) (F_updatedMicros_a20 : Fld Z h0 a20 "com/example/refill/refill/core/store/TokenBucket" "updatedMicros" "J" (.long w_updatedMicros_a20)) :
    ∃ T' locs' cells' slots', Stand p l e room_1 s m args below meth c T' locs' cells' slots' ∧ Fr n0 locs' ∧ cells' ≤ room_1.cells ∧ slots' ≤ room_1.slots ∧ ∀ fs, (∀ (f : JFrame) (acts : List Action), f.method = m → f.locked = none → f.entered = [] → (doReturn e (T'.setTop f) acts (some (.int (own_f0_169 j0 j2 j4 j6 j8 i10 j11 j13 j15 j17 i21 j22 w_burstTokens_a19 w_tokensPerMinute_a19 w_heldAcrossLoss_a19 w_levelUnits_a20 w_updatedMicros_a20)))).1 = T'.setFrames fs) → Steps p.tables e below (T0.setTop (mkF m 169 #[.val (.long j0), .second, .val (.long j2), .second, .val (.long j4), .second, .val (.long j6), .second, .val (.long j8), .second, .val (.int i10), .val (.long j11), .second, .val (.long j13), .second, .val (.long j15), .second, .val (.long j17), .second, .val (.ref a19), .val (.ref a20), .val (.int i21), .val (.long j22), .second, .unset] [])) (T'.setFrames fs) := by
  have pre1 : ∀ target, Steps p.tables e below (T0.setTop (mkF m 174 #[.val (.long j0), .second, .val (.long j2), .second, .val (.long j4), .second, .val (.long j6), .second, .val (.long j8), .second, .val (.int i10), .val (.long j11), .second, .val (.long j13), .second, .val (.long j15), .second, .val (.long j17), .second, .val (.ref a19), .val (.ref a20), .val (.int i21), .val (.long j22), .second, .unset] [(.int (lcmpW j17 j11))])) target → Steps p.tables e below (T0.setTop (mkF m 169 #[.val (.long j0), .second, .val (.long j2), .second, .val (.long j4), .second, .val (.long j6), .second, .val (.long j8), .second, .val (.int i10), .val (.long j11), .second, .val (.long j13), .second, .val (.long j15), .second, .val (.long j17), .second, .val (.ref a19), .val (.ref a20), .val (.int i21), .val (.long j22), .second, .unset] [])) target := by
    intro target kt
    show Steps p.tables e below (T0.setTop (mkF m 169 #[.val (.long j0), .second, .val (.long j2), .second, .val (.long j4), .second, .val (.long j6), .second, .val (.long j8), .second, .val (.int i10), .val (.long j11), .second, .val (.long j13), .second, .val (.long j15), .second, .val (.long j17), .second, .val (.ref a19), .val (.ref a20), .val (.int i21), .val (.long j22), .second, .unset] [])) _
    refine XS.lload X0.here hx rfl (hb hby at_169) rfl ?_
    show Steps p.tables e below (T0.setTop (mkF m 171 #[.val (.long j0), .second, .val (.long j2), .second, .val (.long j4), .second, .val (.long j6), .second, .val (.long j8), .second, .val (.int i10), .val (.long j11), .second, .val (.long j13), .second, .val (.long j15), .second, .val (.long j17), .second, .val (.ref a19), .val (.ref a20), .val (.int i21), .val (.long j22), .second, .unset] [(.long j17)])) _
    refine XS.lload X0.here hx rfl (hb hby at_171) rfl ?_
    show Steps p.tables e below (T0.setTop (mkF m 173 #[.val (.long j0), .second, .val (.long j2), .second, .val (.long j4), .second, .val (.long j6), .second, .val (.long j8), .second, .val (.int i10), .val (.long j11), .second, .val (.long j13), .second, .val (.long j15), .second, .val (.long j17), .second, .val (.ref a19), .val (.ref a20), .val (.int i21), .val (.long j22), .second, .unset] [(.long j11), (.long j17)])) _
    refine XS.lcmp X0.here hx rfl (hb hby at_173) rfl ?_
    exact kt
  by_cases hc174 : j11 < j17
  · have pre2 : ∀ target, Steps p.tables e below (T0.setTop (mkF m 189 #[.val (.long j0), .second, .val (.long j2), .second, .val (.long j4), .second, .val (.long j6), .second, .val (.long j8), .second, .val (.int i10), .val (.long j11), .second, .val (.long j13), .second, .val (.long j15), .second, .val (.long j17), .second, .val (.ref a19), .val (.ref a20), .val (.int i21), .val (.long j22), .second, .unset] [])) target → Steps p.tables e below (T0.setTop (mkF m 169 #[.val (.long j0), .second, .val (.long j2), .second, .val (.long j4), .second, .val (.long j6), .second, .val (.long j8), .second, .val (.int i10), .val (.long j11), .second, .val (.long j13), .second, .val (.long j15), .second, .val (.long j17), .second, .val (.ref a19), .val (.ref a20), .val (.int i21), .val (.long j22), .second, .unset] [])) target := by
      intro target kt
      refine pre1 target ?_
      show Steps p.tables e below (T0.setTop (mkF m 174 #[.val (.long j0), .second, .val (.long j2), .second, .val (.long j4), .second, .val (.long j6), .second, .val (.long j8), .second, .val (.int i10), .val (.long j11), .second, .val (.long j13), .second, .val (.long j15), .second, .val (.long j17), .second, .val (.ref a19), .val (.ref a20), .val (.int i21), .val (.long j22), .second, .unset] [(.int (lcmpW j17 j11))])) _
      refine XS.ifYes X0.here hx rfl (pc0 := 174) (pc' := 189) rfl (hb hby at_174) rfl ((if0 _ _).trans (tlt ((lw_gt _ _).mpr hc174)).2.2.1) (by decide) (by decide) ?_
      exact kt
    obtain ⟨T3, L3, k3, n3, X3, N3, hk3', hn3, st3⟩ := own_b0_189 hx hZ hw hby hml hown hret j0 j2 j4 j6 j8 i10 j11 j13 j15 j17 a19 a20 i21 j22 w_burstTokens_a19 w_tokensPerMinute_a19 w_heldAcrossLoss_a19 w_levelUnits_a20 w_updatedMicros_a20 X0 e0 N0 Z0 g_a19 E_a19 F_burstTokens_a19 F_tokensPerMinute_a19 F_heldAcrossLoss_a19 ne_a19_a20 g_a20 E_a20 F_levelUnits_a20 F_updatedMicros_a20 
    have hv : (own_f0_169 j0 j2 j4 j6 j8 i10 j11 j13 j15 j17 i21 j22 w_burstTokens_a19 w_tokensPerMinute_a19 w_heldAcrossLoss_a19 w_levelUnits_a20 w_updatedMicros_a20) = (own_f0_189 j0 j2 j4 j6 j8 i10 j11 j13 j15 j17 i21 j22 w_burstTokens_a19 w_tokensPerMinute_a19 w_heldAcrossLoss_a19 w_levelUnits_a20 w_updatedMicros_a20) := by unfold own_f0_169; rw [if_pos hc174]
    exact ⟨T3, L3, k3, n3, X3, N3, hk3', hn3, fun fs hr => pre2 _ (st3 fs (by rw [hv] at hr; exact hr))⟩
  · have pre4 : ∀ target, Steps p.tables e below (T0.setTop (mkF m 182 #[.val (.long j0), .second, .val (.long j2), .second, .val (.long j4), .second, .val (.long j6), .second, .val (.long j8), .second, .val (.int i10), .val (.long j11), .second, .val (.long j13), .second, .val (.long j15), .second, .val (.long j17), .second, .val (.ref a19), .val (.ref a20), .val (.int i21), .val (.long j22), .second, .unset] [(.int (lcmpW j22 j17))])) target → Steps p.tables e below (T0.setTop (mkF m 169 #[.val (.long j0), .second, .val (.long j2), .second, .val (.long j4), .second, .val (.long j6), .second, .val (.long j8), .second, .val (.int i10), .val (.long j11), .second, .val (.long j13), .second, .val (.long j15), .second, .val (.long j17), .second, .val (.ref a19), .val (.ref a20), .val (.int i21), .val (.long j22), .second, .unset] [])) target := by
      intro target kt
      refine pre1 target ?_
      show Steps p.tables e below (T0.setTop (mkF m 174 #[.val (.long j0), .second, .val (.long j2), .second, .val (.long j4), .second, .val (.long j6), .second, .val (.long j8), .second, .val (.int i10), .val (.long j11), .second, .val (.long j13), .second, .val (.long j15), .second, .val (.long j17), .second, .val (.ref a19), .val (.ref a20), .val (.int i21), .val (.long j22), .second, .unset] [(.int (lcmpW j17 j11))])) _
      refine XS.ifNo X0.here hx rfl (hb hby at_174) rfl ((if0 _ _).trans (flt (mt (lw_gt _ _).mp hc174)).2.2.1) ?_
      show Steps p.tables e below (T0.setTop (mkF m 177 #[.val (.long j0), .second, .val (.long j2), .second, .val (.long j4), .second, .val (.long j6), .second, .val (.long j8), .second, .val (.int i10), .val (.long j11), .second, .val (.long j13), .second, .val (.long j15), .second, .val (.long j17), .second, .val (.ref a19), .val (.ref a20), .val (.int i21), .val (.long j22), .second, .unset] [])) _
      refine XS.lload X0.here hx rfl (hb hby at_177) rfl ?_
      show Steps p.tables e below (T0.setTop (mkF m 179 #[.val (.long j0), .second, .val (.long j2), .second, .val (.long j4), .second, .val (.long j6), .second, .val (.long j8), .second, .val (.int i10), .val (.long j11), .second, .val (.long j13), .second, .val (.long j15), .second, .val (.long j17), .second, .val (.ref a19), .val (.ref a20), .val (.int i21), .val (.long j22), .second, .unset] [(.long j22)])) _
      refine XS.lload X0.here hx rfl (hb hby at_179) rfl ?_
      show Steps p.tables e below (T0.setTop (mkF m 181 #[.val (.long j0), .second, .val (.long j2), .second, .val (.long j4), .second, .val (.long j6), .second, .val (.long j8), .second, .val (.int i10), .val (.long j11), .second, .val (.long j13), .second, .val (.long j15), .second, .val (.long j17), .second, .val (.ref a19), .val (.ref a20), .val (.int i21), .val (.long j22), .second, .unset] [(.long j17), (.long j22)])) _
      refine XS.lcmp X0.here hx rfl (hb hby at_181) rfl ?_
      exact kt
    by_cases hc182 : j22 < j17
    · have pre5 : ∀ target, Steps p.tables e below (T0.setTop (mkF m 189 #[.val (.long j0), .second, .val (.long j2), .second, .val (.long j4), .second, .val (.long j6), .second, .val (.long j8), .second, .val (.int i10), .val (.long j11), .second, .val (.long j13), .second, .val (.long j15), .second, .val (.long j17), .second, .val (.ref a19), .val (.ref a20), .val (.int i21), .val (.long j22), .second, .unset] [])) target → Steps p.tables e below (T0.setTop (mkF m 169 #[.val (.long j0), .second, .val (.long j2), .second, .val (.long j4), .second, .val (.long j6), .second, .val (.long j8), .second, .val (.int i10), .val (.long j11), .second, .val (.long j13), .second, .val (.long j15), .second, .val (.long j17), .second, .val (.ref a19), .val (.ref a20), .val (.int i21), .val (.long j22), .second, .unset] [])) target := by
        intro target kt
        refine pre4 target ?_
        show Steps p.tables e below (T0.setTop (mkF m 182 #[.val (.long j0), .second, .val (.long j2), .second, .val (.long j4), .second, .val (.long j6), .second, .val (.long j8), .second, .val (.int i10), .val (.long j11), .second, .val (.long j13), .second, .val (.long j15), .second, .val (.long j17), .second, .val (.ref a19), .val (.ref a20), .val (.int i21), .val (.long j22), .second, .unset] [(.int (lcmpW j22 j17))])) _
        refine XS.ifYes X0.here hx rfl (pc0 := 182) (pc' := 189) rfl (hb hby at_182) rfl ((if0 _ _).trans (tlt ((lw_lt _ _).mpr hc182)).1) (by decide) (by decide) ?_
        exact kt
      obtain ⟨T6, L6, k6, n6, X6, N6, hk6', hn6, st6⟩ := own_b0_189 hx hZ hw hby hml hown hret j0 j2 j4 j6 j8 i10 j11 j13 j15 j17 a19 a20 i21 j22 w_burstTokens_a19 w_tokensPerMinute_a19 w_heldAcrossLoss_a19 w_levelUnits_a20 w_updatedMicros_a20 X0 e0 N0 Z0 g_a19 E_a19 F_burstTokens_a19 F_tokensPerMinute_a19 F_heldAcrossLoss_a19 ne_a19_a20 g_a20 E_a20 F_levelUnits_a20 F_updatedMicros_a20 
      have hv : (own_f0_169 j0 j2 j4 j6 j8 i10 j11 j13 j15 j17 i21 j22 w_burstTokens_a19 w_tokensPerMinute_a19 w_heldAcrossLoss_a19 w_levelUnits_a20 w_updatedMicros_a20) = (own_f0_189 j0 j2 j4 j6 j8 i10 j11 j13 j15 j17 i21 j22 w_burstTokens_a19 w_tokensPerMinute_a19 w_heldAcrossLoss_a19 w_levelUnits_a20 w_updatedMicros_a20) := by unfold own_f0_169; rw [if_neg hc174, if_pos hc182]
      exact ⟨T6, L6, k6, n6, X6, N6, hk6', hn6, fun fs hr => pre5 _ (st6 fs (by rw [hv] at hr; exact hr))⟩
    · have pre7 : ∀ target, Steps p.tables e below (T0.setTop (mkF m 190 #[.val (.long j0), .second, .val (.long j2), .second, .val (.long j4), .second, .val (.long j6), .second, .val (.long j8), .second, .val (.int i10), .val (.long j11), .second, .val (.long j13), .second, .val (.long j15), .second, .val (.long j17), .second, .val (.ref a19), .val (.ref a20), .val (.int i21), .val (.long j22), .second, .unset] [(.int (1 : Int32))])) target → Steps p.tables e below (T0.setTop (mkF m 169 #[.val (.long j0), .second, .val (.long j2), .second, .val (.long j4), .second, .val (.long j6), .second, .val (.long j8), .second, .val (.int i10), .val (.long j11), .second, .val (.long j13), .second, .val (.long j15), .second, .val (.long j17), .second, .val (.ref a19), .val (.ref a20), .val (.int i21), .val (.long j22), .second, .unset] [])) target := by
        intro target kt
        refine pre4 target ?_
        show Steps p.tables e below (T0.setTop (mkF m 182 #[.val (.long j0), .second, .val (.long j2), .second, .val (.long j4), .second, .val (.long j6), .second, .val (.long j8), .second, .val (.int i10), .val (.long j11), .second, .val (.long j13), .second, .val (.long j15), .second, .val (.long j17), .second, .val (.ref a19), .val (.ref a20), .val (.int i21), .val (.long j22), .second, .unset] [(.int (lcmpW j22 j17))])) _
        refine XS.ifNo X0.here hx rfl (hb hby at_182) rfl ((if0 _ _).trans (flt (mt (lw_lt _ _).mp hc182)).1) ?_
        show Steps p.tables e below (T0.setTop (mkF m 185 #[.val (.long j0), .second, .val (.long j2), .second, .val (.long j4), .second, .val (.long j6), .second, .val (.long j8), .second, .val (.int i10), .val (.long j11), .second, .val (.long j13), .second, .val (.long j15), .second, .val (.long j17), .second, .val (.ref a19), .val (.ref a20), .val (.int i21), .val (.long j22), .second, .unset] [])) _
        refine XS.iconst X0.here hx rfl (hb hby at_185) ?_
        show Steps p.tables e below (T0.setTop (mkF m 186 #[.val (.long j0), .second, .val (.long j2), .second, .val (.long j4), .second, .val (.long j6), .second, .val (.long j8), .second, .val (.int i10), .val (.long j11), .second, .val (.long j13), .second, .val (.long j15), .second, .val (.long j17), .second, .val (.ref a19), .val (.ref a20), .val (.int i21), .val (.long j22), .second, .unset] [(.int (1 : Int32))])) _
        refine XS.goto X0.here hx rfl (pc0 := 186) (pc' := 190) rfl (hb hby at_186) (by decide) (by decide) ?_
        exact kt
      obtain ⟨T8, L8, k8, n8, X8, N8, hk8', hn8, st8⟩ := own_b0_190 hx hZ hw hby hml hown hret j0 j2 j4 j6 j8 i10 j11 j13 j15 j17 a19 a20 i21 j22 (1 : Int32) w_burstTokens_a19 w_tokensPerMinute_a19 w_heldAcrossLoss_a19 w_levelUnits_a20 w_updatedMicros_a20 X0 e0 N0 Z0 g_a19 E_a19 F_burstTokens_a19 F_tokensPerMinute_a19 F_heldAcrossLoss_a19 ne_a19_a20 g_a20 E_a20 F_levelUnits_a20 F_updatedMicros_a20 
      have hv : (own_f0_169 j0 j2 j4 j6 j8 i10 j11 j13 j15 j17 i21 j22 w_burstTokens_a19 w_tokensPerMinute_a19 w_heldAcrossLoss_a19 w_levelUnits_a20 w_updatedMicros_a20) = (own_f0_190 j0 j2 j4 j6 j8 i10 j11 j13 j15 j17 i21 j22 (1 : Int32) w_burstTokens_a19 w_tokensPerMinute_a19 w_heldAcrossLoss_a19 w_levelUnits_a20 w_updatedMicros_a20) := by unfold own_f0_169; rw [if_neg hc174, if_neg hc182]
      exact ⟨T8, L8, k8, n8, X8, N8, hk8', hn8, fun fs hr => pre7 _ (st8 fs (by rw [hv] at hr; exact hr))⟩
set_option maxRecDepth 65536 in
set_option maxHeartbeats 40000000 in
theorem own_b0_108 {p : Program} {l : Launch} {e : Env} {s : State} {m : MethodId} {args : Array Value} {below : List Frame} {meth : Method} {c : Code} {Z : State} {a0_ : Array Value} {n0 : Nat} (hx : p.tables.exec = Jvm.exec) (hZ : Z.Warmed39 s.vm) (hw : ∀ d ∈ tables_1, d.before a0_ Z = true) (hby : c.code = code) (hml : c.maxLocals = 25) (hown : s.vm.findClass "com/example/refill/refill/core/store/TokenBucketHoldsPinLaw" = some m.cls) (hret : meth.sig.returnType = some .boolean) {T0 : State} {locs : List Loc} {h0 : Heap} (j0 : Int64) (j2 : Int64) (j4 : Int64) (j6 : Int64) (j8 : Int64) (i10 : Int32) (j11 : Int64) (j13 : Int64) (j15 : Int64) (j17 : Int64) (u0 : Int32) (v1 : Int64) (v2 : Int64) (b3 : Addr) (w_burstTokens_b3 : Int64) (w_tokensPerMinute_b3 : Int64) (w_heldAcrossLoss_b3 : Int32)
    (X0 : Stand p l e room_1 s m args below meth c T0 locs 1 3) (e0 : T0.heap = h0) (N0 : Fr n0 locs) (Z0 : n0 ≤ h0.size) (g_b3 : n0 ≤ b3) (E_b3 : Exa Z h0 b3 "com/example/refill/refill/core/store/BucketLimits") (F_burstTokens_b3 : Fld Z h0 b3 "com/example/refill/refill/core/store/BucketLimits" "burstTokens" "J" (.long w_burstTokens_b3)) (F_tokensPerMinute_b3 : Fld Z h0 b3 "com/example/refill/refill/core/store/BucketLimits" "tokensPerMinute" "J" (.long w_tokensPerMinute_b3)) (F_heldAcrossLoss_b3 : Fld Z h0 b3 "com/example/refill/refill/core/store/BucketLimits" "heldAcrossLoss" "Z" (.int w_heldAcrossLoss_b3)) :
    ∃ T' locs' cells' slots', Stand p l e room_1 s m args below meth c T' locs' cells' slots' ∧ Fr n0 locs' ∧ cells' ≤ room_1.cells ∧ slots' ≤ room_1.slots ∧ ∀ fs, (∀ (f : JFrame) (acts : List Action), f.method = m → f.locked = none → f.entered = [] → (doReturn e (T'.setTop f) acts (some (.int (own_f0_108 j0 j2 j4 j6 j8 i10 j11 j13 j15 j17 u0 v1 v2 w_burstTokens_b3 w_tokensPerMinute_b3 w_heldAcrossLoss_b3)))).1 = T'.setFrames fs) → Steps p.tables e below (T0.setTop (mkF m 108 #[.val (.long j0), .second, .val (.long j2), .second, .val (.long j4), .second, .val (.long j6), .second, .val (.long j8), .second, .val (.int i10), .val (.long j11), .second, .val (.long j13), .second, .val (.long j15), .second, .val (.long j17), .second, .unset, .unset, .unset, .unset, .unset, .unset] [(.int u0), (.long v1), (.long v2), (.ref b3), (.ref b3)])) (T'.setFrames fs) := by
  obtain ⟨_, _, ⟨T1, L1, k1, n1⟩, -, X1, ⟨Lc1, hQ1, l1, y1, z1⟩, st1⟩ := X0.specialBack hx (y := (⟨"com/example/refill/refill/core/store/BucketLimits", "<init>", "(JJZ)V"⟩ : MethodName)) rfl hown (mvT hZ (hw _ (List.mem_of_getElem? (i := 6) rfl))) (mvT hZ (hw _ (List.mem_of_getElem? (i := 7) rfl))) (mvT hZ (hw _ (List.mem_of_getElem? (i := 8) rfl))) (by decide) (backOf (W := 1) (rm1 l Z a0_ hw [] b3 v2 v1 u0 w_burstTokens_b3 w_tokensPerMinute_b3 w_heldAcrossLoss_b3 h0 n0 Z0 E_b3 g_b3 F_burstTokens_b3 F_tokensPerMinute_b3 F_heldAcrossLoss_b3) hZ (hw _ (List.mem_of_getElem? (i := 8) rfl)) (hw _ (List.mem_of_getElem? (i := 5) rfl)) (by decide) (by decide)) (g := (mkF m 108 #[.val (.long j0), .second, .val (.long j2), .second, .val (.long j4), .second, .val (.long j6), .second, .val (.long j8), .second, .val (.int i10), .val (.long j11), .second, .val (.long j13), .second, .val (.long j15), .second, .val (.long j17), .second, .unset, .unset, .unset, .unset, .unset, .unset] [(.int u0), (.long v1), (.long v2), (.ref b3), (.ref b3)])) rfl (by rw [hml]; rfl) (Steps.refl _) (a := b3) (argsL := [(.long v2), (.long v1), (.int u0)]) (rest := [(.ref b3)]) (lenOf pd_0_0 rfl) rfl (by show 2 * 0 + _ ≤ _; exact Nat.le_of_eq rfl) (hb hby at_108) (fun _ _ => ⟨rfl, e0, (by decide : 1 + 0 ≤ room_1.cells), (by decide : 3 + 0 ≤ room_1.slots)⟩)
  dsimp only [Pt.U, Pt.locs, Pt.cells, Pt.slots] at X1 l1 y1 z1 st1 hQ1
  subst l1 y1 z1
  obtain ⟨rfl, Nq1, Kq1, Eq1, Gq1_burstTokens, Gq1_tokensPerMinute, Gq1_heldAcrossLoss⟩ := hQ1
  have N1 := Fr.app N0 Nq1
  have Z1 : n0 ≤ T1.heap.size := Nat.le_trans Z0 Kq1.1
  have E_b3_k1 := Eq1
  have F_burstTokens_b3_k1 := Gq1_burstTokens
  have F_tokensPerMinute_b3_k1 := Gq1_tokensPerMinute
  have F_heldAcrossLoss_b3_k1 := Gq1_heldAcrossLoss
  obtain ⟨T2, h2, X2, e2, E2, A2, D2, -, st2⟩ := newO X1 hx hZ hown (hw _ (List.mem_of_getElem? (i := 23) rfl)) (hw _ (List.mem_of_getElem? (i := 24) rfl)) (hw _ (List.mem_of_getElem? (i := 25) rfl)) rfl (g := (mkF m 113 #[.val (.long j0), .second, .val (.long j2), .second, .val (.long j4), .second, .val (.long j6), .second, .val (.long j8), .second, .val (.int i10), .val (.long j11), .second, .val (.long j13), .second, .val (.long j15), .second, .val (.long j17), .second, .val (.ref b3), .unset, .unset, .unset, .unset, .unset] [])) rfl (hb hby at_113) (by decide) (by decide)
  obtain ⟨b2, g2⟩ : ∃ z, z = T1.heap.size := ⟨_, rfl⟩
  rw [← g2] at A2 D2 st2
  have g_b2 : n0 ≤ b2 := Nat.le_trans Z1 (Nat.le_of_eq g2.symm)
  have Z2 : n0 ≤ h2.size := Nat.le_trans Z1 E2.1
  have ne_b3_b2 : b3 ≠ b2 := Nat.ne_of_lt (Nat.lt_of_lt_of_le E_b3_k1.lt (Nat.le_of_eq g2.symm))
  have E_b3_k2 := E_b3_k1.ext E2
  have F_burstTokens_b3_k2 := F_burstTokens_b3_k1.ext E2
  have F_tokensPerMinute_b3_k2 := F_tokensPerMinute_b3_k1.ext E2
  have F_heldAcrossLoss_b3_k2 := F_heldAcrossLoss_b3_k1.ext E2
  have F_levelUnits_b2 : Fld Z h2 b2 "com/example/refill/refill/core/store/TokenBucket" "levelUnits" "J" (.long (0 : Int64)) := D2 (Or.inr (hw _ (List.mem_of_getElem? (i := 31) rfl))) (ty := .long) (by decide)
  have F_updatedMicros_b2 : Fld Z h2 b2 "com/example/refill/refill/core/store/TokenBucket" "updatedMicros" "J" (.long (0 : Int64)) := D2 (Or.inr (hw _ (List.mem_of_getElem? (i := 33) rfl))) (ty := .long) (by decide)
  obtain ⟨_, _, ⟨T3, L3, k3, n3⟩, -, X3, ⟨Lc3, hQ3, l3, y3, z3⟩, st3⟩ := X2.specialBack hx (y := (⟨"com/example/refill/refill/core/store/TokenBucket", "<init>", "(JJ)V"⟩ : MethodName)) rfl hown (mvT hZ (hw _ (List.mem_of_getElem? (i := 26) rfl))) (mvT hZ (hw _ (List.mem_of_getElem? (i := 27) rfl))) (mvT hZ (hw _ (List.mem_of_getElem? (i := 28) rfl))) (by decide) (backOf (W := 1) (rm4 l Z a0_ hw [] b2 j15 j2 (0 : Int64) (0 : Int64) h2 n0 Z2 A2 g_b2 F_levelUnits_b2 F_updatedMicros_b2) hZ (hw _ (List.mem_of_getElem? (i := 28) rfl)) (hw _ (List.mem_of_getElem? (i := 25) rfl)) (by decide) (by decide)) (g := (mkF m 120 #[.val (.long j0), .second, .val (.long j2), .second, .val (.long j4), .second, .val (.long j6), .second, .val (.long j8), .second, .val (.int i10), .val (.long j11), .second, .val (.long j13), .second, .val (.long j15), .second, .val (.long j17), .second, .val (.ref b3), .unset, .unset, .unset, .unset, .unset] [(.long j2), (.long j15), (.ref b2), (.ref b2)])) rfl (by rw [hml]; rfl) (Steps.refl _) (a := b2) (argsL := [(.long j15), (.long j2)]) (rest := [(.ref b2)]) (lenOf pd_0_1 rfl) rfl (by show 2 * 0 + _ ≤ _; exact Nat.le_of_eq rfl) (hb hby at_120) (fun _ _ => ⟨rfl, e2, (by decide : 2 + 0 ≤ room_1.cells), (by decide : 5 + 0 ≤ room_1.slots)⟩)
  dsimp only [Pt.U, Pt.locs, Pt.cells, Pt.slots] at X3 l3 y3 z3 st3 hQ3
  subst l3 y3 z3
  obtain ⟨rfl, Nq3, Kq3, Eq3, Gq3_levelUnits, Gq3_updatedMicros⟩ := hQ3
  have N3 := Fr.app N1 Nq3
  have Z3 : n0 ≤ T3.heap.size := Nat.le_trans Z2 Kq3.1
  have E_b3_k3 := E_b3_k2.keep Kq3
  have F_burstTokens_b3_k3 := F_burstTokens_b3_k2.keep Kq3 (ninS ne_b3_b2 nin0)
  have F_tokensPerMinute_b3_k3 := F_tokensPerMinute_b3_k2.keep Kq3 (ninS ne_b3_b2 nin0)
  have F_heldAcrossLoss_b3_k3 := F_heldAcrossLoss_b3_k2.keep Kq3 (ninS ne_b3_b2 nin0)
  have A2_k3 := Eq3
  have F_levelUnits_b2_k3 := Gq3_levelUnits
  have F_updatedMicros_b2_k3 := Gq3_updatedMicros
  obtain ⟨cq4, kq4, q4a, q4b, q4c⟩ := isOf hZ rfl A2_k3
  obtain ⟨_, _, ⟨T4, L4, k4, n4⟩, -, X4, ⟨Lc4, hQ4, l4, y4, z4⟩, st4⟩ := X3.virtualBack hx (y := (⟨"com/example/refill/refill/core/store/TokenBucket", "holds", "(Lcom/example/refill/refill/core/store/BucketLimits;J)Z"⟩ : MethodName)) (z := (⟨"com/example/refill/refill/core/store/TokenBucket", "holds", "(Lcom/example/refill/refill/core/store/BucketLimits;J)Z"⟩ : MethodName)) hown (mvT hZ (hw _ (List.mem_of_getElem? (i := 34) rfl))) (mvT hZ (hw _ (List.mem_of_getElem? (i := 35) rfl))) (notFace_of_selects (args := #[]) (mvT hZ (hw _ (List.mem_of_getElem? (i := 37) rfl)))) (mvT hZ (hw _ (List.mem_of_getElem? (i := 37) rfl))) (mvT hZ (hw _ (List.mem_of_getElem? (i := 36) rfl))) (by decide) (backOf (W := 0) (rm5 l Z a0_ hw [] b2 b3 j17 (own_o1_burstTokens v2 v1 u0 w_burstTokens_b3 w_tokensPerMinute_b3 w_heldAcrossLoss_b3) (own_o4_levelUnits j15 j2 (0 : Int64) (0 : Int64)) T3.heap n0 Z3 F_burstTokens_b3_k3 E_b3_k3 F_levelUnits_b2_k3) hZ (hw _ (List.mem_of_getElem? (i := 38) rfl)) (hw _ (List.mem_of_getElem? (i := 25) rfl)) (by decide) (by decide)) q4a q4c (g := (mkF m 131 #[.val (.long j0), .second, .val (.long j2), .second, .val (.long j4), .second, .val (.long j6), .second, .val (.long j8), .second, .val (.int i10), .val (.long j11), .second, .val (.long j13), .second, .val (.long j15), .second, .val (.long j17), .second, .val (.ref b3), .val (.ref b2), .unset, .unset, .unset, .unset] [(.long j17), (.ref b3), (.ref b2)])) rfl (by rw [hml]; rfl) (Steps.refl _) (argsL := [(.ref b3), (.long j17)]) (rest := []) (lenOf pd_0_2 rfl) rfl (by show 2 * 0 + _ ≤ _; exact Nat.le_of_eq rfl) (hb hby at_131) (fun _ _ => ⟨rfl, rfl, (by decide : 2 + 0 ≤ room_1.cells), (by decide : 5 + 0 ≤ room_1.slots)⟩)
  dsimp only [Pt.U, Pt.locs, Pt.cells, Pt.slots] at X4 l4 y4 z4 st4 hQ4
  subst l4 y4 z4
  obtain ⟨rfl, rfl, e4⟩ := hQ4
  rw [List.append_nil] at X4
  have pre5 : ∀ target, Steps p.tables e below (T4.setTop (mkF m 148 #[.val (.long j0), .second, .val (.long j2), .second, .val (.long j4), .second, .val (.long j6), .second, .val (.long j8), .second, .val (.int i10), .val (.long j11), .second, .val (.long j13), .second, .val (.long j15), .second, .val (.long j17), .second, .val (.ref b3), .val (.ref b2), .val (.int (own_f5_0 j17 (own_o1_burstTokens v2 v1 u0 w_burstTokens_b3 w_tokensPerMinute_b3 w_heldAcrossLoss_b3) (own_o4_levelUnits j15 j2 (0 : Int64) (0 : Int64)))), .val (.long (j15 / (60000000 : Int64))), .second, .unset] [(.int (lcmpW j15 (0 : Int64)))])) target → Steps p.tables e below (T0.setTop (mkF m 108 #[.val (.long j0), .second, .val (.long j2), .second, .val (.long j4), .second, .val (.long j6), .second, .val (.long j8), .second, .val (.int i10), .val (.long j11), .second, .val (.long j13), .second, .val (.long j15), .second, .val (.long j17), .second, .unset, .unset, .unset, .unset, .unset, .unset] [(.int u0), (.long v1), (.long v2), (.ref b3), (.ref b3)])) target := by
    intro target kt
    show Steps p.tables e below (T0.setTop (mkF m 108 #[.val (.long j0), .second, .val (.long j2), .second, .val (.long j4), .second, .val (.long j6), .second, .val (.long j8), .second, .val (.int i10), .val (.long j11), .second, .val (.long j13), .second, .val (.long j15), .second, .val (.long j17), .second, .unset, .unset, .unset, .unset, .unset, .unset] [(.int u0), (.long v1), (.long v2), (.ref b3), (.ref b3)])) _
    refine st1.trans ?_
    show Steps p.tables e below (T1.setTop (mkF m 111 #[.val (.long j0), .second, .val (.long j2), .second, .val (.long j4), .second, .val (.long j6), .second, .val (.long j8), .second, .val (.int i10), .val (.long j11), .second, .val (.long j13), .second, .val (.long j15), .second, .val (.long j17), .second, .unset, .unset, .unset, .unset, .unset, .unset] [(.ref b3)])) _
    refine XS.astore X1.here hx rfl (hb hby at_111) rfl rfl (l' := #[.val (.long j0), .second, .val (.long j2), .second, .val (.long j4), .second, .val (.long j6), .second, .val (.long j8), .second, .val (.int i10), .val (.long j11), .second, .val (.long j13), .second, .val (.long j15), .second, .val (.long j17), .second, .val (.ref b3), .unset, .unset, .unset, .unset, .unset]) rfl ?_
    show Steps p.tables e below (T1.setTop (mkF m 113 #[.val (.long j0), .second, .val (.long j2), .second, .val (.long j4), .second, .val (.long j6), .second, .val (.long j8), .second, .val (.int i10), .val (.long j11), .second, .val (.long j13), .second, .val (.long j15), .second, .val (.long j17), .second, .val (.ref b3), .unset, .unset, .unset, .unset, .unset] [])) _
    refine st2 _ ?_
    show Steps p.tables e below (T2.setTop (mkF m 116 #[.val (.long j0), .second, .val (.long j2), .second, .val (.long j4), .second, .val (.long j6), .second, .val (.long j8), .second, .val (.int i10), .val (.long j11), .second, .val (.long j13), .second, .val (.long j15), .second, .val (.long j17), .second, .val (.ref b3), .unset, .unset, .unset, .unset, .unset] [(.ref b2)])) _
    refine XS.dup X2.here hx rfl (hb hby at_116) rfl rfl ?_
    show Steps p.tables e below (T2.setTop (mkF m 117 #[.val (.long j0), .second, .val (.long j2), .second, .val (.long j4), .second, .val (.long j6), .second, .val (.long j8), .second, .val (.int i10), .val (.long j11), .second, .val (.long j13), .second, .val (.long j15), .second, .val (.long j17), .second, .val (.ref b3), .unset, .unset, .unset, .unset, .unset] [(.ref b2), (.ref b2)])) _
    refine XS.lload X2.here hx rfl (hb hby at_117) rfl ?_
    show Steps p.tables e below (T2.setTop (mkF m 119 #[.val (.long j0), .second, .val (.long j2), .second, .val (.long j4), .second, .val (.long j6), .second, .val (.long j8), .second, .val (.int i10), .val (.long j11), .second, .val (.long j13), .second, .val (.long j15), .second, .val (.long j17), .second, .val (.ref b3), .unset, .unset, .unset, .unset, .unset] [(.long j15), (.ref b2), (.ref b2)])) _
    refine XS.lloadN X2.here hx rfl (hb hby at_119) rfl ?_
    show Steps p.tables e below (T2.setTop (mkF m 120 #[.val (.long j0), .second, .val (.long j2), .second, .val (.long j4), .second, .val (.long j6), .second, .val (.long j8), .second, .val (.int i10), .val (.long j11), .second, .val (.long j13), .second, .val (.long j15), .second, .val (.long j17), .second, .val (.ref b3), .unset, .unset, .unset, .unset, .unset] [(.long j2), (.long j15), (.ref b2), (.ref b2)])) _
    refine st3.trans ?_
    show Steps p.tables e below (T3.setTop (mkF m 123 #[.val (.long j0), .second, .val (.long j2), .second, .val (.long j4), .second, .val (.long j6), .second, .val (.long j8), .second, .val (.int i10), .val (.long j11), .second, .val (.long j13), .second, .val (.long j15), .second, .val (.long j17), .second, .val (.ref b3), .unset, .unset, .unset, .unset, .unset] [(.ref b2)])) _
    refine XS.astore X3.here hx rfl (hb hby at_123) rfl rfl (l' := #[.val (.long j0), .second, .val (.long j2), .second, .val (.long j4), .second, .val (.long j6), .second, .val (.long j8), .second, .val (.int i10), .val (.long j11), .second, .val (.long j13), .second, .val (.long j15), .second, .val (.long j17), .second, .val (.ref b3), .val (.ref b2), .unset, .unset, .unset, .unset]) rfl ?_
    show Steps p.tables e below (T3.setTop (mkF m 125 #[.val (.long j0), .second, .val (.long j2), .second, .val (.long j4), .second, .val (.long j6), .second, .val (.long j8), .second, .val (.int i10), .val (.long j11), .second, .val (.long j13), .second, .val (.long j15), .second, .val (.long j17), .second, .val (.ref b3), .val (.ref b2), .unset, .unset, .unset, .unset] [])) _
    refine XS.aload X3.here hx rfl (hb hby at_125) rfl rfl ?_
    show Steps p.tables e below (T3.setTop (mkF m 127 #[.val (.long j0), .second, .val (.long j2), .second, .val (.long j4), .second, .val (.long j6), .second, .val (.long j8), .second, .val (.int i10), .val (.long j11), .second, .val (.long j13), .second, .val (.long j15), .second, .val (.long j17), .second, .val (.ref b3), .val (.ref b2), .unset, .unset, .unset, .unset] [(.ref b2)])) _
    refine XS.aload X3.here hx rfl (hb hby at_127) rfl rfl ?_
    show Steps p.tables e below (T3.setTop (mkF m 129 #[.val (.long j0), .second, .val (.long j2), .second, .val (.long j4), .second, .val (.long j6), .second, .val (.long j8), .second, .val (.int i10), .val (.long j11), .second, .val (.long j13), .second, .val (.long j15), .second, .val (.long j17), .second, .val (.ref b3), .val (.ref b2), .unset, .unset, .unset, .unset] [(.ref b3), (.ref b2)])) _
    refine XS.lload X3.here hx rfl (hb hby at_129) rfl ?_
    show Steps p.tables e below (T3.setTop (mkF m 131 #[.val (.long j0), .second, .val (.long j2), .second, .val (.long j4), .second, .val (.long j6), .second, .val (.long j8), .second, .val (.int i10), .val (.long j11), .second, .val (.long j13), .second, .val (.long j15), .second, .val (.long j17), .second, .val (.ref b3), .val (.ref b2), .unset, .unset, .unset, .unset] [(.long j17), (.ref b3), (.ref b2)])) _
    refine st4.trans ?_
    show Steps p.tables e below (T4.setTop (mkF m 134 #[.val (.long j0), .second, .val (.long j2), .second, .val (.long j4), .second, .val (.long j6), .second, .val (.long j8), .second, .val (.int i10), .val (.long j11), .second, .val (.long j13), .second, .val (.long j15), .second, .val (.long j17), .second, .val (.ref b3), .val (.ref b2), .unset, .unset, .unset, .unset] [(.int (own_f5_0 j17 (own_o1_burstTokens v2 v1 u0 w_burstTokens_b3 w_tokensPerMinute_b3 w_heldAcrossLoss_b3) (own_o4_levelUnits j15 j2 (0 : Int64) (0 : Int64))))])) _
    refine XS.istore X4.here hx rfl (hb hby at_134) rfl (l' := #[.val (.long j0), .second, .val (.long j2), .second, .val (.long j4), .second, .val (.long j6), .second, .val (.long j8), .second, .val (.int i10), .val (.long j11), .second, .val (.long j13), .second, .val (.long j15), .second, .val (.long j17), .second, .val (.ref b3), .val (.ref b2), .val (.int (own_f5_0 j17 (own_o1_burstTokens v2 v1 u0 w_burstTokens_b3 w_tokensPerMinute_b3 w_heldAcrossLoss_b3) (own_o4_levelUnits j15 j2 (0 : Int64) (0 : Int64)))), .unset, .unset, .unset]) rfl ?_
    show Steps p.tables e below (T4.setTop (mkF m 136 #[.val (.long j0), .second, .val (.long j2), .second, .val (.long j4), .second, .val (.long j6), .second, .val (.long j8), .second, .val (.int i10), .val (.long j11), .second, .val (.long j13), .second, .val (.long j15), .second, .val (.long j17), .second, .val (.ref b3), .val (.ref b2), .val (.int (own_f5_0 j17 (own_o1_burstTokens v2 v1 u0 w_burstTokens_b3 w_tokensPerMinute_b3 w_heldAcrossLoss_b3) (own_o4_levelUnits j15 j2 (0 : Int64) (0 : Int64)))), .unset, .unset, .unset] [])) _
    refine XS.lload X4.here hx rfl (hb hby at_136) rfl ?_
    show Steps p.tables e below (T4.setTop (mkF m 138 #[.val (.long j0), .second, .val (.long j2), .second, .val (.long j4), .second, .val (.long j6), .second, .val (.long j8), .second, .val (.int i10), .val (.long j11), .second, .val (.long j13), .second, .val (.long j15), .second, .val (.long j17), .second, .val (.ref b3), .val (.ref b2), .val (.int (own_f5_0 j17 (own_o1_burstTokens v2 v1 u0 w_burstTokens_b3 w_tokensPerMinute_b3 w_heldAcrossLoss_b3) (own_o4_levelUnits j15 j2 (0 : Int64) (0 : Int64)))), .unset, .unset, .unset] [(.long j15)])) _
    refine X4.ldc2Long hx hown (mvT hZ (hw _ (List.mem_of_getElem? (i := 2) rfl))) (g := (mkF m 138 #[.val (.long j0), .second, .val (.long j2), .second, .val (.long j4), .second, .val (.long j6), .second, .val (.long j8), .second, .val (.int i10), .val (.long j11), .second, .val (.long j13), .second, .val (.long j15), .second, .val (.long j17), .second, .val (.ref b3), .val (.ref b2), .val (.int (own_f5_0 j17 (own_o1_burstTokens v2 v1 u0 w_burstTokens_b3 w_tokensPerMinute_b3 w_heldAcrossLoss_b3) (own_o4_levelUnits j15 j2 (0 : Int64) (0 : Int64)))), .unset, .unset, .unset] [(.long j15)])) rfl (hb hby at_138) _ ?_
    show Steps p.tables e below (T4.setTop (mkF m 141 #[.val (.long j0), .second, .val (.long j2), .second, .val (.long j4), .second, .val (.long j6), .second, .val (.long j8), .second, .val (.int i10), .val (.long j11), .second, .val (.long j13), .second, .val (.long j15), .second, .val (.long j17), .second, .val (.ref b3), .val (.ref b2), .val (.int (own_f5_0 j17 (own_o1_burstTokens v2 v1 u0 w_burstTokens_b3 w_tokensPerMinute_b3 w_heldAcrossLoss_b3) (own_o4_levelUnits j15 j2 (0 : Int64) (0 : Int64)))), .unset, .unset, .unset] [(.long (60000000 : Int64)), (.long j15)])) _
    refine XS.ldiv X4.here hx rfl (hb hby at_141) rfl (by decide) ?_
    show Steps p.tables e below (T4.setTop (mkF m 142 #[.val (.long j0), .second, .val (.long j2), .second, .val (.long j4), .second, .val (.long j6), .second, .val (.long j8), .second, .val (.int i10), .val (.long j11), .second, .val (.long j13), .second, .val (.long j15), .second, .val (.long j17), .second, .val (.ref b3), .val (.ref b2), .val (.int (own_f5_0 j17 (own_o1_burstTokens v2 v1 u0 w_burstTokens_b3 w_tokensPerMinute_b3 w_heldAcrossLoss_b3) (own_o4_levelUnits j15 j2 (0 : Int64) (0 : Int64)))), .unset, .unset, .unset] [(.long (j15 / (60000000 : Int64)))])) _
    refine XS.lstore X4.here hx rfl (hb hby at_142) rfl (l' := #[.val (.long j0), .second, .val (.long j2), .second, .val (.long j4), .second, .val (.long j6), .second, .val (.long j8), .second, .val (.int i10), .val (.long j11), .second, .val (.long j13), .second, .val (.long j15), .second, .val (.long j17), .second, .val (.ref b3), .val (.ref b2), .val (.int (own_f5_0 j17 (own_o1_burstTokens v2 v1 u0 w_burstTokens_b3 w_tokensPerMinute_b3 w_heldAcrossLoss_b3) (own_o4_levelUnits j15 j2 (0 : Int64) (0 : Int64)))), .val (.long (j15 / (60000000 : Int64))), .second, .unset]) rfl ?_
    show Steps p.tables e below (T4.setTop (mkF m 144 #[.val (.long j0), .second, .val (.long j2), .second, .val (.long j4), .second, .val (.long j6), .second, .val (.long j8), .second, .val (.int i10), .val (.long j11), .second, .val (.long j13), .second, .val (.long j15), .second, .val (.long j17), .second, .val (.ref b3), .val (.ref b2), .val (.int (own_f5_0 j17 (own_o1_burstTokens v2 v1 u0 w_burstTokens_b3 w_tokensPerMinute_b3 w_heldAcrossLoss_b3) (own_o4_levelUnits j15 j2 (0 : Int64) (0 : Int64)))), .val (.long (j15 / (60000000 : Int64))), .second, .unset] [])) _
    refine XS.lload X4.here hx rfl (hb hby at_144) rfl ?_
    show Steps p.tables e below (T4.setTop (mkF m 146 #[.val (.long j0), .second, .val (.long j2), .second, .val (.long j4), .second, .val (.long j6), .second, .val (.long j8), .second, .val (.int i10), .val (.long j11), .second, .val (.long j13), .second, .val (.long j15), .second, .val (.long j17), .second, .val (.ref b3), .val (.ref b2), .val (.int (own_f5_0 j17 (own_o1_burstTokens v2 v1 u0 w_burstTokens_b3 w_tokensPerMinute_b3 w_heldAcrossLoss_b3) (own_o4_levelUnits j15 j2 (0 : Int64) (0 : Int64)))), .val (.long (j15 / (60000000 : Int64))), .second, .unset] [(.long j15)])) _
    refine XS.lconst X4.here hx rfl (hb hby at_146) ?_
    show Steps p.tables e below (T4.setTop (mkF m 147 #[.val (.long j0), .second, .val (.long j2), .second, .val (.long j4), .second, .val (.long j6), .second, .val (.long j8), .second, .val (.int i10), .val (.long j11), .second, .val (.long j13), .second, .val (.long j15), .second, .val (.long j17), .second, .val (.ref b3), .val (.ref b2), .val (.int (own_f5_0 j17 (own_o1_burstTokens v2 v1 u0 w_burstTokens_b3 w_tokensPerMinute_b3 w_heldAcrossLoss_b3) (own_o4_levelUnits j15 j2 (0 : Int64) (0 : Int64)))), .val (.long (j15 / (60000000 : Int64))), .second, .unset] [(.long (0 : Int64)), (.long j15)])) _
    refine XS.lcmp X4.here hx rfl (hb hby at_147) rfl ?_
    exact kt
  by_cases hc148 : j15 < (0 : Int64)
  · have pre6 : ∀ target, Steps p.tables e below (T4.setTop (mkF m 160 #[.val (.long j0), .second, .val (.long j2), .second, .val (.long j4), .second, .val (.long j6), .second, .val (.long j8), .second, .val (.int i10), .val (.long j11), .second, .val (.long j13), .second, .val (.long j15), .second, .val (.long j17), .second, .val (.ref b3), .val (.ref b2), .val (.int (own_f5_0 j17 (own_o1_burstTokens v2 v1 u0 w_burstTokens_b3 w_tokensPerMinute_b3 w_heldAcrossLoss_b3) (own_o4_levelUnits j15 j2 (0 : Int64) (0 : Int64)))), .val (.long (j15 / (60000000 : Int64))), .second, .unset] [(.int (lcmpW ((j15 / (60000000 : Int64)) * (60000000 : Int64)) j15))])) target → Steps p.tables e below (T0.setTop (mkF m 108 #[.val (.long j0), .second, .val (.long j2), .second, .val (.long j4), .second, .val (.long j6), .second, .val (.long j8), .second, .val (.int i10), .val (.long j11), .second, .val (.long j13), .second, .val (.long j15), .second, .val (.long j17), .second, .unset, .unset, .unset, .unset, .unset, .unset] [(.int u0), (.long v1), (.long v2), (.ref b3), (.ref b3)])) target := by
      intro target kt
      refine pre5 target ?_
      show Steps p.tables e below (T4.setTop (mkF m 148 #[.val (.long j0), .second, .val (.long j2), .second, .val (.long j4), .second, .val (.long j6), .second, .val (.long j8), .second, .val (.int i10), .val (.long j11), .second, .val (.long j13), .second, .val (.long j15), .second, .val (.long j17), .second, .val (.ref b3), .val (.ref b2), .val (.int (own_f5_0 j17 (own_o1_burstTokens v2 v1 u0 w_burstTokens_b3 w_tokensPerMinute_b3 w_heldAcrossLoss_b3) (own_o4_levelUnits j15 j2 (0 : Int64) (0 : Int64)))), .val (.long (j15 / (60000000 : Int64))), .second, .unset] [(.int (lcmpW j15 (0 : Int64)))])) _
      refine XS.ifNo X4.here hx rfl (hb hby at_148) rfl ((if0 _ _).trans (tlt ((lw_lt _ _).mpr hc148)).2.1) ?_
      show Steps p.tables e below (T4.setTop (mkF m 151 #[.val (.long j0), .second, .val (.long j2), .second, .val (.long j4), .second, .val (.long j6), .second, .val (.long j8), .second, .val (.int i10), .val (.long j11), .second, .val (.long j13), .second, .val (.long j15), .second, .val (.long j17), .second, .val (.ref b3), .val (.ref b2), .val (.int (own_f5_0 j17 (own_o1_burstTokens v2 v1 u0 w_burstTokens_b3 w_tokensPerMinute_b3 w_heldAcrossLoss_b3) (own_o4_levelUnits j15 j2 (0 : Int64) (0 : Int64)))), .val (.long (j15 / (60000000 : Int64))), .second, .unset] [])) _
      refine XS.lload X4.here hx rfl (hb hby at_151) rfl ?_
      show Steps p.tables e below (T4.setTop (mkF m 153 #[.val (.long j0), .second, .val (.long j2), .second, .val (.long j4), .second, .val (.long j6), .second, .val (.long j8), .second, .val (.int i10), .val (.long j11), .second, .val (.long j13), .second, .val (.long j15), .second, .val (.long j17), .second, .val (.ref b3), .val (.ref b2), .val (.int (own_f5_0 j17 (own_o1_burstTokens v2 v1 u0 w_burstTokens_b3 w_tokensPerMinute_b3 w_heldAcrossLoss_b3) (own_o4_levelUnits j15 j2 (0 : Int64) (0 : Int64)))), .val (.long (j15 / (60000000 : Int64))), .second, .unset] [(.long (j15 / (60000000 : Int64)))])) _
      refine X4.ldc2Long hx hown (mvT hZ (hw _ (List.mem_of_getElem? (i := 2) rfl))) (g := (mkF m 153 #[.val (.long j0), .second, .val (.long j2), .second, .val (.long j4), .second, .val (.long j6), .second, .val (.long j8), .second, .val (.int i10), .val (.long j11), .second, .val (.long j13), .second, .val (.long j15), .second, .val (.long j17), .second, .val (.ref b3), .val (.ref b2), .val (.int (own_f5_0 j17 (own_o1_burstTokens v2 v1 u0 w_burstTokens_b3 w_tokensPerMinute_b3 w_heldAcrossLoss_b3) (own_o4_levelUnits j15 j2 (0 : Int64) (0 : Int64)))), .val (.long (j15 / (60000000 : Int64))), .second, .unset] [(.long (j15 / (60000000 : Int64)))])) rfl (hb hby at_153) _ ?_
      show Steps p.tables e below (T4.setTop (mkF m 156 #[.val (.long j0), .second, .val (.long j2), .second, .val (.long j4), .second, .val (.long j6), .second, .val (.long j8), .second, .val (.int i10), .val (.long j11), .second, .val (.long j13), .second, .val (.long j15), .second, .val (.long j17), .second, .val (.ref b3), .val (.ref b2), .val (.int (own_f5_0 j17 (own_o1_burstTokens v2 v1 u0 w_burstTokens_b3 w_tokensPerMinute_b3 w_heldAcrossLoss_b3) (own_o4_levelUnits j15 j2 (0 : Int64) (0 : Int64)))), .val (.long (j15 / (60000000 : Int64))), .second, .unset] [(.long (60000000 : Int64)), (.long (j15 / (60000000 : Int64)))])) _
      refine XS.lmul X4.here hx rfl (hb hby at_156) rfl ?_
      show Steps p.tables e below (T4.setTop (mkF m 157 #[.val (.long j0), .second, .val (.long j2), .second, .val (.long j4), .second, .val (.long j6), .second, .val (.long j8), .second, .val (.int i10), .val (.long j11), .second, .val (.long j13), .second, .val (.long j15), .second, .val (.long j17), .second, .val (.ref b3), .val (.ref b2), .val (.int (own_f5_0 j17 (own_o1_burstTokens v2 v1 u0 w_burstTokens_b3 w_tokensPerMinute_b3 w_heldAcrossLoss_b3) (own_o4_levelUnits j15 j2 (0 : Int64) (0 : Int64)))), .val (.long (j15 / (60000000 : Int64))), .second, .unset] [(.long ((j15 / (60000000 : Int64)) * (60000000 : Int64)))])) _
      refine XS.lload X4.here hx rfl (hb hby at_157) rfl ?_
      show Steps p.tables e below (T4.setTop (mkF m 159 #[.val (.long j0), .second, .val (.long j2), .second, .val (.long j4), .second, .val (.long j6), .second, .val (.long j8), .second, .val (.int i10), .val (.long j11), .second, .val (.long j13), .second, .val (.long j15), .second, .val (.long j17), .second, .val (.ref b3), .val (.ref b2), .val (.int (own_f5_0 j17 (own_o1_burstTokens v2 v1 u0 w_burstTokens_b3 w_tokensPerMinute_b3 w_heldAcrossLoss_b3) (own_o4_levelUnits j15 j2 (0 : Int64) (0 : Int64)))), .val (.long (j15 / (60000000 : Int64))), .second, .unset] [(.long j15), (.long ((j15 / (60000000 : Int64)) * (60000000 : Int64)))])) _
      refine XS.lcmp X4.here hx rfl (hb hby at_159) rfl ?_
      exact kt
    by_cases hc160 : ((j15 / (60000000 : Int64)) * (60000000 : Int64)) = j15
    · have pre7 : ∀ target, Steps p.tables e below (T4.setTop (mkF m 169 #[.val (.long j0), .second, .val (.long j2), .second, .val (.long j4), .second, .val (.long j6), .second, .val (.long j8), .second, .val (.int i10), .val (.long j11), .second, .val (.long j13), .second, .val (.long j15), .second, .val (.long j17), .second, .val (.ref b3), .val (.ref b2), .val (.int (own_f5_0 j17 (own_o1_burstTokens v2 v1 u0 w_burstTokens_b3 w_tokensPerMinute_b3 w_heldAcrossLoss_b3) (own_o4_levelUnits j15 j2 (0 : Int64) (0 : Int64)))), .val (.long (j15 / (60000000 : Int64))), .second, .unset] [])) target → Steps p.tables e below (T0.setTop (mkF m 108 #[.val (.long j0), .second, .val (.long j2), .second, .val (.long j4), .second, .val (.long j6), .second, .val (.long j8), .second, .val (.int i10), .val (.long j11), .second, .val (.long j13), .second, .val (.long j15), .second, .val (.long j17), .second, .unset, .unset, .unset, .unset, .unset, .unset] [(.int u0), (.long v1), (.long v2), (.ref b3), (.ref b3)])) target := by
        intro target kt
        refine pre6 target ?_
        show Steps p.tables e below (T4.setTop (mkF m 160 #[.val (.long j0), .second, .val (.long j2), .second, .val (.long j4), .second, .val (.long j6), .second, .val (.long j8), .second, .val (.int i10), .val (.long j11), .second, .val (.long j13), .second, .val (.long j15), .second, .val (.long j17), .second, .val (.ref b3), .val (.ref b2), .val (.int (own_f5_0 j17 (own_o1_burstTokens v2 v1 u0 w_burstTokens_b3 w_tokensPerMinute_b3 w_heldAcrossLoss_b3) (own_o4_levelUnits j15 j2 (0 : Int64) (0 : Int64)))), .val (.long (j15 / (60000000 : Int64))), .second, .unset] [(.int (lcmpW ((j15 / (60000000 : Int64)) * (60000000 : Int64)) j15))])) _
        refine XS.ifYes X4.here hx rfl (pc0 := 160) (pc' := 169) rfl (hb hby at_160) rfl ((if0 _ _).trans (teq ((lw_eq _ _).mpr hc160)).1) (by decide) (by decide) ?_
        exact kt
      obtain ⟨T8, L8, k8, n8, X8, N8, hk8', hn8, st8⟩ := own_b0_169 hx hZ hw hby hml hown hret j0 j2 j4 j6 j8 i10 j11 j13 j15 j17 b3 b2 (own_f5_0 j17 (own_o1_burstTokens v2 v1 u0 w_burstTokens_b3 w_tokensPerMinute_b3 w_heldAcrossLoss_b3) (own_o4_levelUnits j15 j2 (0 : Int64) (0 : Int64))) (j15 / (60000000 : Int64)) (own_o1_burstTokens v2 v1 u0 w_burstTokens_b3 w_tokensPerMinute_b3 w_heldAcrossLoss_b3) (own_o1_tokensPerMinute v2 v1 u0 w_burstTokens_b3 w_tokensPerMinute_b3 w_heldAcrossLoss_b3) (own_o1_heldAcrossLoss v2 v1 u0 w_burstTokens_b3 w_tokensPerMinute_b3 w_heldAcrossLoss_b3) (own_o4_levelUnits j15 j2 (0 : Int64) (0 : Int64)) (own_o4_updatedMicros j15 j2 (0 : Int64) (0 : Int64)) X4 e4 N3 Z3 g_b3 E_b3_k3 F_burstTokens_b3_k3 F_tokensPerMinute_b3_k3 F_heldAcrossLoss_b3_k3 ne_b3_b2 g_b2 A2_k3 F_levelUnits_b2_k3 F_updatedMicros_b2_k3 
      have hv : (own_f0_108 j0 j2 j4 j6 j8 i10 j11 j13 j15 j17 u0 v1 v2 w_burstTokens_b3 w_tokensPerMinute_b3 w_heldAcrossLoss_b3) = (own_f0_169 j0 j2 j4 j6 j8 i10 j11 j13 j15 j17 (own_f5_0 j17 (own_o1_burstTokens v2 v1 u0 w_burstTokens_b3 w_tokensPerMinute_b3 w_heldAcrossLoss_b3) (own_o4_levelUnits j15 j2 (0 : Int64) (0 : Int64))) (j15 / (60000000 : Int64)) (own_o1_burstTokens v2 v1 u0 w_burstTokens_b3 w_tokensPerMinute_b3 w_heldAcrossLoss_b3) (own_o1_tokensPerMinute v2 v1 u0 w_burstTokens_b3 w_tokensPerMinute_b3 w_heldAcrossLoss_b3) (own_o1_heldAcrossLoss v2 v1 u0 w_burstTokens_b3 w_tokensPerMinute_b3 w_heldAcrossLoss_b3) (own_o4_levelUnits j15 j2 (0 : Int64) (0 : Int64)) (own_o4_updatedMicros j15 j2 (0 : Int64) (0 : Int64))) := by unfold own_f0_108; rw [if_pos hc148, if_pos hc160]
      exact ⟨T8, L8, k8, n8, X8, N8, hk8', hn8, fun fs hr => pre7 _ (st8 fs (by rw [hv] at hr; exact hr))⟩
    · have pre9 : ∀ target, Steps p.tables e below (T4.setTop (mkF m 169 #[.val (.long j0), .second, .val (.long j2), .second, .val (.long j4), .second, .val (.long j6), .second, .val (.long j8), .second, .val (.int i10), .val (.long j11), .second, .val (.long j13), .second, .val (.long j15), .second, .val (.long j17), .second, .val (.ref b3), .val (.ref b2), .val (.int (own_f5_0 j17 (own_o1_burstTokens v2 v1 u0 w_burstTokens_b3 w_tokensPerMinute_b3 w_heldAcrossLoss_b3) (own_o4_levelUnits j15 j2 (0 : Int64) (0 : Int64)))), .val (.long ((j15 / (60000000 : Int64)) - (1 : Int64))), .second, .unset] [])) target → Steps p.tables e below (T0.setTop (mkF m 108 #[.val (.long j0), .second, .val (.long j2), .second, .val (.long j4), .second, .val (.long j6), .second, .val (.long j8), .second, .val (.int i10), .val (.long j11), .second, .val (.long j13), .second, .val (.long j15), .second, .val (.long j17), .second, .unset, .unset, .unset, .unset, .unset, .unset] [(.int u0), (.long v1), (.long v2), (.ref b3), (.ref b3)])) target := by
        intro target kt
        refine pre6 target ?_
        show Steps p.tables e below (T4.setTop (mkF m 160 #[.val (.long j0), .second, .val (.long j2), .second, .val (.long j4), .second, .val (.long j6), .second, .val (.long j8), .second, .val (.int i10), .val (.long j11), .second, .val (.long j13), .second, .val (.long j15), .second, .val (.long j17), .second, .val (.ref b3), .val (.ref b2), .val (.int (own_f5_0 j17 (own_o1_burstTokens v2 v1 u0 w_burstTokens_b3 w_tokensPerMinute_b3 w_heldAcrossLoss_b3) (own_o4_levelUnits j15 j2 (0 : Int64) (0 : Int64)))), .val (.long (j15 / (60000000 : Int64))), .second, .unset] [(.int (lcmpW ((j15 / (60000000 : Int64)) * (60000000 : Int64)) j15))])) _
        refine XS.ifNo X4.here hx rfl (hb hby at_160) rfl ((if0 _ _).trans (feq (mt (lw_eq _ _).mp hc160)).1) ?_
        show Steps p.tables e below (T4.setTop (mkF m 163 #[.val (.long j0), .second, .val (.long j2), .second, .val (.long j4), .second, .val (.long j6), .second, .val (.long j8), .second, .val (.int i10), .val (.long j11), .second, .val (.long j13), .second, .val (.long j15), .second, .val (.long j17), .second, .val (.ref b3), .val (.ref b2), .val (.int (own_f5_0 j17 (own_o1_burstTokens v2 v1 u0 w_burstTokens_b3 w_tokensPerMinute_b3 w_heldAcrossLoss_b3) (own_o4_levelUnits j15 j2 (0 : Int64) (0 : Int64)))), .val (.long (j15 / (60000000 : Int64))), .second, .unset] [])) _
        refine XS.lload X4.here hx rfl (hb hby at_163) rfl ?_
        show Steps p.tables e below (T4.setTop (mkF m 165 #[.val (.long j0), .second, .val (.long j2), .second, .val (.long j4), .second, .val (.long j6), .second, .val (.long j8), .second, .val (.int i10), .val (.long j11), .second, .val (.long j13), .second, .val (.long j15), .second, .val (.long j17), .second, .val (.ref b3), .val (.ref b2), .val (.int (own_f5_0 j17 (own_o1_burstTokens v2 v1 u0 w_burstTokens_b3 w_tokensPerMinute_b3 w_heldAcrossLoss_b3) (own_o4_levelUnits j15 j2 (0 : Int64) (0 : Int64)))), .val (.long (j15 / (60000000 : Int64))), .second, .unset] [(.long (j15 / (60000000 : Int64)))])) _
        refine XS.lconst X4.here hx rfl (hb hby at_165) ?_
        show Steps p.tables e below (T4.setTop (mkF m 166 #[.val (.long j0), .second, .val (.long j2), .second, .val (.long j4), .second, .val (.long j6), .second, .val (.long j8), .second, .val (.int i10), .val (.long j11), .second, .val (.long j13), .second, .val (.long j15), .second, .val (.long j17), .second, .val (.ref b3), .val (.ref b2), .val (.int (own_f5_0 j17 (own_o1_burstTokens v2 v1 u0 w_burstTokens_b3 w_tokensPerMinute_b3 w_heldAcrossLoss_b3) (own_o4_levelUnits j15 j2 (0 : Int64) (0 : Int64)))), .val (.long (j15 / (60000000 : Int64))), .second, .unset] [(.long (1 : Int64)), (.long (j15 / (60000000 : Int64)))])) _
        refine XS.lsub X4.here hx rfl (hb hby at_166) rfl ?_
        show Steps p.tables e below (T4.setTop (mkF m 167 #[.val (.long j0), .second, .val (.long j2), .second, .val (.long j4), .second, .val (.long j6), .second, .val (.long j8), .second, .val (.int i10), .val (.long j11), .second, .val (.long j13), .second, .val (.long j15), .second, .val (.long j17), .second, .val (.ref b3), .val (.ref b2), .val (.int (own_f5_0 j17 (own_o1_burstTokens v2 v1 u0 w_burstTokens_b3 w_tokensPerMinute_b3 w_heldAcrossLoss_b3) (own_o4_levelUnits j15 j2 (0 : Int64) (0 : Int64)))), .val (.long (j15 / (60000000 : Int64))), .second, .unset] [(.long ((j15 / (60000000 : Int64)) - (1 : Int64)))])) _
        refine XS.lstore X4.here hx rfl (hb hby at_167) rfl (l' := #[.val (.long j0), .second, .val (.long j2), .second, .val (.long j4), .second, .val (.long j6), .second, .val (.long j8), .second, .val (.int i10), .val (.long j11), .second, .val (.long j13), .second, .val (.long j15), .second, .val (.long j17), .second, .val (.ref b3), .val (.ref b2), .val (.int (own_f5_0 j17 (own_o1_burstTokens v2 v1 u0 w_burstTokens_b3 w_tokensPerMinute_b3 w_heldAcrossLoss_b3) (own_o4_levelUnits j15 j2 (0 : Int64) (0 : Int64)))), .val (.long ((j15 / (60000000 : Int64)) - (1 : Int64))), .second, .unset]) rfl ?_
        exact kt
      obtain ⟨T10, L10, k10, n10, X10, N10, hk10', hn10, st10⟩ := own_b0_169 hx hZ hw hby hml hown hret j0 j2 j4 j6 j8 i10 j11 j13 j15 j17 b3 b2 (own_f5_0 j17 (own_o1_burstTokens v2 v1 u0 w_burstTokens_b3 w_tokensPerMinute_b3 w_heldAcrossLoss_b3) (own_o4_levelUnits j15 j2 (0 : Int64) (0 : Int64))) ((j15 / (60000000 : Int64)) - (1 : Int64)) (own_o1_burstTokens v2 v1 u0 w_burstTokens_b3 w_tokensPerMinute_b3 w_heldAcrossLoss_b3) (own_o1_tokensPerMinute v2 v1 u0 w_burstTokens_b3 w_tokensPerMinute_b3 w_heldAcrossLoss_b3) (own_o1_heldAcrossLoss v2 v1 u0 w_burstTokens_b3 w_tokensPerMinute_b3 w_heldAcrossLoss_b3) (own_o4_levelUnits j15 j2 (0 : Int64) (0 : Int64)) (own_o4_updatedMicros j15 j2 (0 : Int64) (0 : Int64)) X4 e4 N3 Z3 g_b3 E_b3_k3 F_burstTokens_b3_k3 F_tokensPerMinute_b3_k3 F_heldAcrossLoss_b3_k3 ne_b3_b2 g_b2 A2_k3 F_levelUnits_b2_k3 F_updatedMicros_b2_k3 
      have hv : (own_f0_108 j0 j2 j4 j6 j8 i10 j11 j13 j15 j17 u0 v1 v2 w_burstTokens_b3 w_tokensPerMinute_b3 w_heldAcrossLoss_b3) = (own_f0_169 j0 j2 j4 j6 j8 i10 j11 j13 j15 j17 (own_f5_0 j17 (own_o1_burstTokens v2 v1 u0 w_burstTokens_b3 w_tokensPerMinute_b3 w_heldAcrossLoss_b3) (own_o4_levelUnits j15 j2 (0 : Int64) (0 : Int64))) ((j15 / (60000000 : Int64)) - (1 : Int64)) (own_o1_burstTokens v2 v1 u0 w_burstTokens_b3 w_tokensPerMinute_b3 w_heldAcrossLoss_b3) (own_o1_tokensPerMinute v2 v1 u0 w_burstTokens_b3 w_tokensPerMinute_b3 w_heldAcrossLoss_b3) (own_o1_heldAcrossLoss v2 v1 u0 w_burstTokens_b3 w_tokensPerMinute_b3 w_heldAcrossLoss_b3) (own_o4_levelUnits j15 j2 (0 : Int64) (0 : Int64)) (own_o4_updatedMicros j15 j2 (0 : Int64) (0 : Int64))) := by unfold own_f0_108; rw [if_pos hc148, if_neg hc160]
      exact ⟨T10, L10, k10, n10, X10, N10, hk10', hn10, fun fs hr => pre9 _ (st10 fs (by rw [hv] at hr; exact hr))⟩
  · have pre11 : ∀ target, Steps p.tables e below (T4.setTop (mkF m 169 #[.val (.long j0), .second, .val (.long j2), .second, .val (.long j4), .second, .val (.long j6), .second, .val (.long j8), .second, .val (.int i10), .val (.long j11), .second, .val (.long j13), .second, .val (.long j15), .second, .val (.long j17), .second, .val (.ref b3), .val (.ref b2), .val (.int (own_f5_0 j17 (own_o1_burstTokens v2 v1 u0 w_burstTokens_b3 w_tokensPerMinute_b3 w_heldAcrossLoss_b3) (own_o4_levelUnits j15 j2 (0 : Int64) (0 : Int64)))), .val (.long (j15 / (60000000 : Int64))), .second, .unset] [])) target → Steps p.tables e below (T0.setTop (mkF m 108 #[.val (.long j0), .second, .val (.long j2), .second, .val (.long j4), .second, .val (.long j6), .second, .val (.long j8), .second, .val (.int i10), .val (.long j11), .second, .val (.long j13), .second, .val (.long j15), .second, .val (.long j17), .second, .unset, .unset, .unset, .unset, .unset, .unset] [(.int u0), (.long v1), (.long v2), (.ref b3), (.ref b3)])) target := by
      intro target kt
      refine pre5 target ?_
      show Steps p.tables e below (T4.setTop (mkF m 148 #[.val (.long j0), .second, .val (.long j2), .second, .val (.long j4), .second, .val (.long j6), .second, .val (.long j8), .second, .val (.int i10), .val (.long j11), .second, .val (.long j13), .second, .val (.long j15), .second, .val (.long j17), .second, .val (.ref b3), .val (.ref b2), .val (.int (own_f5_0 j17 (own_o1_burstTokens v2 v1 u0 w_burstTokens_b3 w_tokensPerMinute_b3 w_heldAcrossLoss_b3) (own_o4_levelUnits j15 j2 (0 : Int64) (0 : Int64)))), .val (.long (j15 / (60000000 : Int64))), .second, .unset] [(.int (lcmpW j15 (0 : Int64)))])) _
      refine XS.ifYes X4.here hx rfl (pc0 := 148) (pc' := 169) rfl (hb hby at_148) rfl ((if0 _ _).trans (flt (mt (lw_lt _ _).mp hc148)).2.1) (by decide) (by decide) ?_
      exact kt
    obtain ⟨T12, L12, k12, n12, X12, N12, hk12', hn12, st12⟩ := own_b0_169 hx hZ hw hby hml hown hret j0 j2 j4 j6 j8 i10 j11 j13 j15 j17 b3 b2 (own_f5_0 j17 (own_o1_burstTokens v2 v1 u0 w_burstTokens_b3 w_tokensPerMinute_b3 w_heldAcrossLoss_b3) (own_o4_levelUnits j15 j2 (0 : Int64) (0 : Int64))) (j15 / (60000000 : Int64)) (own_o1_burstTokens v2 v1 u0 w_burstTokens_b3 w_tokensPerMinute_b3 w_heldAcrossLoss_b3) (own_o1_tokensPerMinute v2 v1 u0 w_burstTokens_b3 w_tokensPerMinute_b3 w_heldAcrossLoss_b3) (own_o1_heldAcrossLoss v2 v1 u0 w_burstTokens_b3 w_tokensPerMinute_b3 w_heldAcrossLoss_b3) (own_o4_levelUnits j15 j2 (0 : Int64) (0 : Int64)) (own_o4_updatedMicros j15 j2 (0 : Int64) (0 : Int64)) X4 e4 N3 Z3 g_b3 E_b3_k3 F_burstTokens_b3_k3 F_tokensPerMinute_b3_k3 F_heldAcrossLoss_b3_k3 ne_b3_b2 g_b2 A2_k3 F_levelUnits_b2_k3 F_updatedMicros_b2_k3 
    have hv : (own_f0_108 j0 j2 j4 j6 j8 i10 j11 j13 j15 j17 u0 v1 v2 w_burstTokens_b3 w_tokensPerMinute_b3 w_heldAcrossLoss_b3) = (own_f0_169 j0 j2 j4 j6 j8 i10 j11 j13 j15 j17 (own_f5_0 j17 (own_o1_burstTokens v2 v1 u0 w_burstTokens_b3 w_tokensPerMinute_b3 w_heldAcrossLoss_b3) (own_o4_levelUnits j15 j2 (0 : Int64) (0 : Int64))) (j15 / (60000000 : Int64)) (own_o1_burstTokens v2 v1 u0 w_burstTokens_b3 w_tokensPerMinute_b3 w_heldAcrossLoss_b3) (own_o1_tokensPerMinute v2 v1 u0 w_burstTokens_b3 w_tokensPerMinute_b3 w_heldAcrossLoss_b3) (own_o1_heldAcrossLoss v2 v1 u0 w_burstTokens_b3 w_tokensPerMinute_b3 w_heldAcrossLoss_b3) (own_o4_levelUnits j15 j2 (0 : Int64) (0 : Int64)) (own_o4_updatedMicros j15 j2 (0 : Int64) (0 : Int64))) := by unfold own_f0_108; rw [if_neg hc148]
    exact ⟨T12, L12, k12, n12, X12, N12, hk12', hn12, fun fs hr => pre11 _ (st12 fs (by rw [hv] at hr; exact hr))⟩
set_option maxRecDepth 65536 in
set_option maxHeartbeats 40000000 in
theorem own_b0_88 {p : Program} {l : Launch} {e : Env} {s : State} {m : MethodId} {args : Array Value} {below : List Frame} {meth : Method} {c : Code} {Z : State} {a0_ : Array Value} {n0 : Nat} (hx : p.tables.exec = Jvm.exec) (hZ : Z.Warmed39 s.vm) (hw : ∀ d ∈ tables_1, d.before a0_ Z = true) (hby : c.code = code) (hml : c.maxLocals = 25) (hown : s.vm.findClass "com/example/refill/refill/core/store/TokenBucketHoldsPinLaw" = some m.cls) (hret : meth.sig.returnType = some .boolean) {T0 : State} {locs : List Loc} {h0 : Heap} (j0 : Int64) (j2 : Int64) (j4 : Int64) (j6 : Int64) (j8 : Int64) (i10 : Int32) (j11 : Int64) (j13 : Int64) (j15 : Int64) (j17 : Int64)
    (X0 : Stand p l e room_1 s m args below meth c T0 locs 0 0) (e0 : T0.heap = h0) (N0 : Fr n0 locs) (Z0 : n0 ≤ h0.size)  :
    ∃ T' locs' cells' slots', Stand p l e room_1 s m args below meth c T' locs' cells' slots' ∧ Fr n0 locs' ∧ cells' ≤ room_1.cells ∧ slots' ≤ room_1.slots ∧ ∀ fs, (∀ (f : JFrame) (acts : List Action), f.method = m → f.locked = none → f.entered = [] → (doReturn e (T'.setTop f) acts (some (.int (own_f0_88 j0 j2 j4 j6 j8 i10 j11 j13 j15 j17)))).1 = T'.setFrames fs) → Steps p.tables e below (T0.setTop (mkF m 88 #[.val (.long j0), .second, .val (.long j2), .second, .val (.long j4), .second, .val (.long j6), .second, .val (.long j8), .second, .val (.int i10), .val (.long j11), .second, .val (.long j13), .second, .val (.long j15), .second, .val (.long j17), .second, .unset, .unset, .unset, .unset, .unset, .unset] [])) (T'.setFrames fs) := by
  obtain ⟨T1, h1, X1, e1, E1, A1, D1, -, st1⟩ := newO X0 hx hZ hown (hw _ (List.mem_of_getElem? (i := 3) rfl)) (hw _ (List.mem_of_getElem? (i := 4) rfl)) (hw _ (List.mem_of_getElem? (i := 5) rfl)) e0 (g := (mkF m 88 #[.val (.long j0), .second, .val (.long j2), .second, .val (.long j4), .second, .val (.long j6), .second, .val (.long j8), .second, .val (.int i10), .val (.long j11), .second, .val (.long j13), .second, .val (.long j15), .second, .val (.long j17), .second, .unset, .unset, .unset, .unset, .unset, .unset] [])) rfl (hb hby at_88) (by decide) (by decide)
  obtain ⟨b1, g1⟩ : ∃ z, z = h0.size := ⟨_, rfl⟩
  rw [← g1] at A1 D1 st1
  have g_b1 : n0 ≤ b1 := Nat.le_trans Z0 (Nat.le_of_eq g1.symm)
  have Z1 : n0 ≤ h1.size := Nat.le_trans Z0 E1.1
  have F_burstTokens_b1 : Fld Z h1 b1 "com/example/refill/refill/core/store/BucketLimits" "burstTokens" "J" (.long (0 : Int64)) := D1 (Or.inr (hw _ (List.mem_of_getElem? (i := 18) rfl))) (ty := .long) (by decide)
  have F_tokensPerMinute_b1 : Fld Z h1 b1 "com/example/refill/refill/core/store/BucketLimits" "tokensPerMinute" "J" (.long (0 : Int64)) := D1 (Or.inr (hw _ (List.mem_of_getElem? (i := 20) rfl))) (ty := .long) (by decide)
  have F_heldAcrossLoss_b1 : Fld Z h1 b1 "com/example/refill/refill/core/store/BucketLimits" "heldAcrossLoss" "Z" (.int (0 : Int32)) := D1 (Or.inr (hw _ (List.mem_of_getElem? (i := 22) rfl))) (ty := .boolean) (by decide)
  have pre2 : ∀ target, Steps p.tables e below (T1.setTop (mkF m 100 #[.val (.long j0), .second, .val (.long j2), .second, .val (.long j4), .second, .val (.long j6), .second, .val (.long j8), .second, .val (.int i10), .val (.long j11), .second, .val (.long j13), .second, .val (.long j15), .second, .val (.long j17), .second, .unset, .unset, .unset, .unset, .unset, .unset] [(.int (i10 &&& (1 : Int32))), (.long j8), (.long j11), (.ref b1), (.ref b1)])) target → Steps p.tables e below (T0.setTop (mkF m 88 #[.val (.long j0), .second, .val (.long j2), .second, .val (.long j4), .second, .val (.long j6), .second, .val (.long j8), .second, .val (.int i10), .val (.long j11), .second, .val (.long j13), .second, .val (.long j15), .second, .val (.long j17), .second, .unset, .unset, .unset, .unset, .unset, .unset] [])) target := by
    intro target kt
    show Steps p.tables e below (T0.setTop (mkF m 88 #[.val (.long j0), .second, .val (.long j2), .second, .val (.long j4), .second, .val (.long j6), .second, .val (.long j8), .second, .val (.int i10), .val (.long j11), .second, .val (.long j13), .second, .val (.long j15), .second, .val (.long j17), .second, .unset, .unset, .unset, .unset, .unset, .unset] [])) _
    refine st1 _ ?_
    show Steps p.tables e below (T1.setTop (mkF m 91 #[.val (.long j0), .second, .val (.long j2), .second, .val (.long j4), .second, .val (.long j6), .second, .val (.long j8), .second, .val (.int i10), .val (.long j11), .second, .val (.long j13), .second, .val (.long j15), .second, .val (.long j17), .second, .unset, .unset, .unset, .unset, .unset, .unset] [(.ref b1)])) _
    refine XS.dup X1.here hx rfl (hb hby at_91) rfl rfl ?_
    show Steps p.tables e below (T1.setTop (mkF m 92 #[.val (.long j0), .second, .val (.long j2), .second, .val (.long j4), .second, .val (.long j6), .second, .val (.long j8), .second, .val (.int i10), .val (.long j11), .second, .val (.long j13), .second, .val (.long j15), .second, .val (.long j17), .second, .unset, .unset, .unset, .unset, .unset, .unset] [(.ref b1), (.ref b1)])) _
    refine XS.lload X1.here hx rfl (hb hby at_92) rfl ?_
    show Steps p.tables e below (T1.setTop (mkF m 94 #[.val (.long j0), .second, .val (.long j2), .second, .val (.long j4), .second, .val (.long j6), .second, .val (.long j8), .second, .val (.int i10), .val (.long j11), .second, .val (.long j13), .second, .val (.long j15), .second, .val (.long j17), .second, .unset, .unset, .unset, .unset, .unset, .unset] [(.long j11), (.ref b1), (.ref b1)])) _
    refine XS.lload X1.here hx rfl (hb hby at_94) rfl ?_
    show Steps p.tables e below (T1.setTop (mkF m 96 #[.val (.long j0), .second, .val (.long j2), .second, .val (.long j4), .second, .val (.long j6), .second, .val (.long j8), .second, .val (.int i10), .val (.long j11), .second, .val (.long j13), .second, .val (.long j15), .second, .val (.long j17), .second, .unset, .unset, .unset, .unset, .unset, .unset] [(.long j8), (.long j11), (.ref b1), (.ref b1)])) _
    refine XS.iload X1.here hx rfl (hb hby at_96) rfl ?_
    show Steps p.tables e below (T1.setTop (mkF m 98 #[.val (.long j0), .second, .val (.long j2), .second, .val (.long j4), .second, .val (.long j6), .second, .val (.long j8), .second, .val (.int i10), .val (.long j11), .second, .val (.long j13), .second, .val (.long j15), .second, .val (.long j17), .second, .unset, .unset, .unset, .unset, .unset, .unset] [(.int i10), (.long j8), (.long j11), (.ref b1), (.ref b1)])) _
    refine XS.iconst X1.here hx rfl (hb hby at_98) ?_
    show Steps p.tables e below (T1.setTop (mkF m 99 #[.val (.long j0), .second, .val (.long j2), .second, .val (.long j4), .second, .val (.long j6), .second, .val (.long j8), .second, .val (.int i10), .val (.long j11), .second, .val (.long j13), .second, .val (.long j15), .second, .val (.long j17), .second, .unset, .unset, .unset, .unset, .unset, .unset] [(.int (1 : Int32)), (.int i10), (.long j8), (.long j11), (.ref b1), (.ref b1)])) _
    refine XS.iand X1.here hx rfl (hb hby at_99) rfl ?_
    exact kt
  by_cases hc100 : (i10 &&& (1 : Int32)) = (0 : Int32)
  · have pre3 : ∀ target, Steps p.tables e below (T1.setTop (mkF m 108 #[.val (.long j0), .second, .val (.long j2), .second, .val (.long j4), .second, .val (.long j6), .second, .val (.long j8), .second, .val (.int i10), .val (.long j11), .second, .val (.long j13), .second, .val (.long j15), .second, .val (.long j17), .second, .unset, .unset, .unset, .unset, .unset, .unset] [(.int (0 : Int32)), (.long j8), (.long j11), (.ref b1), (.ref b1)])) target → Steps p.tables e below (T0.setTop (mkF m 88 #[.val (.long j0), .second, .val (.long j2), .second, .val (.long j4), .second, .val (.long j6), .second, .val (.long j8), .second, .val (.int i10), .val (.long j11), .second, .val (.long j13), .second, .val (.long j15), .second, .val (.long j17), .second, .unset, .unset, .unset, .unset, .unset, .unset] [])) target := by
      intro target kt
      refine pre2 target ?_
      show Steps p.tables e below (T1.setTop (mkF m 100 #[.val (.long j0), .second, .val (.long j2), .second, .val (.long j4), .second, .val (.long j6), .second, .val (.long j8), .second, .val (.int i10), .val (.long j11), .second, .val (.long j13), .second, .val (.long j15), .second, .val (.long j17), .second, .unset, .unset, .unset, .unset, .unset, .unset] [(.int (i10 &&& (1 : Int32))), (.long j8), (.long j11), (.ref b1), (.ref b1)])) _
      refine XS.ifYes X1.here hx rfl (pc0 := 100) (pc' := 107) rfl (hb hby at_100) rfl ((if0 _ _).trans (teq hc100).1) (by decide) (by decide) ?_
      show Steps p.tables e below (T1.setTop (mkF m 107 #[.val (.long j0), .second, .val (.long j2), .second, .val (.long j4), .second, .val (.long j6), .second, .val (.long j8), .second, .val (.int i10), .val (.long j11), .second, .val (.long j13), .second, .val (.long j15), .second, .val (.long j17), .second, .unset, .unset, .unset, .unset, .unset, .unset] [(.long j8), (.long j11), (.ref b1), (.ref b1)])) _
      refine XS.iconst X1.here hx rfl (hb hby at_107) ?_
      exact kt
    obtain ⟨T4, L4, k4, n4, X4, N4, hk4', hn4, st4⟩ := own_b0_108 hx hZ hw hby hml hown hret j0 j2 j4 j6 j8 i10 j11 j13 j15 j17 (0 : Int32) j8 j11 b1 (0 : Int64) (0 : Int64) (0 : Int32) X1 e1 N0 Z1 g_b1 A1 F_burstTokens_b1 F_tokensPerMinute_b1 F_heldAcrossLoss_b1 
    have hv : (own_f0_88 j0 j2 j4 j6 j8 i10 j11 j13 j15 j17) = (own_f0_108 j0 j2 j4 j6 j8 i10 j11 j13 j15 j17 (0 : Int32) j8 j11 (0 : Int64) (0 : Int64) (0 : Int32)) := by unfold own_f0_88; rw [if_pos hc100]
    exact ⟨T4, L4, k4, n4, X4, N4, hk4', hn4, fun fs hr => pre3 _ (st4 fs (by rw [hv] at hr; exact hr))⟩
  · have pre5 : ∀ target, Steps p.tables e below (T1.setTop (mkF m 108 #[.val (.long j0), .second, .val (.long j2), .second, .val (.long j4), .second, .val (.long j6), .second, .val (.long j8), .second, .val (.int i10), .val (.long j11), .second, .val (.long j13), .second, .val (.long j15), .second, .val (.long j17), .second, .unset, .unset, .unset, .unset, .unset, .unset] [(.int (1 : Int32)), (.long j8), (.long j11), (.ref b1), (.ref b1)])) target → Steps p.tables e below (T0.setTop (mkF m 88 #[.val (.long j0), .second, .val (.long j2), .second, .val (.long j4), .second, .val (.long j6), .second, .val (.long j8), .second, .val (.int i10), .val (.long j11), .second, .val (.long j13), .second, .val (.long j15), .second, .val (.long j17), .second, .unset, .unset, .unset, .unset, .unset, .unset] [])) target := by
      intro target kt
      refine pre2 target ?_
      show Steps p.tables e below (T1.setTop (mkF m 100 #[.val (.long j0), .second, .val (.long j2), .second, .val (.long j4), .second, .val (.long j6), .second, .val (.long j8), .second, .val (.int i10), .val (.long j11), .second, .val (.long j13), .second, .val (.long j15), .second, .val (.long j17), .second, .unset, .unset, .unset, .unset, .unset, .unset] [(.int (i10 &&& (1 : Int32))), (.long j8), (.long j11), (.ref b1), (.ref b1)])) _
      refine XS.ifNo X1.here hx rfl (hb hby at_100) rfl ((if0 _ _).trans (feq hc100).1) ?_
      show Steps p.tables e below (T1.setTop (mkF m 103 #[.val (.long j0), .second, .val (.long j2), .second, .val (.long j4), .second, .val (.long j6), .second, .val (.long j8), .second, .val (.int i10), .val (.long j11), .second, .val (.long j13), .second, .val (.long j15), .second, .val (.long j17), .second, .unset, .unset, .unset, .unset, .unset, .unset] [(.long j8), (.long j11), (.ref b1), (.ref b1)])) _
      refine XS.iconst X1.here hx rfl (hb hby at_103) ?_
      show Steps p.tables e below (T1.setTop (mkF m 104 #[.val (.long j0), .second, .val (.long j2), .second, .val (.long j4), .second, .val (.long j6), .second, .val (.long j8), .second, .val (.int i10), .val (.long j11), .second, .val (.long j13), .second, .val (.long j15), .second, .val (.long j17), .second, .unset, .unset, .unset, .unset, .unset, .unset] [(.int (1 : Int32)), (.long j8), (.long j11), (.ref b1), (.ref b1)])) _
      refine XS.goto X1.here hx rfl (pc0 := 104) (pc' := 108) rfl (hb hby at_104) (by decide) (by decide) ?_
      exact kt
    obtain ⟨T6, L6, k6, n6, X6, N6, hk6', hn6, st6⟩ := own_b0_108 hx hZ hw hby hml hown hret j0 j2 j4 j6 j8 i10 j11 j13 j15 j17 (1 : Int32) j8 j11 b1 (0 : Int64) (0 : Int64) (0 : Int32) X1 e1 N0 Z1 g_b1 A1 F_burstTokens_b1 F_tokensPerMinute_b1 F_heldAcrossLoss_b1 
    have hv : (own_f0_88 j0 j2 j4 j6 j8 i10 j11 j13 j15 j17) = (own_f0_108 j0 j2 j4 j6 j8 i10 j11 j13 j15 j17 (1 : Int32) j8 j11 (0 : Int64) (0 : Int64) (0 : Int32)) := by unfold own_f0_88; rw [if_neg hc100]
    exact ⟨T6, L6, k6, n6, X6, N6, hk6', hn6, fun fs hr => pre5 _ (st6 fs (by rw [hv] at hr; exact hr))⟩
set_option maxRecDepth 65536 in
set_option maxHeartbeats 40000000 in
theorem own_b0_46 {p : Program} {l : Launch} {e : Env} {s : State} {m : MethodId} {args : Array Value} {below : List Frame} {meth : Method} {c : Code} {Z : State} {a0_ : Array Value} {n0 : Nat} (hx : p.tables.exec = Jvm.exec) (hZ : Z.Warmed39 s.vm) (hw : ∀ d ∈ tables_1, d.before a0_ Z = true) (hby : c.code = code) (hml : c.maxLocals = 25) (hown : s.vm.findClass "com/example/refill/refill/core/store/TokenBucketHoldsPinLaw" = some m.cls) (hret : meth.sig.returnType = some .boolean) {T0 : State} {locs : List Loc} {h0 : Heap} (j0 : Int64) (j2 : Int64) (j4 : Int64) (j6 : Int64) (j8 : Int64) (i10 : Int32) (j11 : Int64) (j13 : Int64) (j15 : Int64) (v0 : Int64)
    (X0 : Stand p l e room_1 s m args below meth c T0 locs 0 0) (e0 : T0.heap = h0) (N0 : Fr n0 locs) (Z0 : n0 ≤ h0.size)  :
    ∃ T' locs' cells' slots', Stand p l e room_1 s m args below meth c T' locs' cells' slots' ∧ Fr n0 locs' ∧ cells' ≤ room_1.cells ∧ slots' ≤ room_1.slots ∧ ∀ fs, (∀ (f : JFrame) (acts : List Action), f.method = m → f.locked = none → f.entered = [] → (doReturn e (T'.setTop f) acts (some (.int (own_f0_46 j0 j2 j4 j6 j8 i10 j11 j13 j15 v0)))).1 = T'.setFrames fs) → Steps p.tables e below (T0.setTop (mkF m 46 #[.val (.long j0), .second, .val (.long j2), .second, .val (.long j4), .second, .val (.long j6), .second, .val (.long j8), .second, .val (.int i10), .val (.long j11), .second, .val (.long j13), .second, .val (.long j15), .second, .unset, .unset, .unset, .unset, .unset, .unset, .unset, .unset] [(.long v0)])) (T'.setFrames fs) := by
  have pre1 : ∀ target, Steps p.tables e below (T0.setTop (mkF m 52 #[.val (.long j0), .second, .val (.long j2), .second, .val (.long j4), .second, .val (.long j6), .second, .val (.long j8), .second, .val (.int i10), .val (.long j11), .second, .val (.long j13), .second, .val (.long j15), .second, .val (.long v0), .second, .unset, .unset, .unset, .unset, .unset, .unset] [(.int (i10 &&& (2 : Int32)))])) target → Steps p.tables e below (T0.setTop (mkF m 46 #[.val (.long j0), .second, .val (.long j2), .second, .val (.long j4), .second, .val (.long j6), .second, .val (.long j8), .second, .val (.int i10), .val (.long j11), .second, .val (.long j13), .second, .val (.long j15), .second, .unset, .unset, .unset, .unset, .unset, .unset, .unset, .unset] [(.long v0)])) target := by
    intro target kt
    show Steps p.tables e below (T0.setTop (mkF m 46 #[.val (.long j0), .second, .val (.long j2), .second, .val (.long j4), .second, .val (.long j6), .second, .val (.long j8), .second, .val (.int i10), .val (.long j11), .second, .val (.long j13), .second, .val (.long j15), .second, .unset, .unset, .unset, .unset, .unset, .unset, .unset, .unset] [(.long v0)])) _
    refine XS.lstore X0.here hx rfl (hb hby at_46) rfl (l' := #[.val (.long j0), .second, .val (.long j2), .second, .val (.long j4), .second, .val (.long j6), .second, .val (.long j8), .second, .val (.int i10), .val (.long j11), .second, .val (.long j13), .second, .val (.long j15), .second, .val (.long v0), .second, .unset, .unset, .unset, .unset, .unset, .unset]) rfl ?_
    show Steps p.tables e below (T0.setTop (mkF m 48 #[.val (.long j0), .second, .val (.long j2), .second, .val (.long j4), .second, .val (.long j6), .second, .val (.long j8), .second, .val (.int i10), .val (.long j11), .second, .val (.long j13), .second, .val (.long j15), .second, .val (.long v0), .second, .unset, .unset, .unset, .unset, .unset, .unset] [])) _
    refine XS.iload X0.here hx rfl (hb hby at_48) rfl ?_
    show Steps p.tables e below (T0.setTop (mkF m 50 #[.val (.long j0), .second, .val (.long j2), .second, .val (.long j4), .second, .val (.long j6), .second, .val (.long j8), .second, .val (.int i10), .val (.long j11), .second, .val (.long j13), .second, .val (.long j15), .second, .val (.long v0), .second, .unset, .unset, .unset, .unset, .unset, .unset] [(.int i10)])) _
    refine XS.iconst X0.here hx rfl (hb hby at_50) ?_
    show Steps p.tables e below (T0.setTop (mkF m 51 #[.val (.long j0), .second, .val (.long j2), .second, .val (.long j4), .second, .val (.long j6), .second, .val (.long j8), .second, .val (.int i10), .val (.long j11), .second, .val (.long j13), .second, .val (.long j15), .second, .val (.long v0), .second, .unset, .unset, .unset, .unset, .unset, .unset] [(.int (2 : Int32)), (.int i10)])) _
    refine XS.iand X0.here hx rfl (hb hby at_51) rfl ?_
    exact kt
  by_cases hc52 : (i10 &&& (2 : Int32)) = (0 : Int32)
  · have pre2 : ∀ target, Steps p.tables e below (T0.setTop (mkF m 88 #[.val (.long j0), .second, .val (.long j2), .second, .val (.long j4), .second, .val (.long j6), .second, .val (.long j8), .second, .val (.int i10), .val (.long j11), .second, .val (.long j13), .second, .val (.long j15), .second, .val (.long v0), .second, .unset, .unset, .unset, .unset, .unset, .unset] [])) target → Steps p.tables e below (T0.setTop (mkF m 46 #[.val (.long j0), .second, .val (.long j2), .second, .val (.long j4), .second, .val (.long j6), .second, .val (.long j8), .second, .val (.int i10), .val (.long j11), .second, .val (.long j13), .second, .val (.long j15), .second, .unset, .unset, .unset, .unset, .unset, .unset, .unset, .unset] [(.long v0)])) target := by
      intro target kt
      refine pre1 target ?_
      show Steps p.tables e below (T0.setTop (mkF m 52 #[.val (.long j0), .second, .val (.long j2), .second, .val (.long j4), .second, .val (.long j6), .second, .val (.long j8), .second, .val (.int i10), .val (.long j11), .second, .val (.long j13), .second, .val (.long j15), .second, .val (.long v0), .second, .unset, .unset, .unset, .unset, .unset, .unset] [(.int (i10 &&& (2 : Int32)))])) _
      refine XS.ifYes X0.here hx rfl (pc0 := 52) (pc' := 88) rfl (hb hby at_52) rfl ((if0 _ _).trans (teq hc52).1) (by decide) (by decide) ?_
      exact kt
    obtain ⟨T3, L3, k3, n3, X3, N3, hk3', hn3, st3⟩ := own_b0_88 hx hZ hw hby hml hown hret j0 j2 j4 j6 j8 i10 j11 j13 j15 v0  X0 e0 N0 Z0  
    have hv : (own_f0_46 j0 j2 j4 j6 j8 i10 j11 j13 j15 v0) = (own_f0_88 j0 j2 j4 j6 j8 i10 j11 j13 j15 v0) := by unfold own_f0_46; rw [if_pos hc52]
    exact ⟨T3, L3, k3, n3, X3, N3, hk3', hn3, fun fs hr => pre2 _ (st3 fs (by rw [hv] at hr; exact hr))⟩
  · have pre4 : ∀ target, Steps p.tables e below (T0.setTop (mkF m 60 #[.val (.long j0), .second, .val (.long j2), .second, .val (.long j4), .second, .val (.long j6), .second, .val (.long j8), .second, .val (.int i10), .val (.long j11), .second, .val (.long j13), .second, .val (.long j15), .second, .val (.long v0), .second, .unset, .unset, .unset, .unset, .unset, .unset] [(.int (lcmpW v0 j11))])) target → Steps p.tables e below (T0.setTop (mkF m 46 #[.val (.long j0), .second, .val (.long j2), .second, .val (.long j4), .second, .val (.long j6), .second, .val (.long j8), .second, .val (.int i10), .val (.long j11), .second, .val (.long j13), .second, .val (.long j15), .second, .unset, .unset, .unset, .unset, .unset, .unset, .unset, .unset] [(.long v0)])) target := by
      intro target kt
      refine pre1 target ?_
      show Steps p.tables e below (T0.setTop (mkF m 52 #[.val (.long j0), .second, .val (.long j2), .second, .val (.long j4), .second, .val (.long j6), .second, .val (.long j8), .second, .val (.int i10), .val (.long j11), .second, .val (.long j13), .second, .val (.long j15), .second, .val (.long v0), .second, .unset, .unset, .unset, .unset, .unset, .unset] [(.int (i10 &&& (2 : Int32)))])) _
      refine XS.ifNo X0.here hx rfl (hb hby at_52) rfl ((if0 _ _).trans (feq hc52).1) ?_
      show Steps p.tables e below (T0.setTop (mkF m 55 #[.val (.long j0), .second, .val (.long j2), .second, .val (.long j4), .second, .val (.long j6), .second, .val (.long j8), .second, .val (.int i10), .val (.long j11), .second, .val (.long j13), .second, .val (.long j15), .second, .val (.long v0), .second, .unset, .unset, .unset, .unset, .unset, .unset] [])) _
      refine XS.lload X0.here hx rfl (hb hby at_55) rfl ?_
      show Steps p.tables e below (T0.setTop (mkF m 57 #[.val (.long j0), .second, .val (.long j2), .second, .val (.long j4), .second, .val (.long j6), .second, .val (.long j8), .second, .val (.int i10), .val (.long j11), .second, .val (.long j13), .second, .val (.long j15), .second, .val (.long v0), .second, .unset, .unset, .unset, .unset, .unset, .unset] [(.long v0)])) _
      refine XS.lload X0.here hx rfl (hb hby at_57) rfl ?_
      show Steps p.tables e below (T0.setTop (mkF m 59 #[.val (.long j0), .second, .val (.long j2), .second, .val (.long j4), .second, .val (.long j6), .second, .val (.long j8), .second, .val (.int i10), .val (.long j11), .second, .val (.long j13), .second, .val (.long j15), .second, .val (.long v0), .second, .unset, .unset, .unset, .unset, .unset, .unset] [(.long j11), (.long v0)])) _
      refine XS.lcmp X0.here hx rfl (hb hby at_59) rfl ?_
      exact kt
    by_cases hc60 : j11 < v0
    · have pre5 : ∀ target, Steps p.tables e below (T0.setTop (mkF m 88 #[.val (.long j0), .second, .val (.long j2), .second, .val (.long j4), .second, .val (.long j6), .second, .val (.long j8), .second, .val (.int i10), .val (.long j11), .second, .val (.long j13), .second, .val (.long j15), .second, .val (.long v0), .second, .unset, .unset, .unset, .unset, .unset, .unset] [])) target → Steps p.tables e below (T0.setTop (mkF m 46 #[.val (.long j0), .second, .val (.long j2), .second, .val (.long j4), .second, .val (.long j6), .second, .val (.long j8), .second, .val (.int i10), .val (.long j11), .second, .val (.long j13), .second, .val (.long j15), .second, .unset, .unset, .unset, .unset, .unset, .unset, .unset, .unset] [(.long v0)])) target := by
        intro target kt
        refine pre4 target ?_
        show Steps p.tables e below (T0.setTop (mkF m 60 #[.val (.long j0), .second, .val (.long j2), .second, .val (.long j4), .second, .val (.long j6), .second, .val (.long j8), .second, .val (.int i10), .val (.long j11), .second, .val (.long j13), .second, .val (.long j15), .second, .val (.long v0), .second, .unset, .unset, .unset, .unset, .unset, .unset] [(.int (lcmpW v0 j11))])) _
        refine XS.ifYes X0.here hx rfl (pc0 := 60) (pc' := 88) rfl (hb hby at_60) rfl ((if0 _ _).trans (tlt ((lw_gt _ _).mpr hc60)).2.2.1) (by decide) (by decide) ?_
        exact kt
      obtain ⟨T6, L6, k6, n6, X6, N6, hk6', hn6, st6⟩ := own_b0_88 hx hZ hw hby hml hown hret j0 j2 j4 j6 j8 i10 j11 j13 j15 v0  X0 e0 N0 Z0  
      have hv : (own_f0_46 j0 j2 j4 j6 j8 i10 j11 j13 j15 v0) = (own_f0_88 j0 j2 j4 j6 j8 i10 j11 j13 j15 v0) := by unfold own_f0_46; rw [if_neg hc52, if_pos hc60]
      exact ⟨T6, L6, k6, n6, X6, N6, hk6', hn6, fun fs hr => pre5 _ (st6 fs (by rw [hv] at hr; exact hr))⟩
    · have pre7 : ∀ target, Steps p.tables e below (T0.setTop (mkF m 69 #[.val (.long j0), .second, .val (.long j2), .second, .val (.long j4), .second, .val (.long j6), .second, .val (.long j8), .second, .val (.int i10), .val (.long j11), .second, .val (.long j13), .second, .val (.long j15), .second, .val (.long v0), .second, .unset, .unset, .unset, .unset, .unset, .unset] [(.int (lcmpW v0 (-j11)))])) target → Steps p.tables e below (T0.setTop (mkF m 46 #[.val (.long j0), .second, .val (.long j2), .second, .val (.long j4), .second, .val (.long j6), .second, .val (.long j8), .second, .val (.int i10), .val (.long j11), .second, .val (.long j13), .second, .val (.long j15), .second, .unset, .unset, .unset, .unset, .unset, .unset, .unset, .unset] [(.long v0)])) target := by
        intro target kt
        refine pre4 target ?_
        show Steps p.tables e below (T0.setTop (mkF m 60 #[.val (.long j0), .second, .val (.long j2), .second, .val (.long j4), .second, .val (.long j6), .second, .val (.long j8), .second, .val (.int i10), .val (.long j11), .second, .val (.long j13), .second, .val (.long j15), .second, .val (.long v0), .second, .unset, .unset, .unset, .unset, .unset, .unset] [(.int (lcmpW v0 j11))])) _
        refine XS.ifNo X0.here hx rfl (hb hby at_60) rfl ((if0 _ _).trans (flt (mt (lw_gt _ _).mp hc60)).2.2.1) ?_
        show Steps p.tables e below (T0.setTop (mkF m 63 #[.val (.long j0), .second, .val (.long j2), .second, .val (.long j4), .second, .val (.long j6), .second, .val (.long j8), .second, .val (.int i10), .val (.long j11), .second, .val (.long j13), .second, .val (.long j15), .second, .val (.long v0), .second, .unset, .unset, .unset, .unset, .unset, .unset] [])) _
        refine XS.lload X0.here hx rfl (hb hby at_63) rfl ?_
        show Steps p.tables e below (T0.setTop (mkF m 65 #[.val (.long j0), .second, .val (.long j2), .second, .val (.long j4), .second, .val (.long j6), .second, .val (.long j8), .second, .val (.int i10), .val (.long j11), .second, .val (.long j13), .second, .val (.long j15), .second, .val (.long v0), .second, .unset, .unset, .unset, .unset, .unset, .unset] [(.long v0)])) _
        refine XS.lload X0.here hx rfl (hb hby at_65) rfl ?_
        show Steps p.tables e below (T0.setTop (mkF m 67 #[.val (.long j0), .second, .val (.long j2), .second, .val (.long j4), .second, .val (.long j6), .second, .val (.long j8), .second, .val (.int i10), .val (.long j11), .second, .val (.long j13), .second, .val (.long j15), .second, .val (.long v0), .second, .unset, .unset, .unset, .unset, .unset, .unset] [(.long j11), (.long v0)])) _
        refine XS.lneg X0.here hx rfl (hb hby at_67) rfl ?_
        show Steps p.tables e below (T0.setTop (mkF m 68 #[.val (.long j0), .second, .val (.long j2), .second, .val (.long j4), .second, .val (.long j6), .second, .val (.long j8), .second, .val (.int i10), .val (.long j11), .second, .val (.long j13), .second, .val (.long j15), .second, .val (.long v0), .second, .unset, .unset, .unset, .unset, .unset, .unset] [(.long (-j11)), (.long v0)])) _
        refine XS.lcmp X0.here hx rfl (hb hby at_68) rfl ?_
        exact kt
      by_cases hc69 : (-j11) < v0
      · have pre8 : ∀ target, Steps p.tables e below (T0.setTop (mkF m 88 #[.val (.long j0), .second, .val (.long j2), .second, .val (.long j4), .second, .val (.long j6), .second, .val (.long j8), .second, .val (.int i10), .val (.long j11), .second, .val (.long j13), .second, .val (.long ((v0 * (60000000 : Int64)) - ((((i10.toUInt32 >>> ((2 : Int32) &&& 31).toUInt32).toInt32) &&& (1 : Int32)).toInt64))), .second, .val (.long v0), .second, .unset, .unset, .unset, .unset, .unset, .unset] [])) target → Steps p.tables e below (T0.setTop (mkF m 46 #[.val (.long j0), .second, .val (.long j2), .second, .val (.long j4), .second, .val (.long j6), .second, .val (.long j8), .second, .val (.int i10), .val (.long j11), .second, .val (.long j13), .second, .val (.long j15), .second, .unset, .unset, .unset, .unset, .unset, .unset, .unset, .unset] [(.long v0)])) target := by
          intro target kt
          refine pre7 target ?_
          show Steps p.tables e below (T0.setTop (mkF m 69 #[.val (.long j0), .second, .val (.long j2), .second, .val (.long j4), .second, .val (.long j6), .second, .val (.long j8), .second, .val (.int i10), .val (.long j11), .second, .val (.long j13), .second, .val (.long j15), .second, .val (.long v0), .second, .unset, .unset, .unset, .unset, .unset, .unset] [(.int (lcmpW v0 (-j11)))])) _
          refine XS.ifNo X0.here hx rfl (hb hby at_69) rfl ((if0 _ _).trans (tlt ((lw_gt _ _).mpr hc69)).2.2.2) ?_
          show Steps p.tables e below (T0.setTop (mkF m 72 #[.val (.long j0), .second, .val (.long j2), .second, .val (.long j4), .second, .val (.long j6), .second, .val (.long j8), .second, .val (.int i10), .val (.long j11), .second, .val (.long j13), .second, .val (.long j15), .second, .val (.long v0), .second, .unset, .unset, .unset, .unset, .unset, .unset] [])) _
          refine XS.lload X0.here hx rfl (hb hby at_72) rfl ?_
          show Steps p.tables e below (T0.setTop (mkF m 74 #[.val (.long j0), .second, .val (.long j2), .second, .val (.long j4), .second, .val (.long j6), .second, .val (.long j8), .second, .val (.int i10), .val (.long j11), .second, .val (.long j13), .second, .val (.long j15), .second, .val (.long v0), .second, .unset, .unset, .unset, .unset, .unset, .unset] [(.long v0)])) _
          refine X0.ldc2Long hx hown (mvT hZ (hw _ (List.mem_of_getElem? (i := 2) rfl))) (g := (mkF m 74 #[.val (.long j0), .second, .val (.long j2), .second, .val (.long j4), .second, .val (.long j6), .second, .val (.long j8), .second, .val (.int i10), .val (.long j11), .second, .val (.long j13), .second, .val (.long j15), .second, .val (.long v0), .second, .unset, .unset, .unset, .unset, .unset, .unset] [(.long v0)])) rfl (hb hby at_74) _ ?_
          show Steps p.tables e below (T0.setTop (mkF m 77 #[.val (.long j0), .second, .val (.long j2), .second, .val (.long j4), .second, .val (.long j6), .second, .val (.long j8), .second, .val (.int i10), .val (.long j11), .second, .val (.long j13), .second, .val (.long j15), .second, .val (.long v0), .second, .unset, .unset, .unset, .unset, .unset, .unset] [(.long (60000000 : Int64)), (.long v0)])) _
          refine XS.lmul X0.here hx rfl (hb hby at_77) rfl ?_
          show Steps p.tables e below (T0.setTop (mkF m 78 #[.val (.long j0), .second, .val (.long j2), .second, .val (.long j4), .second, .val (.long j6), .second, .val (.long j8), .second, .val (.int i10), .val (.long j11), .second, .val (.long j13), .second, .val (.long j15), .second, .val (.long v0), .second, .unset, .unset, .unset, .unset, .unset, .unset] [(.long (v0 * (60000000 : Int64)))])) _
          refine XS.iload X0.here hx rfl (hb hby at_78) rfl ?_
          show Steps p.tables e below (T0.setTop (mkF m 80 #[.val (.long j0), .second, .val (.long j2), .second, .val (.long j4), .second, .val (.long j6), .second, .val (.long j8), .second, .val (.int i10), .val (.long j11), .second, .val (.long j13), .second, .val (.long j15), .second, .val (.long v0), .second, .unset, .unset, .unset, .unset, .unset, .unset] [(.int i10), (.long (v0 * (60000000 : Int64)))])) _
          refine XS.iconst X0.here hx rfl (hb hby at_80) ?_
          show Steps p.tables e below (T0.setTop (mkF m 81 #[.val (.long j0), .second, .val (.long j2), .second, .val (.long j4), .second, .val (.long j6), .second, .val (.long j8), .second, .val (.int i10), .val (.long j11), .second, .val (.long j13), .second, .val (.long j15), .second, .val (.long v0), .second, .unset, .unset, .unset, .unset, .unset, .unset] [(.int (2 : Int32)), (.int i10), (.long (v0 * (60000000 : Int64)))])) _
          refine XS.iushr X0.here hx rfl (hb hby at_81) rfl ?_
          show Steps p.tables e below (T0.setTop (mkF m 82 #[.val (.long j0), .second, .val (.long j2), .second, .val (.long j4), .second, .val (.long j6), .second, .val (.long j8), .second, .val (.int i10), .val (.long j11), .second, .val (.long j13), .second, .val (.long j15), .second, .val (.long v0), .second, .unset, .unset, .unset, .unset, .unset, .unset] [(.int ((i10.toUInt32 >>> ((2 : Int32) &&& 31).toUInt32).toInt32)), (.long (v0 * (60000000 : Int64)))])) _
          refine XS.iconst X0.here hx rfl (hb hby at_82) ?_
          show Steps p.tables e below (T0.setTop (mkF m 83 #[.val (.long j0), .second, .val (.long j2), .second, .val (.long j4), .second, .val (.long j6), .second, .val (.long j8), .second, .val (.int i10), .val (.long j11), .second, .val (.long j13), .second, .val (.long j15), .second, .val (.long v0), .second, .unset, .unset, .unset, .unset, .unset, .unset] [(.int (1 : Int32)), (.int ((i10.toUInt32 >>> ((2 : Int32) &&& 31).toUInt32).toInt32)), (.long (v0 * (60000000 : Int64)))])) _
          refine XS.iand X0.here hx rfl (hb hby at_83) rfl ?_
          show Steps p.tables e below (T0.setTop (mkF m 84 #[.val (.long j0), .second, .val (.long j2), .second, .val (.long j4), .second, .val (.long j6), .second, .val (.long j8), .second, .val (.int i10), .val (.long j11), .second, .val (.long j13), .second, .val (.long j15), .second, .val (.long v0), .second, .unset, .unset, .unset, .unset, .unset, .unset] [(.int (((i10.toUInt32 >>> ((2 : Int32) &&& 31).toUInt32).toInt32) &&& (1 : Int32))), (.long (v0 * (60000000 : Int64)))])) _
          refine XS.i2l X0.here hx rfl (hb hby at_84) rfl ?_
          show Steps p.tables e below (T0.setTop (mkF m 85 #[.val (.long j0), .second, .val (.long j2), .second, .val (.long j4), .second, .val (.long j6), .second, .val (.long j8), .second, .val (.int i10), .val (.long j11), .second, .val (.long j13), .second, .val (.long j15), .second, .val (.long v0), .second, .unset, .unset, .unset, .unset, .unset, .unset] [(.long ((((i10.toUInt32 >>> ((2 : Int32) &&& 31).toUInt32).toInt32) &&& (1 : Int32)).toInt64)), (.long (v0 * (60000000 : Int64)))])) _
          refine XS.lsub X0.here hx rfl (hb hby at_85) rfl ?_
          show Steps p.tables e below (T0.setTop (mkF m 86 #[.val (.long j0), .second, .val (.long j2), .second, .val (.long j4), .second, .val (.long j6), .second, .val (.long j8), .second, .val (.int i10), .val (.long j11), .second, .val (.long j13), .second, .val (.long j15), .second, .val (.long v0), .second, .unset, .unset, .unset, .unset, .unset, .unset] [(.long ((v0 * (60000000 : Int64)) - ((((i10.toUInt32 >>> ((2 : Int32) &&& 31).toUInt32).toInt32) &&& (1 : Int32)).toInt64)))])) _
          refine XS.lstore X0.here hx rfl (hb hby at_86) rfl (l' := #[.val (.long j0), .second, .val (.long j2), .second, .val (.long j4), .second, .val (.long j6), .second, .val (.long j8), .second, .val (.int i10), .val (.long j11), .second, .val (.long j13), .second, .val (.long ((v0 * (60000000 : Int64)) - ((((i10.toUInt32 >>> ((2 : Int32) &&& 31).toUInt32).toInt32) &&& (1 : Int32)).toInt64))), .second, .val (.long v0), .second, .unset, .unset, .unset, .unset, .unset, .unset]) rfl ?_
          exact kt
        obtain ⟨T9, L9, k9, n9, X9, N9, hk9', hn9, st9⟩ := own_b0_88 hx hZ hw hby hml hown hret j0 j2 j4 j6 j8 i10 j11 j13 ((v0 * (60000000 : Int64)) - ((((i10.toUInt32 >>> ((2 : Int32) &&& 31).toUInt32).toInt32) &&& (1 : Int32)).toInt64)) v0  X0 e0 N0 Z0  
        have hv : (own_f0_46 j0 j2 j4 j6 j8 i10 j11 j13 j15 v0) = (own_f0_88 j0 j2 j4 j6 j8 i10 j11 j13 ((v0 * (60000000 : Int64)) - ((((i10.toUInt32 >>> ((2 : Int32) &&& 31).toUInt32).toInt32) &&& (1 : Int32)).toInt64)) v0) := by unfold own_f0_46; rw [if_neg hc52, if_neg hc60, if_pos hc69]
        exact ⟨T9, L9, k9, n9, X9, N9, hk9', hn9, fun fs hr => pre8 _ (st9 fs (by rw [hv] at hr; exact hr))⟩
      · have pre10 : ∀ target, Steps p.tables e below (T0.setTop (mkF m 88 #[.val (.long j0), .second, .val (.long j2), .second, .val (.long j4), .second, .val (.long j6), .second, .val (.long j8), .second, .val (.int i10), .val (.long j11), .second, .val (.long j13), .second, .val (.long j15), .second, .val (.long v0), .second, .unset, .unset, .unset, .unset, .unset, .unset] [])) target → Steps p.tables e below (T0.setTop (mkF m 46 #[.val (.long j0), .second, .val (.long j2), .second, .val (.long j4), .second, .val (.long j6), .second, .val (.long j8), .second, .val (.int i10), .val (.long j11), .second, .val (.long j13), .second, .val (.long j15), .second, .unset, .unset, .unset, .unset, .unset, .unset, .unset, .unset] [(.long v0)])) target := by
          intro target kt
          refine pre7 target ?_
          show Steps p.tables e below (T0.setTop (mkF m 69 #[.val (.long j0), .second, .val (.long j2), .second, .val (.long j4), .second, .val (.long j6), .second, .val (.long j8), .second, .val (.int i10), .val (.long j11), .second, .val (.long j13), .second, .val (.long j15), .second, .val (.long v0), .second, .unset, .unset, .unset, .unset, .unset, .unset] [(.int (lcmpW v0 (-j11)))])) _
          refine XS.ifYes X0.here hx rfl (pc0 := 69) (pc' := 88) rfl (hb hby at_69) rfl ((if0 _ _).trans (flt (mt (lw_gt _ _).mp hc69)).2.2.2) (by decide) (by decide) ?_
          exact kt
        obtain ⟨T11, L11, k11, n11, X11, N11, hk11', hn11, st11⟩ := own_b0_88 hx hZ hw hby hml hown hret j0 j2 j4 j6 j8 i10 j11 j13 j15 v0  X0 e0 N0 Z0  
        have hv : (own_f0_46 j0 j2 j4 j6 j8 i10 j11 j13 j15 v0) = (own_f0_88 j0 j2 j4 j6 j8 i10 j11 j13 j15 v0) := by unfold own_f0_46; rw [if_neg hc52, if_neg hc60, if_neg hc69]
        exact ⟨T11, L11, k11, n11, X11, N11, hk11', hn11, fun fs hr => pre10 _ (st11 fs (by rw [hv] at hr; exact hr))⟩
set_option maxRecDepth 65536 in
set_option maxHeartbeats 40000000 in
theorem own_b0_0 {p : Program} {l : Launch} {e : Env} {s : State} {m : MethodId} {args : Array Value} {below : List Frame} {meth : Method} {c : Code} {Z : State} {a0_ : Array Value} {n0 : Nat} (hx : p.tables.exec = Jvm.exec) (hZ : Z.Warmed39 s.vm) (hw : ∀ d ∈ tables_1, d.before a0_ Z = true) (hby : c.code = code) (hml : c.maxLocals = 25) (hown : s.vm.findClass "com/example/refill/refill/core/store/TokenBucketHoldsPinLaw" = some m.cls) (hret : meth.sig.returnType = some .boolean) {T0 : State} {locs : List Loc} {h0 : Heap} (j0 : Int64) (j2 : Int64) (j4 : Int64) (j6 : Int64) (j8 : Int64) (i10 : Int32)
    (X0 : Stand p l e room_1 s m args below meth c T0 locs 0 0) (e0 : T0.heap = h0) (N0 : Fr n0 locs) (Z0 : n0 ≤ h0.size)  :
    ∃ T' locs' cells' slots', Stand p l e room_1 s m args below meth c T' locs' cells' slots' ∧ Fr n0 locs' ∧ cells' ≤ room_1.cells ∧ slots' ≤ room_1.slots ∧ ∀ fs, (∀ (f : JFrame) (acts : List Action), f.method = m → f.locked = none → f.entered = [] → (doReturn e (T'.setTop f) acts (some (.int (own_f0_0 j0 j2 j4 j6 j8 i10)))).1 = T'.setFrames fs) → Steps p.tables e below (T0.setTop (mkF m 0 #[.val (.long j0), .second, .val (.long j2), .second, .val (.long j4), .second, .val (.long j6), .second, .val (.long j8), .second, .val (.int i10), .unset, .unset, .unset, .unset, .unset, .unset, .unset, .unset, .unset, .unset, .unset, .unset, .unset, .unset] [])) (T'.setFrames fs) := by
  have hnz25 : ((((j6 &&& (9223372036854775807 : Int64)) - ((j6 &&& (9223372036854775807 : Int64)) / (10000000001 : Int64)) * (10000000001 : Int64)) * (60000000 : Int64)) + (1 : Int64)) ≠ (0 : Int64) := by first | assumption | exact own_nz _ | exact own_nz _ _
  have pre1 : ∀ target, Steps p.tables e below (T0.setTop (mkF m 32 #[.val (.long j0), .second, .val (.long j2), .second, .val (.long j4), .second, .val (.long j6), .second, .val (.long j8), .second, .val (.int i10), .val (.long ((j6 &&& (9223372036854775807 : Int64)) - ((j6 &&& (9223372036854775807 : Int64)) / (10000000001 : Int64)) * (10000000001 : Int64))), .second, .val (.long (((j6 &&& (9223372036854775807 : Int64)) - ((j6 &&& (9223372036854775807 : Int64)) / (10000000001 : Int64)) * (10000000001 : Int64)) * (60000000 : Int64))), .second, .val (.long (j0 - (j0 / ((((j6 &&& (9223372036854775807 : Int64)) - ((j6 &&& (9223372036854775807 : Int64)) / (10000000001 : Int64)) * (10000000001 : Int64)) * (60000000 : Int64)) + (1 : Int64))) * ((((j6 &&& (9223372036854775807 : Int64)) - ((j6 &&& (9223372036854775807 : Int64)) / (10000000001 : Int64)) * (10000000001 : Int64)) * (60000000 : Int64)) + (1 : Int64)))), .second, .unset, .unset, .unset, .unset, .unset, .unset, .unset, .unset] [(.int (lcmpW j4 (0 : Int64)))])) target → Steps p.tables e below (T0.setTop (mkF m 0 #[.val (.long j0), .second, .val (.long j2), .second, .val (.long j4), .second, .val (.long j6), .second, .val (.long j8), .second, .val (.int i10), .unset, .unset, .unset, .unset, .unset, .unset, .unset, .unset, .unset, .unset, .unset, .unset, .unset, .unset] [])) target := by
    intro target kt
    show Steps p.tables e below (T0.setTop (mkF m 0 #[.val (.long j0), .second, .val (.long j2), .second, .val (.long j4), .second, .val (.long j6), .second, .val (.long j8), .second, .val (.int i10), .unset, .unset, .unset, .unset, .unset, .unset, .unset, .unset, .unset, .unset, .unset, .unset, .unset, .unset] [])) _
    refine XS.lload X0.here hx rfl (hb hby at_0) rfl ?_
    show Steps p.tables e below (T0.setTop (mkF m 2 #[.val (.long j0), .second, .val (.long j2), .second, .val (.long j4), .second, .val (.long j6), .second, .val (.long j8), .second, .val (.int i10), .unset, .unset, .unset, .unset, .unset, .unset, .unset, .unset, .unset, .unset, .unset, .unset, .unset, .unset] [(.long j6)])) _
    refine X0.ldc2Long hx hown (mvT hZ (hw _ (List.mem_of_getElem? (i := 0) rfl))) (g := (mkF m 2 #[.val (.long j0), .second, .val (.long j2), .second, .val (.long j4), .second, .val (.long j6), .second, .val (.long j8), .second, .val (.int i10), .unset, .unset, .unset, .unset, .unset, .unset, .unset, .unset, .unset, .unset, .unset, .unset, .unset, .unset] [(.long j6)])) rfl (hb hby at_2) _ ?_
    show Steps p.tables e below (T0.setTop (mkF m 5 #[.val (.long j0), .second, .val (.long j2), .second, .val (.long j4), .second, .val (.long j6), .second, .val (.long j8), .second, .val (.int i10), .unset, .unset, .unset, .unset, .unset, .unset, .unset, .unset, .unset, .unset, .unset, .unset, .unset, .unset] [(.long (9223372036854775807 : Int64)), (.long j6)])) _
    refine XS.land X0.here hx rfl (hb hby at_5) rfl ?_
    show Steps p.tables e below (T0.setTop (mkF m 6 #[.val (.long j0), .second, .val (.long j2), .second, .val (.long j4), .second, .val (.long j6), .second, .val (.long j8), .second, .val (.int i10), .unset, .unset, .unset, .unset, .unset, .unset, .unset, .unset, .unset, .unset, .unset, .unset, .unset, .unset] [(.long (j6 &&& (9223372036854775807 : Int64)))])) _
    refine X0.ldc2Long hx hown (mvT hZ (hw _ (List.mem_of_getElem? (i := 1) rfl))) (g := (mkF m 6 #[.val (.long j0), .second, .val (.long j2), .second, .val (.long j4), .second, .val (.long j6), .second, .val (.long j8), .second, .val (.int i10), .unset, .unset, .unset, .unset, .unset, .unset, .unset, .unset, .unset, .unset, .unset, .unset, .unset, .unset] [(.long (j6 &&& (9223372036854775807 : Int64)))])) rfl (hb hby at_6) _ ?_
    show Steps p.tables e below (T0.setTop (mkF m 9 #[.val (.long j0), .second, .val (.long j2), .second, .val (.long j4), .second, .val (.long j6), .second, .val (.long j8), .second, .val (.int i10), .unset, .unset, .unset, .unset, .unset, .unset, .unset, .unset, .unset, .unset, .unset, .unset, .unset, .unset] [(.long (10000000001 : Int64)), (.long (j6 &&& (9223372036854775807 : Int64)))])) _
    refine XS.lrem X0.here hx rfl (hb hby at_9) rfl (by decide) ?_
    show Steps p.tables e below (T0.setTop (mkF m 10 #[.val (.long j0), .second, .val (.long j2), .second, .val (.long j4), .second, .val (.long j6), .second, .val (.long j8), .second, .val (.int i10), .unset, .unset, .unset, .unset, .unset, .unset, .unset, .unset, .unset, .unset, .unset, .unset, .unset, .unset] [(.long ((j6 &&& (9223372036854775807 : Int64)) - ((j6 &&& (9223372036854775807 : Int64)) / (10000000001 : Int64)) * (10000000001 : Int64)))])) _
    refine XS.lstore X0.here hx rfl (hb hby at_10) rfl (l' := #[.val (.long j0), .second, .val (.long j2), .second, .val (.long j4), .second, .val (.long j6), .second, .val (.long j8), .second, .val (.int i10), .val (.long ((j6 &&& (9223372036854775807 : Int64)) - ((j6 &&& (9223372036854775807 : Int64)) / (10000000001 : Int64)) * (10000000001 : Int64))), .second, .unset, .unset, .unset, .unset, .unset, .unset, .unset, .unset, .unset, .unset, .unset, .unset]) rfl ?_
    show Steps p.tables e below (T0.setTop (mkF m 12 #[.val (.long j0), .second, .val (.long j2), .second, .val (.long j4), .second, .val (.long j6), .second, .val (.long j8), .second, .val (.int i10), .val (.long ((j6 &&& (9223372036854775807 : Int64)) - ((j6 &&& (9223372036854775807 : Int64)) / (10000000001 : Int64)) * (10000000001 : Int64))), .second, .unset, .unset, .unset, .unset, .unset, .unset, .unset, .unset, .unset, .unset, .unset, .unset] [])) _
    refine XS.lload X0.here hx rfl (hb hby at_12) rfl ?_
    show Steps p.tables e below (T0.setTop (mkF m 14 #[.val (.long j0), .second, .val (.long j2), .second, .val (.long j4), .second, .val (.long j6), .second, .val (.long j8), .second, .val (.int i10), .val (.long ((j6 &&& (9223372036854775807 : Int64)) - ((j6 &&& (9223372036854775807 : Int64)) / (10000000001 : Int64)) * (10000000001 : Int64))), .second, .unset, .unset, .unset, .unset, .unset, .unset, .unset, .unset, .unset, .unset, .unset, .unset] [(.long ((j6 &&& (9223372036854775807 : Int64)) - ((j6 &&& (9223372036854775807 : Int64)) / (10000000001 : Int64)) * (10000000001 : Int64)))])) _
    refine X0.ldc2Long hx hown (mvT hZ (hw _ (List.mem_of_getElem? (i := 2) rfl))) (g := (mkF m 14 #[.val (.long j0), .second, .val (.long j2), .second, .val (.long j4), .second, .val (.long j6), .second, .val (.long j8), .second, .val (.int i10), .val (.long ((j6 &&& (9223372036854775807 : Int64)) - ((j6 &&& (9223372036854775807 : Int64)) / (10000000001 : Int64)) * (10000000001 : Int64))), .second, .unset, .unset, .unset, .unset, .unset, .unset, .unset, .unset, .unset, .unset, .unset, .unset] [(.long ((j6 &&& (9223372036854775807 : Int64)) - ((j6 &&& (9223372036854775807 : Int64)) / (10000000001 : Int64)) * (10000000001 : Int64)))])) rfl (hb hby at_14) _ ?_
    show Steps p.tables e below (T0.setTop (mkF m 17 #[.val (.long j0), .second, .val (.long j2), .second, .val (.long j4), .second, .val (.long j6), .second, .val (.long j8), .second, .val (.int i10), .val (.long ((j6 &&& (9223372036854775807 : Int64)) - ((j6 &&& (9223372036854775807 : Int64)) / (10000000001 : Int64)) * (10000000001 : Int64))), .second, .unset, .unset, .unset, .unset, .unset, .unset, .unset, .unset, .unset, .unset, .unset, .unset] [(.long (60000000 : Int64)), (.long ((j6 &&& (9223372036854775807 : Int64)) - ((j6 &&& (9223372036854775807 : Int64)) / (10000000001 : Int64)) * (10000000001 : Int64)))])) _
    refine XS.lmul X0.here hx rfl (hb hby at_17) rfl ?_
    show Steps p.tables e below (T0.setTop (mkF m 18 #[.val (.long j0), .second, .val (.long j2), .second, .val (.long j4), .second, .val (.long j6), .second, .val (.long j8), .second, .val (.int i10), .val (.long ((j6 &&& (9223372036854775807 : Int64)) - ((j6 &&& (9223372036854775807 : Int64)) / (10000000001 : Int64)) * (10000000001 : Int64))), .second, .unset, .unset, .unset, .unset, .unset, .unset, .unset, .unset, .unset, .unset, .unset, .unset] [(.long (((j6 &&& (9223372036854775807 : Int64)) - ((j6 &&& (9223372036854775807 : Int64)) / (10000000001 : Int64)) * (10000000001 : Int64)) * (60000000 : Int64)))])) _
    refine XS.lstore X0.here hx rfl (hb hby at_18) rfl (l' := #[.val (.long j0), .second, .val (.long j2), .second, .val (.long j4), .second, .val (.long j6), .second, .val (.long j8), .second, .val (.int i10), .val (.long ((j6 &&& (9223372036854775807 : Int64)) - ((j6 &&& (9223372036854775807 : Int64)) / (10000000001 : Int64)) * (10000000001 : Int64))), .second, .val (.long (((j6 &&& (9223372036854775807 : Int64)) - ((j6 &&& (9223372036854775807 : Int64)) / (10000000001 : Int64)) * (10000000001 : Int64)) * (60000000 : Int64))), .second, .unset, .unset, .unset, .unset, .unset, .unset, .unset, .unset, .unset, .unset]) rfl ?_
    show Steps p.tables e below (T0.setTop (mkF m 20 #[.val (.long j0), .second, .val (.long j2), .second, .val (.long j4), .second, .val (.long j6), .second, .val (.long j8), .second, .val (.int i10), .val (.long ((j6 &&& (9223372036854775807 : Int64)) - ((j6 &&& (9223372036854775807 : Int64)) / (10000000001 : Int64)) * (10000000001 : Int64))), .second, .val (.long (((j6 &&& (9223372036854775807 : Int64)) - ((j6 &&& (9223372036854775807 : Int64)) / (10000000001 : Int64)) * (10000000001 : Int64)) * (60000000 : Int64))), .second, .unset, .unset, .unset, .unset, .unset, .unset, .unset, .unset, .unset, .unset] [])) _
    refine XS.lloadN X0.here hx rfl (hb hby at_20) rfl ?_
    show Steps p.tables e below (T0.setTop (mkF m 21 #[.val (.long j0), .second, .val (.long j2), .second, .val (.long j4), .second, .val (.long j6), .second, .val (.long j8), .second, .val (.int i10), .val (.long ((j6 &&& (9223372036854775807 : Int64)) - ((j6 &&& (9223372036854775807 : Int64)) / (10000000001 : Int64)) * (10000000001 : Int64))), .second, .val (.long (((j6 &&& (9223372036854775807 : Int64)) - ((j6 &&& (9223372036854775807 : Int64)) / (10000000001 : Int64)) * (10000000001 : Int64)) * (60000000 : Int64))), .second, .unset, .unset, .unset, .unset, .unset, .unset, .unset, .unset, .unset, .unset] [(.long j0)])) _
    refine XS.lload X0.here hx rfl (hb hby at_21) rfl ?_
    show Steps p.tables e below (T0.setTop (mkF m 23 #[.val (.long j0), .second, .val (.long j2), .second, .val (.long j4), .second, .val (.long j6), .second, .val (.long j8), .second, .val (.int i10), .val (.long ((j6 &&& (9223372036854775807 : Int64)) - ((j6 &&& (9223372036854775807 : Int64)) / (10000000001 : Int64)) * (10000000001 : Int64))), .second, .val (.long (((j6 &&& (9223372036854775807 : Int64)) - ((j6 &&& (9223372036854775807 : Int64)) / (10000000001 : Int64)) * (10000000001 : Int64)) * (60000000 : Int64))), .second, .unset, .unset, .unset, .unset, .unset, .unset, .unset, .unset, .unset, .unset] [(.long (((j6 &&& (9223372036854775807 : Int64)) - ((j6 &&& (9223372036854775807 : Int64)) / (10000000001 : Int64)) * (10000000001 : Int64)) * (60000000 : Int64))), (.long j0)])) _
    refine XS.lconst X0.here hx rfl (hb hby at_23) ?_
    show Steps p.tables e below (T0.setTop (mkF m 24 #[.val (.long j0), .second, .val (.long j2), .second, .val (.long j4), .second, .val (.long j6), .second, .val (.long j8), .second, .val (.int i10), .val (.long ((j6 &&& (9223372036854775807 : Int64)) - ((j6 &&& (9223372036854775807 : Int64)) / (10000000001 : Int64)) * (10000000001 : Int64))), .second, .val (.long (((j6 &&& (9223372036854775807 : Int64)) - ((j6 &&& (9223372036854775807 : Int64)) / (10000000001 : Int64)) * (10000000001 : Int64)) * (60000000 : Int64))), .second, .unset, .unset, .unset, .unset, .unset, .unset, .unset, .unset, .unset, .unset] [(.long (1 : Int64)), (.long (((j6 &&& (9223372036854775807 : Int64)) - ((j6 &&& (9223372036854775807 : Int64)) / (10000000001 : Int64)) * (10000000001 : Int64)) * (60000000 : Int64))), (.long j0)])) _
    refine XS.ladd X0.here hx rfl (hb hby at_24) rfl ?_
    show Steps p.tables e below (T0.setTop (mkF m 25 #[.val (.long j0), .second, .val (.long j2), .second, .val (.long j4), .second, .val (.long j6), .second, .val (.long j8), .second, .val (.int i10), .val (.long ((j6 &&& (9223372036854775807 : Int64)) - ((j6 &&& (9223372036854775807 : Int64)) / (10000000001 : Int64)) * (10000000001 : Int64))), .second, .val (.long (((j6 &&& (9223372036854775807 : Int64)) - ((j6 &&& (9223372036854775807 : Int64)) / (10000000001 : Int64)) * (10000000001 : Int64)) * (60000000 : Int64))), .second, .unset, .unset, .unset, .unset, .unset, .unset, .unset, .unset, .unset, .unset] [(.long ((((j6 &&& (9223372036854775807 : Int64)) - ((j6 &&& (9223372036854775807 : Int64)) / (10000000001 : Int64)) * (10000000001 : Int64)) * (60000000 : Int64)) + (1 : Int64))), (.long j0)])) _
    refine XS.lrem X0.here hx rfl (hb hby at_25) rfl hnz25 ?_
    show Steps p.tables e below (T0.setTop (mkF m 26 #[.val (.long j0), .second, .val (.long j2), .second, .val (.long j4), .second, .val (.long j6), .second, .val (.long j8), .second, .val (.int i10), .val (.long ((j6 &&& (9223372036854775807 : Int64)) - ((j6 &&& (9223372036854775807 : Int64)) / (10000000001 : Int64)) * (10000000001 : Int64))), .second, .val (.long (((j6 &&& (9223372036854775807 : Int64)) - ((j6 &&& (9223372036854775807 : Int64)) / (10000000001 : Int64)) * (10000000001 : Int64)) * (60000000 : Int64))), .second, .unset, .unset, .unset, .unset, .unset, .unset, .unset, .unset, .unset, .unset] [(.long (j0 - (j0 / ((((j6 &&& (9223372036854775807 : Int64)) - ((j6 &&& (9223372036854775807 : Int64)) / (10000000001 : Int64)) * (10000000001 : Int64)) * (60000000 : Int64)) + (1 : Int64))) * ((((j6 &&& (9223372036854775807 : Int64)) - ((j6 &&& (9223372036854775807 : Int64)) / (10000000001 : Int64)) * (10000000001 : Int64)) * (60000000 : Int64)) + (1 : Int64))))])) _
    refine XS.lstore X0.here hx rfl (hb hby at_26) rfl (l' := #[.val (.long j0), .second, .val (.long j2), .second, .val (.long j4), .second, .val (.long j6), .second, .val (.long j8), .second, .val (.int i10), .val (.long ((j6 &&& (9223372036854775807 : Int64)) - ((j6 &&& (9223372036854775807 : Int64)) / (10000000001 : Int64)) * (10000000001 : Int64))), .second, .val (.long (((j6 &&& (9223372036854775807 : Int64)) - ((j6 &&& (9223372036854775807 : Int64)) / (10000000001 : Int64)) * (10000000001 : Int64)) * (60000000 : Int64))), .second, .val (.long (j0 - (j0 / ((((j6 &&& (9223372036854775807 : Int64)) - ((j6 &&& (9223372036854775807 : Int64)) / (10000000001 : Int64)) * (10000000001 : Int64)) * (60000000 : Int64)) + (1 : Int64))) * ((((j6 &&& (9223372036854775807 : Int64)) - ((j6 &&& (9223372036854775807 : Int64)) / (10000000001 : Int64)) * (10000000001 : Int64)) * (60000000 : Int64)) + (1 : Int64)))), .second, .unset, .unset, .unset, .unset, .unset, .unset, .unset, .unset]) rfl ?_
    show Steps p.tables e below (T0.setTop (mkF m 28 #[.val (.long j0), .second, .val (.long j2), .second, .val (.long j4), .second, .val (.long j6), .second, .val (.long j8), .second, .val (.int i10), .val (.long ((j6 &&& (9223372036854775807 : Int64)) - ((j6 &&& (9223372036854775807 : Int64)) / (10000000001 : Int64)) * (10000000001 : Int64))), .second, .val (.long (((j6 &&& (9223372036854775807 : Int64)) - ((j6 &&& (9223372036854775807 : Int64)) / (10000000001 : Int64)) * (10000000001 : Int64)) * (60000000 : Int64))), .second, .val (.long (j0 - (j0 / ((((j6 &&& (9223372036854775807 : Int64)) - ((j6 &&& (9223372036854775807 : Int64)) / (10000000001 : Int64)) * (10000000001 : Int64)) * (60000000 : Int64)) + (1 : Int64))) * ((((j6 &&& (9223372036854775807 : Int64)) - ((j6 &&& (9223372036854775807 : Int64)) / (10000000001 : Int64)) * (10000000001 : Int64)) * (60000000 : Int64)) + (1 : Int64)))), .second, .unset, .unset, .unset, .unset, .unset, .unset, .unset, .unset] [])) _
    refine XS.lload X0.here hx rfl (hb hby at_28) rfl ?_
    show Steps p.tables e below (T0.setTop (mkF m 30 #[.val (.long j0), .second, .val (.long j2), .second, .val (.long j4), .second, .val (.long j6), .second, .val (.long j8), .second, .val (.int i10), .val (.long ((j6 &&& (9223372036854775807 : Int64)) - ((j6 &&& (9223372036854775807 : Int64)) / (10000000001 : Int64)) * (10000000001 : Int64))), .second, .val (.long (((j6 &&& (9223372036854775807 : Int64)) - ((j6 &&& (9223372036854775807 : Int64)) / (10000000001 : Int64)) * (10000000001 : Int64)) * (60000000 : Int64))), .second, .val (.long (j0 - (j0 / ((((j6 &&& (9223372036854775807 : Int64)) - ((j6 &&& (9223372036854775807 : Int64)) / (10000000001 : Int64)) * (10000000001 : Int64)) * (60000000 : Int64)) + (1 : Int64))) * ((((j6 &&& (9223372036854775807 : Int64)) - ((j6 &&& (9223372036854775807 : Int64)) / (10000000001 : Int64)) * (10000000001 : Int64)) * (60000000 : Int64)) + (1 : Int64)))), .second, .unset, .unset, .unset, .unset, .unset, .unset, .unset, .unset] [(.long j4)])) _
    refine XS.lconst X0.here hx rfl (hb hby at_30) ?_
    show Steps p.tables e below (T0.setTop (mkF m 31 #[.val (.long j0), .second, .val (.long j2), .second, .val (.long j4), .second, .val (.long j6), .second, .val (.long j8), .second, .val (.int i10), .val (.long ((j6 &&& (9223372036854775807 : Int64)) - ((j6 &&& (9223372036854775807 : Int64)) / (10000000001 : Int64)) * (10000000001 : Int64))), .second, .val (.long (((j6 &&& (9223372036854775807 : Int64)) - ((j6 &&& (9223372036854775807 : Int64)) / (10000000001 : Int64)) * (10000000001 : Int64)) * (60000000 : Int64))), .second, .val (.long (j0 - (j0 / ((((j6 &&& (9223372036854775807 : Int64)) - ((j6 &&& (9223372036854775807 : Int64)) / (10000000001 : Int64)) * (10000000001 : Int64)) * (60000000 : Int64)) + (1 : Int64))) * ((((j6 &&& (9223372036854775807 : Int64)) - ((j6 &&& (9223372036854775807 : Int64)) / (10000000001 : Int64)) * (10000000001 : Int64)) * (60000000 : Int64)) + (1 : Int64)))), .second, .unset, .unset, .unset, .unset, .unset, .unset, .unset, .unset] [(.long (0 : Int64)), (.long j4)])) _
    refine XS.lcmp X0.here hx rfl (hb hby at_31) rfl ?_
    exact kt
  by_cases hc32 : j4 < (0 : Int64)
  · have pre2 : ∀ target, Steps p.tables e below (T0.setTop (mkF m 46 #[.val (.long j0), .second, .val (.long j2), .second, .val (.long j4), .second, .val (.long j6), .second, .val (.long j8), .second, .val (.int i10), .val (.long ((j6 &&& (9223372036854775807 : Int64)) - ((j6 &&& (9223372036854775807 : Int64)) / (10000000001 : Int64)) * (10000000001 : Int64))), .second, .val (.long (((j6 &&& (9223372036854775807 : Int64)) - ((j6 &&& (9223372036854775807 : Int64)) / (10000000001 : Int64)) * (10000000001 : Int64)) * (60000000 : Int64))), .second, .val (.long (j0 - (j0 / ((((j6 &&& (9223372036854775807 : Int64)) - ((j6 &&& (9223372036854775807 : Int64)) / (10000000001 : Int64)) * (10000000001 : Int64)) * (60000000 : Int64)) + (1 : Int64))) * ((((j6 &&& (9223372036854775807 : Int64)) - ((j6 &&& (9223372036854775807 : Int64)) / (10000000001 : Int64)) * (10000000001 : Int64)) * (60000000 : Int64)) + (1 : Int64)))), .second, .unset, .unset, .unset, .unset, .unset, .unset, .unset, .unset] [(.long (j4 - (j4 / (10000000001 : Int64)) * (10000000001 : Int64)))])) target → Steps p.tables e below (T0.setTop (mkF m 0 #[.val (.long j0), .second, .val (.long j2), .second, .val (.long j4), .second, .val (.long j6), .second, .val (.long j8), .second, .val (.int i10), .unset, .unset, .unset, .unset, .unset, .unset, .unset, .unset, .unset, .unset, .unset, .unset, .unset, .unset] [])) target := by
      intro target kt
      refine pre1 target ?_
      show Steps p.tables e below (T0.setTop (mkF m 32 #[.val (.long j0), .second, .val (.long j2), .second, .val (.long j4), .second, .val (.long j6), .second, .val (.long j8), .second, .val (.int i10), .val (.long ((j6 &&& (9223372036854775807 : Int64)) - ((j6 &&& (9223372036854775807 : Int64)) / (10000000001 : Int64)) * (10000000001 : Int64))), .second, .val (.long (((j6 &&& (9223372036854775807 : Int64)) - ((j6 &&& (9223372036854775807 : Int64)) / (10000000001 : Int64)) * (10000000001 : Int64)) * (60000000 : Int64))), .second, .val (.long (j0 - (j0 / ((((j6 &&& (9223372036854775807 : Int64)) - ((j6 &&& (9223372036854775807 : Int64)) / (10000000001 : Int64)) * (10000000001 : Int64)) * (60000000 : Int64)) + (1 : Int64))) * ((((j6 &&& (9223372036854775807 : Int64)) - ((j6 &&& (9223372036854775807 : Int64)) / (10000000001 : Int64)) * (10000000001 : Int64)) * (60000000 : Int64)) + (1 : Int64)))), .second, .unset, .unset, .unset, .unset, .unset, .unset, .unset, .unset] [(.int (lcmpW j4 (0 : Int64)))])) _
      refine XS.ifYes X0.here hx rfl (pc0 := 32) (pc' := 40) rfl (hb hby at_32) rfl ((if0 _ _).trans (tlt ((lw_lt _ _).mpr hc32)).1) (by decide) (by decide) ?_
      show Steps p.tables e below (T0.setTop (mkF m 40 #[.val (.long j0), .second, .val (.long j2), .second, .val (.long j4), .second, .val (.long j6), .second, .val (.long j8), .second, .val (.int i10), .val (.long ((j6 &&& (9223372036854775807 : Int64)) - ((j6 &&& (9223372036854775807 : Int64)) / (10000000001 : Int64)) * (10000000001 : Int64))), .second, .val (.long (((j6 &&& (9223372036854775807 : Int64)) - ((j6 &&& (9223372036854775807 : Int64)) / (10000000001 : Int64)) * (10000000001 : Int64)) * (60000000 : Int64))), .second, .val (.long (j0 - (j0 / ((((j6 &&& (9223372036854775807 : Int64)) - ((j6 &&& (9223372036854775807 : Int64)) / (10000000001 : Int64)) * (10000000001 : Int64)) * (60000000 : Int64)) + (1 : Int64))) * ((((j6 &&& (9223372036854775807 : Int64)) - ((j6 &&& (9223372036854775807 : Int64)) / (10000000001 : Int64)) * (10000000001 : Int64)) * (60000000 : Int64)) + (1 : Int64)))), .second, .unset, .unset, .unset, .unset, .unset, .unset, .unset, .unset] [])) _
      refine XS.lload X0.here hx rfl (hb hby at_40) rfl ?_
      show Steps p.tables e below (T0.setTop (mkF m 42 #[.val (.long j0), .second, .val (.long j2), .second, .val (.long j4), .second, .val (.long j6), .second, .val (.long j8), .second, .val (.int i10), .val (.long ((j6 &&& (9223372036854775807 : Int64)) - ((j6 &&& (9223372036854775807 : Int64)) / (10000000001 : Int64)) * (10000000001 : Int64))), .second, .val (.long (((j6 &&& (9223372036854775807 : Int64)) - ((j6 &&& (9223372036854775807 : Int64)) / (10000000001 : Int64)) * (10000000001 : Int64)) * (60000000 : Int64))), .second, .val (.long (j0 - (j0 / ((((j6 &&& (9223372036854775807 : Int64)) - ((j6 &&& (9223372036854775807 : Int64)) / (10000000001 : Int64)) * (10000000001 : Int64)) * (60000000 : Int64)) + (1 : Int64))) * ((((j6 &&& (9223372036854775807 : Int64)) - ((j6 &&& (9223372036854775807 : Int64)) / (10000000001 : Int64)) * (10000000001 : Int64)) * (60000000 : Int64)) + (1 : Int64)))), .second, .unset, .unset, .unset, .unset, .unset, .unset, .unset, .unset] [(.long j4)])) _
      refine X0.ldc2Long hx hown (mvT hZ (hw _ (List.mem_of_getElem? (i := 1) rfl))) (g := (mkF m 42 #[.val (.long j0), .second, .val (.long j2), .second, .val (.long j4), .second, .val (.long j6), .second, .val (.long j8), .second, .val (.int i10), .val (.long ((j6 &&& (9223372036854775807 : Int64)) - ((j6 &&& (9223372036854775807 : Int64)) / (10000000001 : Int64)) * (10000000001 : Int64))), .second, .val (.long (((j6 &&& (9223372036854775807 : Int64)) - ((j6 &&& (9223372036854775807 : Int64)) / (10000000001 : Int64)) * (10000000001 : Int64)) * (60000000 : Int64))), .second, .val (.long (j0 - (j0 / ((((j6 &&& (9223372036854775807 : Int64)) - ((j6 &&& (9223372036854775807 : Int64)) / (10000000001 : Int64)) * (10000000001 : Int64)) * (60000000 : Int64)) + (1 : Int64))) * ((((j6 &&& (9223372036854775807 : Int64)) - ((j6 &&& (9223372036854775807 : Int64)) / (10000000001 : Int64)) * (10000000001 : Int64)) * (60000000 : Int64)) + (1 : Int64)))), .second, .unset, .unset, .unset, .unset, .unset, .unset, .unset, .unset] [(.long j4)])) rfl (hb hby at_42) _ ?_
      show Steps p.tables e below (T0.setTop (mkF m 45 #[.val (.long j0), .second, .val (.long j2), .second, .val (.long j4), .second, .val (.long j6), .second, .val (.long j8), .second, .val (.int i10), .val (.long ((j6 &&& (9223372036854775807 : Int64)) - ((j6 &&& (9223372036854775807 : Int64)) / (10000000001 : Int64)) * (10000000001 : Int64))), .second, .val (.long (((j6 &&& (9223372036854775807 : Int64)) - ((j6 &&& (9223372036854775807 : Int64)) / (10000000001 : Int64)) * (10000000001 : Int64)) * (60000000 : Int64))), .second, .val (.long (j0 - (j0 / ((((j6 &&& (9223372036854775807 : Int64)) - ((j6 &&& (9223372036854775807 : Int64)) / (10000000001 : Int64)) * (10000000001 : Int64)) * (60000000 : Int64)) + (1 : Int64))) * ((((j6 &&& (9223372036854775807 : Int64)) - ((j6 &&& (9223372036854775807 : Int64)) / (10000000001 : Int64)) * (10000000001 : Int64)) * (60000000 : Int64)) + (1 : Int64)))), .second, .unset, .unset, .unset, .unset, .unset, .unset, .unset, .unset] [(.long (10000000001 : Int64)), (.long j4)])) _
      refine XS.lrem X0.here hx rfl (hb hby at_45) rfl (by decide) ?_
      exact kt
    obtain ⟨T3, L3, k3, n3, X3, N3, hk3', hn3, st3⟩ := own_b0_46 hx hZ hw hby hml hown hret j0 j2 j4 j6 j8 i10 ((j6 &&& (9223372036854775807 : Int64)) - ((j6 &&& (9223372036854775807 : Int64)) / (10000000001 : Int64)) * (10000000001 : Int64)) (((j6 &&& (9223372036854775807 : Int64)) - ((j6 &&& (9223372036854775807 : Int64)) / (10000000001 : Int64)) * (10000000001 : Int64)) * (60000000 : Int64)) (j0 - (j0 / ((((j6 &&& (9223372036854775807 : Int64)) - ((j6 &&& (9223372036854775807 : Int64)) / (10000000001 : Int64)) * (10000000001 : Int64)) * (60000000 : Int64)) + (1 : Int64))) * ((((j6 &&& (9223372036854775807 : Int64)) - ((j6 &&& (9223372036854775807 : Int64)) / (10000000001 : Int64)) * (10000000001 : Int64)) * (60000000 : Int64)) + (1 : Int64))) (j4 - (j4 / (10000000001 : Int64)) * (10000000001 : Int64))  X0 e0 N0 Z0  
    have hv : (own_f0_0 j0 j2 j4 j6 j8 i10) = (own_f0_46 j0 j2 j4 j6 j8 i10 ((j6 &&& (9223372036854775807 : Int64)) - ((j6 &&& (9223372036854775807 : Int64)) / (10000000001 : Int64)) * (10000000001 : Int64)) (((j6 &&& (9223372036854775807 : Int64)) - ((j6 &&& (9223372036854775807 : Int64)) / (10000000001 : Int64)) * (10000000001 : Int64)) * (60000000 : Int64)) (j0 - (j0 / ((((j6 &&& (9223372036854775807 : Int64)) - ((j6 &&& (9223372036854775807 : Int64)) / (10000000001 : Int64)) * (10000000001 : Int64)) * (60000000 : Int64)) + (1 : Int64))) * ((((j6 &&& (9223372036854775807 : Int64)) - ((j6 &&& (9223372036854775807 : Int64)) / (10000000001 : Int64)) * (10000000001 : Int64)) * (60000000 : Int64)) + (1 : Int64))) (j4 - (j4 / (10000000001 : Int64)) * (10000000001 : Int64))) := by unfold own_f0_0; rw [if_pos hc32]
    exact ⟨T3, L3, k3, n3, X3, N3, hk3', hn3, fun fs hr => pre2 _ (st3 fs (by rw [hv] at hr; exact hr))⟩
  · have pre4 : ∀ target, Steps p.tables e below (T0.setTop (mkF m 46 #[.val (.long j0), .second, .val (.long j2), .second, .val (.long j4), .second, .val (.long j6), .second, .val (.long j8), .second, .val (.int i10), .val (.long ((j6 &&& (9223372036854775807 : Int64)) - ((j6 &&& (9223372036854775807 : Int64)) / (10000000001 : Int64)) * (10000000001 : Int64))), .second, .val (.long (((j6 &&& (9223372036854775807 : Int64)) - ((j6 &&& (9223372036854775807 : Int64)) / (10000000001 : Int64)) * (10000000001 : Int64)) * (60000000 : Int64))), .second, .val (.long (j0 - (j0 / ((((j6 &&& (9223372036854775807 : Int64)) - ((j6 &&& (9223372036854775807 : Int64)) / (10000000001 : Int64)) * (10000000001 : Int64)) * (60000000 : Int64)) + (1 : Int64))) * ((((j6 &&& (9223372036854775807 : Int64)) - ((j6 &&& (9223372036854775807 : Int64)) / (10000000001 : Int64)) * (10000000001 : Int64)) * (60000000 : Int64)) + (1 : Int64)))), .second, .unset, .unset, .unset, .unset, .unset, .unset, .unset, .unset] [(.long j4)])) target → Steps p.tables e below (T0.setTop (mkF m 0 #[.val (.long j0), .second, .val (.long j2), .second, .val (.long j4), .second, .val (.long j6), .second, .val (.long j8), .second, .val (.int i10), .unset, .unset, .unset, .unset, .unset, .unset, .unset, .unset, .unset, .unset, .unset, .unset, .unset, .unset] [])) target := by
      intro target kt
      refine pre1 target ?_
      show Steps p.tables e below (T0.setTop (mkF m 32 #[.val (.long j0), .second, .val (.long j2), .second, .val (.long j4), .second, .val (.long j6), .second, .val (.long j8), .second, .val (.int i10), .val (.long ((j6 &&& (9223372036854775807 : Int64)) - ((j6 &&& (9223372036854775807 : Int64)) / (10000000001 : Int64)) * (10000000001 : Int64))), .second, .val (.long (((j6 &&& (9223372036854775807 : Int64)) - ((j6 &&& (9223372036854775807 : Int64)) / (10000000001 : Int64)) * (10000000001 : Int64)) * (60000000 : Int64))), .second, .val (.long (j0 - (j0 / ((((j6 &&& (9223372036854775807 : Int64)) - ((j6 &&& (9223372036854775807 : Int64)) / (10000000001 : Int64)) * (10000000001 : Int64)) * (60000000 : Int64)) + (1 : Int64))) * ((((j6 &&& (9223372036854775807 : Int64)) - ((j6 &&& (9223372036854775807 : Int64)) / (10000000001 : Int64)) * (10000000001 : Int64)) * (60000000 : Int64)) + (1 : Int64)))), .second, .unset, .unset, .unset, .unset, .unset, .unset, .unset, .unset] [(.int (lcmpW j4 (0 : Int64)))])) _
      refine XS.ifNo X0.here hx rfl (hb hby at_32) rfl ((if0 _ _).trans (flt (mt (lw_lt _ _).mp hc32)).1) ?_
      show Steps p.tables e below (T0.setTop (mkF m 35 #[.val (.long j0), .second, .val (.long j2), .second, .val (.long j4), .second, .val (.long j6), .second, .val (.long j8), .second, .val (.int i10), .val (.long ((j6 &&& (9223372036854775807 : Int64)) - ((j6 &&& (9223372036854775807 : Int64)) / (10000000001 : Int64)) * (10000000001 : Int64))), .second, .val (.long (((j6 &&& (9223372036854775807 : Int64)) - ((j6 &&& (9223372036854775807 : Int64)) / (10000000001 : Int64)) * (10000000001 : Int64)) * (60000000 : Int64))), .second, .val (.long (j0 - (j0 / ((((j6 &&& (9223372036854775807 : Int64)) - ((j6 &&& (9223372036854775807 : Int64)) / (10000000001 : Int64)) * (10000000001 : Int64)) * (60000000 : Int64)) + (1 : Int64))) * ((((j6 &&& (9223372036854775807 : Int64)) - ((j6 &&& (9223372036854775807 : Int64)) / (10000000001 : Int64)) * (10000000001 : Int64)) * (60000000 : Int64)) + (1 : Int64)))), .second, .unset, .unset, .unset, .unset, .unset, .unset, .unset, .unset] [])) _
      refine XS.lload X0.here hx rfl (hb hby at_35) rfl ?_
      show Steps p.tables e below (T0.setTop (mkF m 37 #[.val (.long j0), .second, .val (.long j2), .second, .val (.long j4), .second, .val (.long j6), .second, .val (.long j8), .second, .val (.int i10), .val (.long ((j6 &&& (9223372036854775807 : Int64)) - ((j6 &&& (9223372036854775807 : Int64)) / (10000000001 : Int64)) * (10000000001 : Int64))), .second, .val (.long (((j6 &&& (9223372036854775807 : Int64)) - ((j6 &&& (9223372036854775807 : Int64)) / (10000000001 : Int64)) * (10000000001 : Int64)) * (60000000 : Int64))), .second, .val (.long (j0 - (j0 / ((((j6 &&& (9223372036854775807 : Int64)) - ((j6 &&& (9223372036854775807 : Int64)) / (10000000001 : Int64)) * (10000000001 : Int64)) * (60000000 : Int64)) + (1 : Int64))) * ((((j6 &&& (9223372036854775807 : Int64)) - ((j6 &&& (9223372036854775807 : Int64)) / (10000000001 : Int64)) * (10000000001 : Int64)) * (60000000 : Int64)) + (1 : Int64)))), .second, .unset, .unset, .unset, .unset, .unset, .unset, .unset, .unset] [(.long j4)])) _
      refine XS.goto X0.here hx rfl (pc0 := 37) (pc' := 46) rfl (hb hby at_37) (by decide) (by decide) ?_
      exact kt
    obtain ⟨T5, L5, k5, n5, X5, N5, hk5', hn5, st5⟩ := own_b0_46 hx hZ hw hby hml hown hret j0 j2 j4 j6 j8 i10 ((j6 &&& (9223372036854775807 : Int64)) - ((j6 &&& (9223372036854775807 : Int64)) / (10000000001 : Int64)) * (10000000001 : Int64)) (((j6 &&& (9223372036854775807 : Int64)) - ((j6 &&& (9223372036854775807 : Int64)) / (10000000001 : Int64)) * (10000000001 : Int64)) * (60000000 : Int64)) (j0 - (j0 / ((((j6 &&& (9223372036854775807 : Int64)) - ((j6 &&& (9223372036854775807 : Int64)) / (10000000001 : Int64)) * (10000000001 : Int64)) * (60000000 : Int64)) + (1 : Int64))) * ((((j6 &&& (9223372036854775807 : Int64)) - ((j6 &&& (9223372036854775807 : Int64)) / (10000000001 : Int64)) * (10000000001 : Int64)) * (60000000 : Int64)) + (1 : Int64))) j4  X0 e0 N0 Z0  
    have hv : (own_f0_0 j0 j2 j4 j6 j8 i10) = (own_f0_46 j0 j2 j4 j6 j8 i10 ((j6 &&& (9223372036854775807 : Int64)) - ((j6 &&& (9223372036854775807 : Int64)) / (10000000001 : Int64)) * (10000000001 : Int64)) (((j6 &&& (9223372036854775807 : Int64)) - ((j6 &&& (9223372036854775807 : Int64)) / (10000000001 : Int64)) * (10000000001 : Int64)) * (60000000 : Int64)) (j0 - (j0 / ((((j6 &&& (9223372036854775807 : Int64)) - ((j6 &&& (9223372036854775807 : Int64)) / (10000000001 : Int64)) * (10000000001 : Int64)) * (60000000 : Int64)) + (1 : Int64))) * ((((j6 &&& (9223372036854775807 : Int64)) - ((j6 &&& (9223372036854775807 : Int64)) / (10000000001 : Int64)) * (10000000001 : Int64)) * (60000000 : Int64)) + (1 : Int64))) j4) := by unfold own_f0_0; rw [if_neg hc32]
    exact ⟨T5, L5, k5, n5, X5, N5, hk5', hn5, fun fs hr => pre4 _ (st5 fs (by rw [hv] at hr; exact hr))⟩
def Q0 (Z : State) (j0 : Int64) (j2 : Int64) (j4 : Int64) (j6 : Int64) (j8 : Int64) (i10 : Int32) (h0 : Heap) (n0 : Nat) (v : Option Value) (h : Heap) (L : List Loc) : Prop := v = some (.int (own_f0_0 j0 j2 j4 j6 j8 i10)) ∧ Fr n0 L
set_option maxRecDepth 65536 in
set_option maxHeartbeats 40000000 in
theorem rm0 (l : Launch) (Z : State) (a0_ : Array Value) (hw : ∀ d ∈ tables_1, d.before a0_ Z = true) (ws : List Jvm.Cond) (j0 : Int64) (j2 : Int64) (j4 : Int64) (j6 : Int64) (j8 : Int64) (i10 : Int32) (h0 : Heap) (n0 : Nat) (Z0 : n0 ≤ h0.size)  :
    MetFree l x (head1 (Jvm.Cond.code x code maxLocals ret :: ws) room_1) (fun a U => a = #[(.long j0), (.long j2), (.long j4), (.long j6), (.long j8), (.int i10)] ∧ Z.Warmed39 U.vm ∧ U.heap = h0) (fun _ _ _ _ _ => True) (fun _ U o U' => ∃ v L, o = .returned v ∧ Q0 Z j0 j2 j4 j6 j8 i10 h0 n0 v U'.heap L ∧ FrameEnd U o U' L room_1.cells room_1.slots) := by
  refine MetFree.of_bodySF (plainFor_of_name pn_0) hisR ?_
  intro p e s m args below meth c s₁ Bd hml0 hP hK
  obtain ⟨rfl, hZ, hh⟩ := hP
  have hx := Bd.exec
  have hby := Bd.bytes
  have hml : c.maxLocals = 25 := hml0
  have hown : s.vm.findClass "com/example/refill/refill/core/store/TokenBucketHoldsPinLaw" = some m.cls := findClass_of_methodNamed Bd.named
  have X0 : Stand p l e room_1 s m #[(.long j0), (.long j2), (.long j4), (.long j6), (.long j8), (.int i10)] below meth c s₁ [] 0 0 := Stand.of_body Bd
  have e0 : s₁.heap = h0 := by rw [← hh, Bd.state]; rfl
  obtain ⟨T', L', k', n', X', N', hk', hn', st'⟩ := own_b0_0 hx hZ hw hby hml hown Bd.returns  j0 j2 j4 j6 j8 i10 X0 e0 (Fr.nil n0) Z0 
  obtain ⟨fs, hr, hrun, hended, hW, hsame⟩ := X'.leave (v := some (.int (own_f0_0 j0 j2 j4 j6 j8 i10))) (fun h => by rw [Bd.returns] at h; cases h)
  refine ⟨_, _, castTop (ef_0 m j0 j2 j4 j6 j8 i10) (st' fs hr), hrun, hended, _, _, rfl, ?_, ⟨_, rfl⟩, hW, hsame.mono hk' hn'⟩
  exact ⟨rfl, N'⟩
theorem own_88 (j0 j2 j4 j6 j8 : Int64) (i10 : Int32) (b cap lev tok : Int64) (hb0 : 0 ≤ b.toInt) (hb1 : b.toInt ≤ 10000000000) (hl0 : -600000000000000000 ≤ lev.toInt) (hl1 : lev.toInt ≤ 600000000000000000) (ht : -10000000000 ≤ tok.toInt) :
    own_f0_88 j0 j2 j4 j6 j8 i10 b cap lev tok = 1 := by
  have l0 : (0 : Int64).toInt = 0 := by decide +kernel
  have l1 : (1 : Int64).toInt = 1 := by decide +kernel
  have l6 : (60000000 : Int64).toInt = 60000000 := by decide +kernel
  have p : tok.toInt ≤ b.toInt → (tok * 60000000).toInt = tok.toInt * 60000000 := fun q => own_x6 tok ht (Int.le_trans q hb1)
  have d1 := c_ldiv lev 60000000 60000000 l6 (by decide +kernel)
  have d2 := c_lmul (lev / 60000000) 60000000
  have d3 := rng64 (lev / 60000000 * 60000000)
  rw [l6] at d2
  have s1 := c_lsub (lev / 60000000) 1
  have s2 := rng64 (lev / 60000000 - 1)
  rw [l1] at s1
  simp only [own_f0_88, own_f0_108, own_o1_burstTokens, own_o4_levelUnits, own_f0_169, own_f0_189, own_f0_190, own_f5_0, own_f6_0, ite_self, Int64.lt_iff_toInt_lt, ← Int64.toInt_inj (x := lev / 60000000 * 60000000), l0]
  generalize (lev / 60000000 * 60000000).toInt = vm at *
  generalize (lev / 60000000 - 1).toInt = vs at *
  generalize (lev / 60000000).toInt = vq at *
  generalize (tok * 60000000).toInt = vp at *
  generalize lev.toInt = vl at *
  generalize tok.toInt = vt at *
  generalize b.toInt = vb at *
  clear l0 l1 l6
  by_cases hbt : vb < vt
  · simp only [if_pos hbt, if_true, ite_self]
  · simp only [if_neg hbt]
    have p3 := p (by omega)
    clear p
    by_cases hneg : vl < 0
    · simp only [if_pos hneg]
      have d4 := d1.2 hneg
      clear d1
      by_cases hq : vm = vl
      · simp only [if_pos hq]
        by_cases hc : vl < vp
        · have hw : vq < vt := by omega
          simp only [if_pos hc, if_pos hw, if_true]
        · have hw : ¬ vq < vt := by omega
          simp only [if_neg hc, if_neg hw, if_true]
      · simp only [if_neg hq]
        by_cases hc : vl < vp
        · have hw : vs < vt := by omega
          simp only [if_pos hc, if_pos hw, if_true]
        · have hw : ¬ vs < vt := by omega
          simp only [if_neg hc, if_neg hw, if_true]
    · simp only [if_neg hneg]
      have d4 := d1.1 (by omega)
      clear d1
      by_cases hc : vl < vp
      · have hw : vq < vt := by omega
        simp only [if_pos hc, if_pos hw, if_true]
      · have hw : ¬ vq < vt := by omega
        simp only [if_neg hc, if_neg hw, if_true]
theorem own_bit (y : Int64) (x : Int32) (h0 : -600000000000000000 ≤ y.toInt - 1) (h1 : y.toInt ≤ 600000000000000000) : -600000000000000000 ≤ (y - ((x &&& (1 : Int32)).toInt64)).toInt ∧ (y - ((x &&& (1 : Int32)).toInt64)).toInt ≤ 600000000000000000 := by
  have k1 := c_mask x 1 1 (by decide +kernel) (by decide +kernel)
  have k2 := c_i2l (x &&& (1 : Int32))
  have w : ((2 ^ 1 : Nat) : Int) = 2 := by decide +kernel
  rw [w] at k1
  have s1 := c_lsub y ((x &&& (1 : Int32)).toInt64)
  have s2 := rng64 (y - ((x &&& (1 : Int32)).toInt64))
  rw [k2, k1] at s1
  generalize (y - ((x &&& (1 : Int32)).toInt64)).toInt = v at *
  generalize y.toInt = u at *
  generalize x.toInt = t at *
  clear k1 k2 w
  omega
theorem own_46 (j0 j2 j4 j6 j8 : Int64) (i10 : Int32) (b cap lev tok : Int64) (hb0 : 0 ≤ b.toInt) (hb1 : b.toInt ≤ 10000000000) (hl0 : -600000000000000000 ≤ lev.toInt) (hl1 : lev.toInt ≤ 600000000000000000) (ht : -10000000000 ≤ tok.toInt) :
    own_f0_46 j0 j2 j4 j6 j8 i10 b cap lev tok = 1 := by
  have g := own_88 j0 j2 j4 j6 j8 i10 b cap lev tok hb0 hb1 hl0 hl1 ht
  unfold own_f0_46
  rw [g]
  by_cases c1 : (i10 &&& (2 : Int32)) = (0 : Int32)
  · rw [if_pos c1]
  rw [if_neg c1]
  by_cases c2 : b < tok
  · rw [if_pos c2]
  rw [if_neg c2]
  by_cases c3 : (-b) < tok
  · rw [if_pos c3]
    rw [Int64.lt_iff_toInt_lt] at c2 c3
    have n1 := c_lneg b
    have n2 := rng64 (-b)
    have p := own_x6 tok ht (by generalize (-b).toInt = v at *; generalize b.toInt = u at *; generalize tok.toInt = w at *; omega)
    have k := own_bit (tok * 60000000) ((i10.toUInt32 >>> ((2 : Int32) &&& 31).toUInt32).toInt32) (by rw [p]; clear p g; generalize (-b).toInt = v at *; generalize b.toInt = u at *; generalize tok.toInt = w at *; omega) (by rw [p]; clear p g; generalize (-b).toInt = v at *; generalize b.toInt = u at *; generalize tok.toInt = w at *; omega)
    exact own_88 _ _ _ _ _ _ _ _ _ _ hb0 hb1 k.1 k.2 ht
  · rw [if_neg c3]
theorem own_lev (j0 d : Int64) (t : Int) (hd : d.toInt = t) (h0 : 0 < t) (h1 : t ≤ 600000000000000001) : -600000000000000000 ≤ (j0 - (j0 / d) * d).toInt ∧ (j0 - (j0 / d) * d).toInt ≤ 600000000000000000 := by
  have q := c_lrem j0 d t hd
  have e1 := Int.emod_nonneg j0.toInt (b := t) (by omega)
  have e2 := Int.emod_lt_of_pos j0.toInt h0
  have e3 := Int.emod_nonneg (-j0.toInt) (b := t) (by omega)
  have e4 := Int.emod_lt_of_pos (-j0.toInt) h0
  by_cases h : 0 ≤ j0.toInt
  · rw [q.1 h]
    clear q
    generalize j0.toInt % t = u at *
    omega
  · rw [q.2 (by omega)]
    clear q
    generalize (-j0.toInt) % t = u at *
    omega
theorem own_tok (j4 : Int64) (h : j4.toInt < 0) : -10000000000 ≤ (j4 - (j4 / (10000000001 : Int64)) * (10000000001 : Int64)).toInt := by
  rw [(c_lrem j4 (10000000001 : Int64) 10000000001 (by decide +kernel)).2 h]
  generalize j4.toInt = v at *
  omega
theorem own_law (j0 : Int64) (j2 : Int64) (j4 : Int64) (j6 : Int64) (j8 : Int64) (i10 : Int32) : own_f0_0 j0 j2 j4 j6 j8 i10 = 1 := by
  have l0 : (0 : Int64).toInt = 0 := by decide +kernel
  have b := own_burst j6
  unfold own_f0_0
  generalize ((j6 &&& (9223372036854775807 : Int64)) - ((j6 &&& (9223372036854775807 : Int64)) / (10000000001 : Int64)) * (10000000001 : Int64)) = B at b ⊢
  have c := own_cap b.1 b.2
  have f := own_lev j0 ((B * (60000000 : Int64)) + (1 : Int64)) _ c (by generalize B.toInt = v at *; omega) (by generalize B.toInt = v at *; omega)
  by_cases h : j4 < (0 : Int64)
  · rw [if_pos h]
    rw [Int64.lt_iff_toInt_lt, l0] at h
    exact own_46 _ _ _ _ _ _ _ _ _ _ b.1 b.2 f.1 f.2 (own_tok j4 h)
  · rw [if_neg h]
    rw [Int64.lt_iff_toInt_lt, l0] at h
    exact own_46 _ _ _ _ _ _ _ _ _ _ b.1 b.2 f.1 f.2 (by generalize j4.toInt = v at *; omega)
set_option maxRecDepth 65536 in
set_option maxHeartbeats 40000000 in
theorem comes_1 {Post : Tables → Env → Array Value → State → Outcome → State → Prop} (hpost : ∀ tb e args s v u, (limb_1_1.after args s (.returned v) u = true ∧ limb_1_2.after args s (.returned v) u = true ∧ True) → FrameEnd s (.returned v) u (Jvm.fieldLocs frame_1_writes args s ++ Jvm.arrayLocs frame_1_arrays args s ++ Jvm.staticLocs frame_1_statics s) 16 128 → Post tb e args s (.returned v) u) :
    ArmFor flags0 classFile x code maxLocals ret World_1 tables_1 room_1 Calls_1 rest_1 Pre_1 Post := by
  intro l hfl _ _ p e ha hc hk s m args below hf hA hF happ hP
  obtain ⟨hcalls, hrest, hpre⟩ := hP
  obtain ⟨-, -, -, hnamed, -, -, -, hat⟩ := (Spec.applies_iff hf).mp happ
  obtain ⟨hg, hn⟩ := and_e (Cond.before_iff.mp (show (Jvm.Cond.and given_1 narrow_1).before args s = true from hpre))
  obtain ⟨hcount, hg⟩ := and_e hg
  obtain ⟨g0, hg⟩ := and_e hg
  obtain ⟨g1, hg⟩ := and_e hg
  obtain ⟨g2, hg⟩ := and_e hg
  obtain ⟨g3, hg⟩ := and_e hg
  obtain ⟨g4, hg⟩ := and_e hg
  have g5 := hg
  obtain ⟨w0, w1, w2, w3, w4, w5, rfl⟩ : ∃ w0 w1 w2 w3 w4 w5 : Value, args = #[w0, w1, w2, w3, w4, w5] := by
    have hs : args.size = 6 := by simpa [Cond.value, given_1] using hcount
    obtain ⟨L⟩ := args
    match L, hs with
    | [w0, w1, w2, w3, w4, w5], _ => exact ⟨w0, w1, w2, w3, w4, w5, rfl⟩
  have hw := fun d (hd : d ∈ tables_1) => atoms_spec (ws := Jvm.Cond.code x code maxLocals ret :: tables_1) hat d (List.mem_cons_of_mem _ hd)
  obtain ⟨i0, ei0⟩ := isL_v g0
  obtain rfl : w0 = (.long i0) := Option.some.inj ei0
  obtain ⟨i1, ei1⟩ := isL_v g1
  obtain rfl : w1 = (.long i1) := Option.some.inj ei1
  obtain ⟨i2, ei2⟩ := isL_v g2
  obtain rfl : w2 = (.long i2) := Option.some.inj ei2
  obtain ⟨i3, ei3⟩ := isL_v g3
  obtain rfl : w3 = (.long i3) := Option.some.inj ei3
  obtain ⟨i4, ei4⟩ := isL_v g4
  obtain rfl : w4 = (.long i4) := Option.some.inj ei4
  obtain ⟨i5, ei5⟩ := is_v g5
  obtain rfl : w5 = (.int i5) := Option.some.inj ei5
  obtain ⟨n, o, h1, h2, h3, _, L, rfl, ⟨rfl, N⟩, hq⟩ := rm0 l s _ hw tables_1 i0 i1 i2 i3 i4 i5 s.heap s.heap.size (Nat.le_refl _) p e ha hc hk s m _ below hf ((Spec.applies_iff_loose hf).mp happ).1 ⟨rfl, State.Warmed39.refl s, rfl⟩ trivial
  rw [own_law i0 i1 i2 i3 i4 i5] at h3 hq
  refine ⟨n, _, h1, h2, h3, hpost _ _ _ _ _ _ ⟨Cond.after_iff.mpr rfl, Cond.after_iff.mpr (eq_i res_at (Term.int_eval (1)) rfl), trivial⟩ ⟨hq.1, hq.2.1, (hq.2.2.sift fun y hy => Or.inr (N y hy)).mono (by decide) (by decide)⟩⟩
theorem main_1_1 : Claimed_1_1 := comes_1 fun _ _ _ _ _ _ h hF => ⟨h.1, hF⟩
theorem main_1_2 : Claimed_1_2 := comes_1 fun _ _ _ _ _ _ h hF => ⟨h.2.1, hF⟩
end Jvm.Pilot.@@N@@
namespace Jvm.Pilot.@@N@@
open Jvm Jvm.ClassFile Sem Op Lib Jvm.Free Jvm.Stand Jvm.Pilot.@@N@@.Jvm.D
/-! MADE BY PROGRAM (witnessworld.py) out of the Statement's table words and the real class files: 11 classes; the members and pool entries that the words name. The judged class is class 1, her method 1. -/
namespace start1
open Jvm.ClassFile
def u (s : String) : CpInfo := .utf8 (stringToUtf16 s)
/-- a pool by its gaps: so many unusable entries, then the entry; so many at the end -/
def gap : Nat → List CpInfo → List CpInfo
  | 0, r => r
  | n + 1, r => .unusable :: gap n r
def poolList (es : List (Nat × CpInfo)) (last : Nat) : List CpInfo := es.foldr (fun e r => gap e.1 (e.2 :: r)) (gap last [])
def pool (es : List (Nat × CpInfo)) (last : Nat) : Array CpInfo := ⟨poolList es last⟩
def fileOf (pool : Array CpInfo) (this : Nat) (attrs : Array Attribute := #[]) (ms : Array MethodInfo := #[]) (fl : Nat := 33) (sup : Nat := 0) (ifs : Array Nat := #[]) (fds : Array FieldInfo := #[]) : ClassFile where
  minorVersion := 0
  majorVersion := 65
  constantPool := pool
  accessFlags := fl
  thisClass := this
  superClass := sup
  interfaces := ifs
  fields := fds
  methods := ms
  attributes := attrs
def plain (name : String) (sup : Option ClassId) : Class where
  name := name
  kind := .ordinary
  loader := none
  accessFlags := 33
  super := sup
  interfaces := #[]
  cf := none
  fields := #[]
  methods := #[]
  instanceTypes := #[]
  staticTypes := #[]
  resolved := #[]
  callSites := []
  init := .initialized
  statics := none
  mirror := none

def pool0 : Array CpInfo := pool [(5, u "<init>"), (0, u "()V"), (1, .class_ 10), (1, u "java/lang/Object")] 113

def k0c0 : Code := { maxStack := 0, maxLocals := 1, code := object_method_1_code, exceptionTable := #[], attributes := #[] }
def k0m0 : Method := { name := "<init>", desc := "()V", sig := { parameters := [], returnType := none }, accessFlags := 1, code := some k0c0 }
/-- java/lang/Object -/
def k0 : Class := { plain "java/lang/Object" none with
  accessFlags := 33
  interfaces := #[]
  cf := some (fileOf pool0 8 #[] #[{ accessFlags := 1, nameIndex := 5, descriptorIndex := 6, attributes := #[] }] 33 0 #[] #[])
  fields := #[]
  methods := #[k0m0]
  instanceTypes := #[]
  staticTypes := #[]
  resolved := Array.replicate 124 none
  statics := none }

def pool1 : Array CpInfo := pool [(2, .class_ 4), (1, u "java/lang/Object"), (0, u "<init>"), (0, u "()V"), (2, .long 9223372036854775807), (1, .long 10000000001), (1, .long 60000000), (1, .class_ 16), (0, u "com/example/refill/refill/core/store/BucketLimits"), (0, .methodref 15 18), (0, .nameAndType 5 19), (0, u "(JJZ)V"), (0, .class_ 21), (0, u "com/example/refill/refill/core/store/TokenBucket"), (0, .methodref 20 23), (0, .nameAndType 5 24), (0, u "(JJ)V"), (0, .methodref 20 26), (0, .nameAndType 27 28), (0, u "holds"), (0, u "(Lcom/example/refill/refill/core/store/BucketLimits;J)Z"), (0, .class_ 30), (0, u "com/example/refill/refill/core/store/TokenBucketHoldsPinLaw"), (2, u "law"), (0, u "(JJJJJI)Z")] 3

def k1m0 : Method := { name := "<init>", desc := "()V", sig := { parameters := [], returnType := none }, accessFlags := 1, code := none }
def k1c1 : Code := { maxStack := 8, maxLocals := 25, code := code, exceptionTable := #[], attributes := #[] }
def k1m1 : Method := { name := "law", desc := "(JJJJJI)Z", sig := { parameters := [.long, .long, .long, .long, .long, .int], returnType := some .boolean }, accessFlags := 9, code := some k1c1 }
/-- com/example/refill/refill/core/store/TokenBucketHoldsPinLaw -/
def k1 : Class := { plain "com/example/refill/refill/core/store/TokenBucketHoldsPinLaw" (some 0) with
  accessFlags := 49
  interfaces := #[]
  cf := some (fileOf pool1 29 #[] #[{ accessFlags := 1, nameIndex := 5, descriptorIndex := 6, attributes := #[] }, { accessFlags := 9, nameIndex := 33, descriptorIndex := 34, attributes := #[] }] 49 2 #[] #[])
  fields := #[]
  methods := #[k1m0, k1m1]
  instanceTypes := #[]
  staticTypes := #[]
  resolved := Array.replicate 38 none
  statics := none }

def pool2 : Array CpInfo := pool [(1, .methodref 2 3), (0, .class_ 4), (0, .nameAndType 5 6), (0, u "java/lang/Object"), (0, u "<init>"), (0, u "()V"), (0, .class_ 8), (0, u "java/lang/Record")] 13

def k2c0 : Code := { maxStack := 1, maxLocals := 1, code := jdk_30_method_1_code, exceptionTable := #[], attributes := #[] }
def k2m0 : Method := { name := "<init>", desc := "()V", sig := { parameters := [], returnType := none }, accessFlags := 4, code := some k2c0 }
/-- java/lang/Record -/
def k2 : Class := { plain "java/lang/Record" (some 0) with
  accessFlags := 1057
  interfaces := #[]
  cf := some (fileOf pool2 7 #[] #[{ accessFlags := 4, nameIndex := 5, descriptorIndex := 6, attributes := #[] }] 1057 2 #[] #[])
  fields := #[]
  methods := #[k2m0]
  instanceTypes := #[]
  staticTypes := #[]
  resolved := Array.replicate 22 none
  statics := none }

def pool3 : Array CpInfo := pool [(1, .methodref 2 3), (0, .class_ 4), (0, .nameAndType 5 6), (0, u "java/lang/Record"), (0, u "<init>"), (0, u "()V"), (0, .fieldref 8 9), (0, .class_ 10), (0, .nameAndType 11 12), (0, u "com/example/refill/refill/core/store/BucketLimits"), (0, u "burstTokens"), (0, u "J"), (0, .fieldref 8 14), (0, .nameAndType 15 12), (0, u "tokensPerMinute"), (0, .fieldref 8 17), (0, .nameAndType 18 19), (0, u "heldAcrossLoss"), (0, u "Z"), (2, u "(JJZ)V"), (13, .class_ 38), (1, u "com/example/refill/refill/core/store/BucketLimits$1"), (22, u "()J"), (23, u "UNITS_PER_TOKEN"), (1, u "MICROS_PER_SECOND")] 35

def k3c0 : Code := { maxStack := 3, maxLocals := 6, code := prog_63_method_2_code, exceptionTable := #[], attributes := #[] }
def k3m0 : Method := { name := "<init>", desc := "(JJZ)V", sig := { parameters := [.long, .long, .boolean], returnType := none }, accessFlags := 1, code := some k3c0 }
def k3c1 : Code := { maxStack := 2, maxLocals := 1, code := prog_63_method_9_code, exceptionTable := #[], attributes := #[] }
def k3m1 : Method := { name := "burstTokens", desc := "()J", sig := { parameters := [], returnType := some .long }, accessFlags := 1, code := some k3c1 }
/-- com/example/refill/refill/core/store/BucketLimits -/
def k3 : Class := { plain "com/example/refill/refill/core/store/BucketLimits" (some 2) with
  accessFlags := 49
  interfaces := #[]
  cf := some (fileOf pool3 8 #[.nestMembers #[36]] #[{ accessFlags := 1, nameIndex := 5, descriptorIndex := 22, attributes := #[] }, { accessFlags := 1, nameIndex := 11, descriptorIndex := 61, attributes := #[] }] 49 2 #[] #[{ accessFlags := 18, nameIndex := 11, descriptorIndex := 12, attributes := #[] }, { accessFlags := 18, nameIndex := 15, descriptorIndex := 12, attributes := #[] }, { accessFlags := 18, nameIndex := 18, descriptorIndex := 19, attributes := #[] }, { accessFlags := 25, nameIndex := 85, descriptorIndex := 12, attributes := #[] }, { accessFlags := 26, nameIndex := 87, descriptorIndex := 12, attributes := #[] }])
  fields := #[{ name := "burstTokens", type := .long, accessFlags := 18, slot := 0, constantValue := 0 }, { name := "tokensPerMinute", type := .long, accessFlags := 18, slot := 1, constantValue := 0 }, { name := "heldAcrossLoss", type := .boolean, accessFlags := 18, slot := 2, constantValue := 0 }, { name := "UNITS_PER_TOKEN", type := .long, accessFlags := 25, slot := 0, constantValue := 0 }, { name := "MICROS_PER_SECOND", type := .long, accessFlags := 26, slot := 1, constantValue := 0 }]
  methods := #[k3m0, k3m1]
  instanceTypes := #[.long, .long, .boolean]
  staticTypes := #[.long, .long]
  resolved := Array.replicate 123 none
  statics := none }

def pool4 : Array CpInfo := pool [(1, .methodref 2 3), (0, .class_ 4), (0, .nameAndType 5 6), (0, u "java/lang/Record"), (0, u "<init>"), (0, u "()V"), (0, .fieldref 8 9), (0, .class_ 10), (0, .nameAndType 11 12), (0, u "com/example/refill/refill/core/store/TokenBucket"), (0, u "levelUnits"), (0, u "J"), (0, .fieldref 8 14), (0, .nameAndType 15 12), (0, u "updatedMicros"), (1, .class_ 19), (1, u "com/example/refill/refill/core/store/BucketLimits"), (1, u "()J"), (2, u "(JJ)V"), (7, .methodref 17 33), (0, .nameAndType 34 21), (0, u "burstTokens"), (0, .long 60000000), (40, u "holds"), (0, u "(Lcom/example/refill/refill/core/store/BucketLimits;J)Z")] 33

def k4c0 : Code := { maxStack := 3, maxLocals := 5, code := prog_75_method_1_code, exceptionTable := #[], attributes := #[] }
def k4m0 : Method := { name := "<init>", desc := "(JJ)V", sig := { parameters := [.long, .long], returnType := none }, accessFlags := 1, code := some k4c0 }
def k4c1 : Code := { maxStack := 6, maxLocals := 4, code := prog_75_method_5_code, exceptionTable := #[], attributes := #[] }
def k4m1 : Method := { name := "holds", desc := "(Lcom/example/refill/refill/core/store/BucketLimits;J)Z", sig := { parameters := [(.object "com/example/refill/refill/core/store/BucketLimits"), .long], returnType := some .boolean }, accessFlags := 1, code := some k4c1 }
/-- com/example/refill/refill/core/store/TokenBucket -/
def k4 : Class := { plain "com/example/refill/refill/core/store/TokenBucket" (some 2) with
  accessFlags := 49
  interfaces := #[]
  cf := some (fileOf pool4 8 #[] #[{ accessFlags := 1, nameIndex := 5, descriptorIndex := 24, attributes := #[] }, { accessFlags := 1, nameIndex := 76, descriptorIndex := 77, attributes := #[] }] 49 2 #[] #[{ accessFlags := 18, nameIndex := 11, descriptorIndex := 12, attributes := #[] }, { accessFlags := 18, nameIndex := 15, descriptorIndex := 12, attributes := #[] }])
  fields := #[{ name := "levelUnits", type := .long, accessFlags := 18, slot := 0, constantValue := 0 }, { name := "updatedMicros", type := .long, accessFlags := 18, slot := 1, constantValue := 0 }]
  methods := #[k4m0, k4m1]
  instanceTypes := #[.long, .long]
  staticTypes := #[]
  resolved := Array.replicate 111 none
  statics := none }

def pool5 : Array CpInfo := pool [(1, u "java/lang/Cloneable"), (0, .class_ 1), (0, u "java/lang/Object"), (0, .class_ 3)] 3

/-- java/lang/Cloneable -/
def k5 : Class := { plain "java/lang/Cloneable" (some 0) with
  accessFlags := 1537
  interfaces := #[]
  cf := some (fileOf pool5 2 #[] #[] 1537 4 #[] #[])
  fields := #[]
  methods := #[]
  instanceTypes := #[]
  staticTypes := #[]
  resolved := Array.replicate 8 none
  statics := none }

def pool6 : Array CpInfo := pool [(1, u "java/io/Serializable"), (0, .class_ 1), (0, u "java/lang/Object"), (0, .class_ 3)] 3

/-- java/io/Serializable -/
def k6 : Class := { plain "java/io/Serializable" (some 0) with
  accessFlags := 1537
  interfaces := #[]
  cf := some (fileOf pool6 2 #[] #[] 1537 4 #[] #[])
  fields := #[]
  methods := #[]
  instanceTypes := #[]
  staticTypes := #[]
  resolved := Array.replicate 8 none
  statics := none }

/-- the primitive byte -/
def k7 : Class := { plain "byte" none with kind := .primitive 'B', accessFlags := 0x411 }
/-- [B -/
def k8 : Class := { plain "[B" (some 0) with kind := .array 7 .byte, interfaces := #[5, 6], accessFlags := 1041 }

/-- the primitive int -/
def k9 : Class := { plain "int" none with kind := .primitive 'I', accessFlags := 0x411 }
/-- [I -/
def k10 : Class := { plain "[I" (some 0) with kind := .array 9 .int, interfaces := #[5, 6], accessFlags := 1041 }

def heap : Heap := #[]
def classes : Array Class := #[k0, k1, k2, k3, k4, k5, k6, k7, k8, k9, k10]
def interned : List (Array UInt16 × Addr) := []
def slotsUsed : Nat := 0
def theMethod : MethodId := ⟨1, 1⟩
def args0 : Array Value := #[.long 5, .long 6, .long 7, .long 8, .long 9, .int 10]
def aboutOver (below : List Frame) : State where
  vm := { classes := classes, interned := interned.toArray }
  heap := heap
  slotsUsed := slotsUsed
  threads := #[{ frames := .invoking theMethod args0 :: below }]
def below0 : List Frame := [.native { method := ⟨0, 0⟩, args := #[] }]
def about1 : State := aboutOver below0
def p0 : Program := .bare "" "" ""
def e0 : Env := launch0.env 0 0 0
theorem w_frames : about1.frames = Frame.invoking theMethod args0 :: below0 := rfl
set_option maxRecDepth 65536 in
theorem w_args : argsFit about1.vm theMethod args0 = true := by decide +kernel
set_option maxRecDepth 65536 in
theorem w_heap : heapFits about1 = true := by decide +kernel
set_option maxRecDepth 65536 in
theorem w_runnable : about1.curStatus? = some .runnable := by decide +kernel
set_option maxRecDepth 65536 in
theorem w_alone : about1.alone = true := by decide +kernel
set_option maxRecDepth 65536 in
theorem w_named : about1.methodNamed? x = some theMethod := by decide +kernel
set_option maxRecDepth 65536 in
theorem w_hears : about1.hears theMethod below0 = true := by decide +kernel
set_option maxRecDepth 65536 in
theorem w_ripe : about1.ripe theMethod args0 below0 = true := by decide +kernel
theorem w_running : about1.status = .running := rfl
set_option maxRecDepth 65536 in
theorem w_room : about1.hasRoom e0.platform room_1 = true :=
  launch0.hasRoom_least _ room_1 (by decide +kernel) (by decide +kernel) (by decide +kernel) (by decide +kernel) (by decide +kernel) (by decide +kernel)
theorem allAtoms_all (ts : List Jvm.Cond) (a : Array Jvm.Value) (st : Jvm.State) : (allAtoms ts).before a st = ts.all (fun c => c.before a st) := by
  induction ts with
  | nil => rfl
  | cons c t ih =>
    show (Jvm.Cond.and c (allAtoms t)).before a st = _
    rw [Jvm.Cond.before_and, ih, List.all_cons]
def words1 : List Jvm.Cond := Jvm.Cond.code x code maxLocals ret :: tables_1
/-- a 'code' word, met by the world's own term for the bytes: nothing is compared byte by byte -/
theorem code_word {y : MethodName} {bytes : ByteArray} {mx : Nat} {rt : Option FieldType} {a : Array Value} {s : State} {m : MethodId} {meth : Method} {c : Code} (h1 : s.methodNamed? y = some m) (h2 : s.vm.method? m = some meth) (h3 : meth.code = some c) (h4 : c.code = bytes)
    (h5 : (c.maxLocals == mx && c.exceptionTable.isEmpty && decide (c.maxStack ≤ mostOperands) && decide (meth.sig.returnType = rt) && !meth.locks && decide (parseMethodDescriptor y.desc = some meth.sig)) = true) : (Jvm.Cond.code y bytes mx rt).before a s = true := by
  simp only [Bool.and_eq_true, beq_iff_eq, Bool.not_eq_true', decide_eq_true_eq] at h5
  obtain ⟨⟨⟨⟨⟨g1, g2⟩, g3⟩, g4⟩, g5⟩, g6⟩ := h5
  simp [Cond.before, Cond.holds, Cond.value, h1, h2, h3, h4, g1, g2, g3, g4, g5, g6]
def isCode : Jvm.Cond → Bool
  | .code _ _ _ _ => true
  | _ => false
theorem all_split {L : List Jvm.Cond} {P : Jvm.Cond → Bool} (h1 : L.all (fun c => isCode c || P c) = true) (h2 : ∀ c ∈ L.filter isCode, P c = true) : L.all P = true := by
  refine List.all_eq_true.mpr fun c hc => ?_
  have h := List.all_eq_true.mp h1 c hc
  rcases Bool.eq_false_or_eq_true (isCode c) with hi | hi
  · exact h2 c (List.mem_filter.mpr ⟨hc, hi⟩)
  · simpa [hi] using h
set_option maxRecDepth 65536 in
theorem w_c0 : (Jvm.Cond.code x code maxLocals ret).before args0 about1 = true := code_word (m := ⟨1, 1⟩) (meth := k1m1) (c := k1c1) (by decide +kernel) rfl rfl rfl (by decide +kernel)
set_option maxRecDepth 65536 in
theorem w_c1 : (Jvm.Cond.code ({ cls := "com/example/refill/refill/core/store/BucketLimits", name := "<init>", desc := "(JJZ)V" } : Jvm.MethodName) prog_63_method_2_code (6 : Nat) (Option.none : Option Jvm.ClassFile.FieldType)).before args0 about1 = true := code_word (m := ⟨3, 0⟩) (meth := k3m0) (c := k3c0) (by decide +kernel) rfl rfl rfl (by decide +kernel)
set_option maxRecDepth 65536 in
theorem w_c2 : (Jvm.Cond.code ({ cls := "java/lang/Record", name := "<init>", desc := "()V" } : Jvm.MethodName) jdk_30_method_1_code (1 : Nat) (Option.none : Option Jvm.ClassFile.FieldType)).before args0 about1 = true := code_word (m := ⟨2, 0⟩) (meth := k2m0) (c := k2c0) (by decide +kernel) rfl rfl rfl (by decide +kernel)
set_option maxRecDepth 65536 in
theorem w_c3 : (Jvm.Cond.code ({ cls := "java/lang/Object", name := "<init>", desc := "()V" } : Jvm.MethodName) object_method_1_code (1 : Nat) (Option.none : Option Jvm.ClassFile.FieldType)).before args0 about1 = true := code_word (m := ⟨0, 0⟩) (meth := k0m0) (c := k0c0) (by decide +kernel) rfl rfl rfl (by decide +kernel)
set_option maxRecDepth 65536 in
theorem w_c4 : (Jvm.Cond.code ({ cls := "com/example/refill/refill/core/store/TokenBucket", name := "<init>", desc := "(JJ)V" } : Jvm.MethodName) prog_75_method_1_code (5 : Nat) (Option.none : Option Jvm.ClassFile.FieldType)).before args0 about1 = true := code_word (m := ⟨4, 0⟩) (meth := k4m0) (c := k4c0) (by decide +kernel) rfl rfl rfl (by decide +kernel)
set_option maxRecDepth 65536 in
theorem w_c5 : (Jvm.Cond.code ({ cls := "com/example/refill/refill/core/store/TokenBucket", name := "holds", desc := "(Lcom/example/refill/refill/core/store/BucketLimits;J)Z" } : Jvm.MethodName) prog_75_method_5_code (4 : Nat) (Option.some Jvm.ClassFile.FieldType.boolean)).before args0 about1 = true := code_word (m := ⟨4, 1⟩) (meth := k4m1) (c := k4c1) (by decide +kernel) rfl rfl rfl (by decide +kernel)
set_option maxRecDepth 65536 in
theorem w_c6 : (Jvm.Cond.code ({ cls := "com/example/refill/refill/core/store/BucketLimits", name := "burstTokens", desc := "()J" } : Jvm.MethodName) prog_63_method_9_code (1 : Nat) (Option.some Jvm.ClassFile.FieldType.long)).before args0 about1 = true := code_word (m := ⟨3, 1⟩) (meth := k3m1) (c := k3c1) (by decide +kernel) rfl rfl rfl (by decide +kernel)
def codes1 : List Jvm.Cond := [Jvm.Cond.code x code maxLocals ret, Jvm.Cond.code ({ cls := "com/example/refill/refill/core/store/BucketLimits", name := "<init>", desc := "(JJZ)V" } : Jvm.MethodName) prog_63_method_2_code (6 : Nat) (Option.none : Option Jvm.ClassFile.FieldType), Jvm.Cond.code ({ cls := "java/lang/Record", name := "<init>", desc := "()V" } : Jvm.MethodName) jdk_30_method_1_code (1 : Nat) (Option.none : Option Jvm.ClassFile.FieldType), Jvm.Cond.code ({ cls := "java/lang/Object", name := "<init>", desc := "()V" } : Jvm.MethodName) object_method_1_code (1 : Nat) (Option.none : Option Jvm.ClassFile.FieldType), Jvm.Cond.code ({ cls := "com/example/refill/refill/core/store/TokenBucket", name := "<init>", desc := "(JJ)V" } : Jvm.MethodName) prog_75_method_1_code (5 : Nat) (Option.none : Option Jvm.ClassFile.FieldType), Jvm.Cond.code ({ cls := "com/example/refill/refill/core/store/TokenBucket", name := "holds", desc := "(Lcom/example/refill/refill/core/store/BucketLimits;J)Z" } : Jvm.MethodName) prog_75_method_5_code (4 : Nat) (Option.some Jvm.ClassFile.FieldType.boolean), Jvm.Cond.code ({ cls := "com/example/refill/refill/core/store/BucketLimits", name := "burstTokens", desc := "()J" } : Jvm.MethodName) prog_63_method_9_code (1 : Nat) (Option.some Jvm.ClassFile.FieldType.long)]
set_option maxRecDepth 65536 in
theorem codes_eq : words1.filter isCode = codes1 := rfl
theorem w_codes : ∀ c ∈ words1.filter isCode, c.before args0 about1 = true := by
  rw [codes_eq]
  intro c hc
  simp only [codes1, List.mem_cons, List.not_mem_nil, or_false] at hc
  rcases hc with rfl | rfl | rfl | rfl | rfl | rfl | rfl
  · exact w_c0
  · exact w_c1
  · exact w_c2
  · exact w_c3
  · exact w_c4
  · exact w_c5
  · exact w_c6
set_option maxRecDepth 65536 in
theorem w_t1 : (words1.take 24).all (fun c => isCode c || c.before args0 about1) = true := by decide +kernel
set_option maxRecDepth 65536 in
theorem w_t2 : (words1.drop 24).all (fun c => isCode c || c.before args0 about1) = true := by decide +kernel
theorem w_tables : (allAtoms (Jvm.Cond.code x code maxLocals ret :: tables_1)).before args0 about1 = true := by
  rw [allAtoms_all]
  show words1.all (fun c => c.before args0 about1) = true
  refine all_split ?_ w_codes
  rw [← List.take_append_drop 24 words1, List.all_append, w_t1, w_t2]
  rfl
set_option maxRecDepth 65536 in
theorem w_case : (Jvm.Cond.and given_1 narrow_1).before args0 about1 = true := by decide +kernel
theorem w_applies : (headSpec (Jvm.Cond.code x code maxLocals ret :: tables_1) room_1).applies x e0.platform about1 = true :=
  (Spec.applies_iff w_frames).mpr ⟨w_running, w_runnable, w_alone, w_named, w_hears, w_ripe, w_room, w_tables⟩
theorem atStart : AtStart classFile x code maxLocals ret World_1 tables_1 room_1 Calls_1 rest_1 Pre_1 launch0 p0 e0 about1 theMethod args0 below0 :=
  ⟨lists_1, trivial, launch0.admits_env _ _ _, launch0.least_env, fairChoices_fair.cas, fairChoices_fair.clock, w_frames, w_args, w_heap, w_applies, trivial, trivial, w_case⟩
end start1
theorem witness_1 : WitnessClaimed_1 := ⟨start1.p0, start1.e0, start1.about1, start1.theMethod, start1.args0, start1.below0, start1.atStart⟩
end Jvm.Pilot.@@N@@
