import JvmDerived
import JvmDerived.Pilot.@@N@@Statement
import JvmDerived.Pilot.@@N@@Code
set_option linter.unusedVariables false
set_option linter.unusedSimpArgs false
set_option maxHeartbeats 40000000
set_option maxRecDepth 65536
namespace Jvm.RoadKit
open Sem ClassFile Op Lib Jvm.Stand Jvm.Free Jvm.LawKit
section New
variable {p : Program} {l : Launch} {e : Env} {R : Room} {s : State} {m : MethodId} {args : Array Value} {below : List Frame} {meth : Method} {c : Code} {T : State} {locs : List Loc} {cells slots : Nat}
theorem retI (X : Stand p l e R s m args below meth c T locs cells slots) (hx : p.tables.exec = Jvm.exec) {pc : Nat} {Ls : Array Slot} {z : Int32} {rest : List Value} (hret : meth.sig.returnType = some .int) (hd : decode c.code pc = .ok (.ireturn, 1)) {fs : List Frame}
    (hl : ∀ (f : JFrame) (acts : List Action), f.method = m → f.locked = none → f.entered = [] → (doReturn e (T.setTop f) acts (some (.int z))).1 = T.setFrames fs) : Steps p.tables e below (T.setTop (mkF m pc Ls (.int z :: rest))) (T.setFrames fs) := by
  have hm' : T.vm.method? m = some meth := X.method'
  have hn : narrow .int (.int z) = .int z := rfl
  show Steps p.tables e below (T.setTop { method := m, pc := pc, locals := Ls, stack := _ :: rest, locked := none }) _
  jvm_step X.here [X.here.top, hx, hd, hm', hret, hn]
  first | (intro acts; rw [hl _ acts rfl rfl rfl]) | rw [hl _ _ rfl rfl rfl]
  exact Steps.refl _
end New
end Jvm.RoadKit
namespace Jvm.Pilot.@@N@@
open Jvm Jvm.ClassFile Sem Op Lib Jvm.Free Jvm.Stand Jvm.LawKit Jvm.RoadKit Bundle Jvm.Pilot.@@N@@.Jvm.D
theorem d2_0 : decode jdk_30_method_1_code 0 = .ok (.aload_n 0, 1) := by decide +kernel
theorem d2_1 : decode jdk_30_method_1_code 1 = .ok (.invokespecial 1, 3) := by decide +kernel
theorem d2_4 : decode jdk_30_method_1_code 4 = .ok (.return_, 1) := by decide +kernel
theorem pn_2 : plainName "java/lang/Record" = true := by first | (simp [plainName, overriddenIn]; done) | decide +kernel
theorem ef_2 (m : MethodId) (a0 : Addr) : entryFrame m #[(.ref a0)] 1 = mkF m 0 #[.val (.ref a0)] [] := by first | (simp [entryFrame, mkF, argsToLocals, Value.category]; done) | rfl
set_option maxRecDepth 65536 in
set_option maxHeartbeats 40000000 in
theorem own_b2_0 {p : Program} {l : Launch} {e : Env} {s : State} {m : MethodId} {args : Array Value} {below : List Frame} {meth : Method} {c : Code} {Z : State} {a0_ : Array Value} (hx : p.tables.exec = Jvm.exec) (hZ : Z.Warmed39 s.vm) (hw : ∀ d ∈ tables_1, d.before a0_ Z = true) (hby : c.code = jdk_30_method_1_code) (hml : c.maxLocals = 1) (hown : s.vm.findClass "java/lang/Record" = some m.cls) (hret : meth.sig.returnType = none) (hnm : meth.name = "<init>") {T0 : State} {locs : List Loc} {cells slots : Nat} {h0 : Heap} (a0 : Addr)
    (X0 : Stand p l e ({ frames := 1, cells := 0, slots := 0, locals := 12 } : Room) s m args below meth c T0 locs cells slots) (e0 : T0.heap = h0) (hcl : cells ≤ ({ frames := 1, cells := 0, slots := 0, locals := 12 } : Room).cells) (hsl : slots ≤ ({ frames := 1, cells := 0, slots := 0, locals := 12 } : Room).slots)  :
    ∃ T', Stand p l e ({ frames := 1, cells := 0, slots := 0, locals := 12 } : Room) s m args below meth c T' locs cells slots ∧ T'.heap = h0 ∧ ∀ fs, (∀ (f : JFrame) (acts : List Action), f.method = m → f.locked = none → f.entered = [] → (doReturn e (T'.setTop f) acts (none)).1 = T'.setFrames fs) → Steps p.tables e below (T0.setTop (mkF m 0 #[.val (.ref a0)] [])) (T'.setFrames fs) := by
  obtain ⟨T1, X1, e1, st1⟩ := initO X0 hx hZ hown (hw _ (List.mem_of_getElem? (i := 11) rfl)) (hw _ (List.mem_of_getElem? (i := 12) rfl)) (hw _ (List.mem_of_getElem? (i := 13) rfl)) e0 (g := (mkF m 1 #[.val (.ref a0)] [(.ref a0)])) rfl (by rw [hml]; rfl) rfl (hb hby d2_1) (by decide) (W := 0) (by show 2 * 0 + _ ≤ _; exact Nat.le_of_eq rfl) (by decide)
  refine ⟨T1, X1, e1, fun fs hr => ?_⟩
  show Steps p.tables e below (T0.setTop (mkF m 0 #[.val (.ref a0)] [])) _
  refine XS.aloadN X0.here hx rfl (hb hby d2_0) rfl rfl ?_
  show Steps p.tables e below (T0.setTop (mkF m 1 #[.val (.ref a0)] [(.ref a0)])) _
  refine st1 _ ?_
  show Steps p.tables e below (T1.setTop (mkF m 4 #[.val (.ref a0)] [])) _
  exact X1.returnOut hx hret (hb hby d2_4) hr
def Q2 (Z : State) (a0 : Addr) (h0 : Heap) (n0 : Nat) (v : Option Value) (h : Heap) (L : List Loc) : Prop := v = none ∧ L = [] ∧ h = h0
set_option maxRecDepth 65536 in
set_option maxHeartbeats 40000000 in
theorem rm2 (l : Launch) (Z : State) (a0_ : Array Value) (hw : ∀ d ∈ tables_1, d.before a0_ Z = true) (ws : List Jvm.Cond) (a0 : Addr) (h0 : Heap) (n0 : Nat) (Z0 : n0 ≤ h0.size)  :
    MetFree l (⟨"java/lang/Record", "<init>", "()V"⟩ : MethodName) (head1 (Jvm.Cond.code (⟨"java/lang/Record", "<init>", "()V"⟩ : MethodName) jdk_30_method_1_code 1 none :: ws) ({ frames := 1, cells := 0, slots := 0, locals := 12 } : Room)) (fun a U => a = #[(.ref a0)] ∧ Z.Warmed39 U.vm ∧ U.heap = h0) (fun _ _ _ _ _ => True) (fun _ U o U' => ∃ v L, o = .returned v ∧ Q2 Z a0 h0 n0 v U'.heap L ∧ FrameEnd U o U' L ({ frames := 1, cells := 0, slots := 0, locals := 12 } : Room).cells ({ frames := 1, cells := 0, slots := 0, locals := 12 } : Room).slots) := by
  refine MetFree.of_bodySF (plainFor_of_name pn_2) hisR ?_
  intro p e s m args below meth c s₁ Bd hml0 hP hK
  obtain ⟨rfl, hZ, hh⟩ := hP
  have hx := Bd.exec
  have hby := Bd.bytes
  have hml : c.maxLocals = 1 := hml0
  have hown : s.vm.findClass "java/lang/Record" = some m.cls := findClass_of_methodNamed Bd.named
  have X0 : Stand p l e ({ frames := 1, cells := 0, slots := 0, locals := 12 } : Room) s m #[(.ref a0)] below meth c s₁ [] 0 0 := Stand.of_body Bd
  have e0 : s₁.heap = h0 := by rw [← hh, Bd.state]; rfl
  have hnm := (name_of_methodNamed Bd.named Bd.method).1
  obtain ⟨T', X', e', st'⟩ := own_b2_0 hx hZ hw hby hml hown Bd.returns hnm a0 X0 e0 (by decide) (by decide) 
  obtain ⟨fs, hr, hrun, hended, hW, hsame⟩ := X'.leave (v := none) (fun _ => rfl)
  refine ⟨_, _, castTop (ef_2 m a0) (st' fs hr), hrun, hended, _, _, rfl, ?_, ⟨_, rfl⟩, hW, hsame.mono (by decide) (by decide)⟩
  exact ⟨rfl, rfl, e'⟩
theorem d1_0 : decode prog_11_method_1_code 0 = .ok (.aload_n 0, 1) := by decide +kernel
theorem d1_1 : decode prog_11_method_1_code 1 = .ok (.invokespecial 1, 3) := by decide +kernel
theorem d1_4 : decode prog_11_method_1_code 4 = .ok (.aload_n 0, 1) := by decide +kernel
theorem d1_5 : decode prog_11_method_1_code 5 = .ok (.lload_n 1, 1) := by decide +kernel
theorem d1_6 : decode prog_11_method_1_code 6 = .ok (.putfield 7, 3) := by decide +kernel
theorem d1_9 : decode prog_11_method_1_code 9 = .ok (.aload_n 0, 1) := by decide +kernel
theorem d1_10 : decode prog_11_method_1_code 10 = .ok (.lload_n 3, 1) := by decide +kernel
theorem d1_11 : decode prog_11_method_1_code 11 = .ok (.putfield 13, 3) := by decide +kernel
theorem d1_14 : decode prog_11_method_1_code 14 = .ok (.aload_n 0, 1) := by decide +kernel
theorem d1_15 : decode prog_11_method_1_code 15 = .ok (.iload 5, 2) := by decide +kernel
theorem d1_17 : decode prog_11_method_1_code 17 = .ok (.putfield 16, 3) := by decide +kernel
theorem d1_20 : decode prog_11_method_1_code 20 = .ok (.aload_n 0, 1) := by decide +kernel
theorem d1_21 : decode prog_11_method_1_code 21 = .ok (.iload 6, 2) := by decide +kernel
theorem d1_23 : decode prog_11_method_1_code 23 = .ok (.putfield 20, 3) := by decide +kernel
theorem d1_26 : decode prog_11_method_1_code 26 = .ok (.return_, 1) := by decide +kernel
theorem pn_1 : plainName "com/example/rollcalldb/rollcalldb/command/IndexRange" = true := by first | (simp [plainName, overriddenIn]; done) | decide +kernel
theorem pd_1_0 : parseMethodDescriptor "()V" = some ⟨[], none⟩ := by decide +kernel
theorem ef_1 (m : MethodId) (a0 : Addr) (j1 : Int64) (j3 : Int64) (i5 : Int32) (i6 : Int32) : entryFrame m #[(.ref a0), (.long j1), (.long j3), (.int i5), (.int i6)] 7 = mkF m 0 #[.val (.ref a0), .val (.long j1), .second, .val (.long j3), .second, .val (.int i5), .val (.int i6)] [] := by first | (simp [entryFrame, mkF, argsToLocals, Value.category]; done) | rfl
def own_o1_start (j1 : Int64) (j3 : Int64) (i5 : Int32) (i6 : Int32) (w_start : Int64) (w_end : Int64) (w_inBits : Int32) (w_openEnded : Int32) : Int64 :=
  j1
def own_o1_end (j1 : Int64) (j3 : Int64) (i5 : Int32) (i6 : Int32) (w_start : Int64) (w_end : Int64) (w_inBits : Int32) (w_openEnded : Int32) : Int64 :=
  j3
def own_o1_inBits (j1 : Int64) (j3 : Int64) (i5 : Int32) (i6 : Int32) (w_start : Int64) (w_end : Int64) (w_inBits : Int32) (w_openEnded : Int32) : Int32 :=
  (nar .boolean i5)
def own_o1_openEnded (j1 : Int64) (j3 : Int64) (i5 : Int32) (i6 : Int32) (w_start : Int64) (w_end : Int64) (w_inBits : Int32) (w_openEnded : Int32) : Int32 :=
  (nar .boolean i6)
set_option maxRecDepth 65536 in
set_option maxHeartbeats 40000000 in
theorem own_b1_0 {p : Program} {l : Launch} {e : Env} {s : State} {m : MethodId} {args : Array Value} {below : List Frame} {meth : Method} {c : Code} {Z : State} {a0_ : Array Value} {n0 : Nat} (hx : p.tables.exec = Jvm.exec) (hZ : Z.Warmed39 s.vm) (hw : ∀ d ∈ tables_1, d.before a0_ Z = true) (hby : c.code = prog_11_method_1_code) (hml : c.maxLocals = 7) (hown : s.vm.findClass "com/example/rollcalldb/rollcalldb/command/IndexRange" = some m.cls) (hret : meth.sig.returnType = none) (hnm : meth.name = "<init>") {T0 : State} {locs : List Loc} {h0 : Heap} (a0 : Addr) (j1 : Int64) (j3 : Int64) (i5 : Int32) (i6 : Int32) (w_start : Int64) (w_end : Int64) (w_inBits : Int32) (w_openEnded : Int32)
    (X0 : Stand p l e ({ frames := 2, cells := 0, slots := 0, locals := 24 } : Room) s m args below meth c T0 locs 0 0) (e0 : T0.heap = h0) (N0 : Fr n0 locs) (Z0 : n0 ≤ h0.size) (E_a0 : Exa Z h0 a0 "com/example/rollcalldb/rollcalldb/command/IndexRange") (g_a0 : n0 ≤ a0) (F_start_a0 : Fld Z h0 a0 "com/example/rollcalldb/rollcalldb/command/IndexRange" "start" "J" (.long w_start)) (F_end_a0 : Fld Z h0 a0 "com/example/rollcalldb/rollcalldb/command/IndexRange" "end" "J" (.long w_end)) (F_inBits_a0 : Fld Z h0 a0 "com/example/rollcalldb/rollcalldb/command/IndexRange" "inBits" "Z" (.int w_inBits)) (F_openEnded_a0 : Fld Z h0 a0 "com/example/rollcalldb/rollcalldb/command/IndexRange" "openEnded" "Z" (.int w_openEnded)) :
    ∃ T' h' locs', Stand p l e ({ frames := 2, cells := 0, slots := 0, locals := 24 } : Room) s m args below meth c T' locs' 0 0 ∧ T'.heap = h' ∧ Fr n0 locs' ∧ Keep h0 h' [a0] ∧ Exa Z h' a0 "com/example/rollcalldb/rollcalldb/command/IndexRange" ∧ Fld Z h' a0 "com/example/rollcalldb/rollcalldb/command/IndexRange" "start" "J" (.long (own_o1_start j1 j3 i5 i6 w_start w_end w_inBits w_openEnded)) ∧ Fld Z h' a0 "com/example/rollcalldb/rollcalldb/command/IndexRange" "end" "J" (.long (own_o1_end j1 j3 i5 i6 w_start w_end w_inBits w_openEnded)) ∧ Fld Z h' a0 "com/example/rollcalldb/rollcalldb/command/IndexRange" "inBits" "Z" (.int (own_o1_inBits j1 j3 i5 i6 w_start w_end w_inBits w_openEnded)) ∧ Fld Z h' a0 "com/example/rollcalldb/rollcalldb/command/IndexRange" "openEnded" "Z" (.int (own_o1_openEnded j1 j3 i5 i6 w_start w_end w_inBits w_openEnded)) ∧ ∀ fs, (∀ (f : JFrame) (acts : List Action), f.method = m → f.locked = none → f.entered = [] → (doReturn e (T'.setTop f) acts (none)).1 = T'.setFrames fs) → Steps p.tables e below (T0.setTop (mkF m 0 #[.val (.ref a0), .val (.long j1), .second, .val (.long j3), .second, .val (.int i5), .val (.int i6)] [])) (T'.setFrames fs) := by
  obtain ⟨_, _, ⟨T1, L1, k1, n1⟩, -, X1, ⟨Lc1, hQ1, l1, y1, z1⟩, st1⟩ := X0.specialBack hx (y := (⟨"java/lang/Record", "<init>", "()V"⟩ : MethodName)) rfl hown (mvT hZ (hw _ (List.mem_of_getElem? (i := 6) rfl))) (mvT hZ (hw _ (List.mem_of_getElem? (i := 7) rfl))) (mvT hZ (hw _ (List.mem_of_getElem? (i := 10) rfl))) (by decide) (backOf (W := 0) (rm2 l Z a0_ hw [] a0  h0 n0 Z0 ) hZ (hw _ (List.mem_of_getElem? (i := 10) rfl)) (hw _ (List.mem_of_getElem? (i := 9) rfl)) (by decide) (by decide)) (g := (mkF m 1 #[.val (.ref a0), .val (.long j1), .second, .val (.long j3), .second, .val (.int i5), .val (.int i6)] [(.ref a0)])) rfl (by rw [hml]; rfl) (Steps.refl _) (a := a0) (argsL := []) (rest := []) (lenOf pd_1_0 rfl) rfl (by show 2 * 0 + _ ≤ _; exact Nat.le_of_eq rfl) (hb hby d1_1) (fun _ _ => ⟨rfl, e0, (by decide : 0 + 0 ≤ ({ frames := 2, cells := 0, slots := 0, locals := 24 } : Room).cells), (by decide : 0 + 0 ≤ ({ frames := 2, cells := 0, slots := 0, locals := 24 } : Room).slots)⟩)
  dsimp only [Pt.U, Pt.locs, Pt.cells, Pt.slots] at X1 l1 y1 z1 st1 hQ1
  subst l1 y1 z1
  obtain ⟨rfl, rfl, e1⟩ := hQ1
  rw [List.append_nil] at X1
  obtain ⟨T2, h2, X2, e2, W2, st2⟩ := putF X1 hx hZ hown (host := "") (Or.inl (hw _ (List.mem_of_getElem? (i := 14) rfl))) Via.refl e1 F_start_a0 E_a0 (Or.inr ⟨(hw _ (List.mem_of_getElem? (i := 15) rfl)), rfl, hnm⟩) (hw _ (List.mem_of_getElem? (i := 1) rfl)) (ty := .long) (by decide) rfl rfl (g := (mkF m 6 #[.val (.ref a0), .val (.long j1), .second, .val (.long j3), .second, .val (.int i5), .val (.int i6)] [(.long j1), (.ref a0)])) rfl rfl (hb hby d1_6)
  have N2 := Fr.snoc X2 N0 g_a0
  have Z2 : n0 ≤ h2.size := Nat.le_trans Z0 (Keep.of_wr W2).1
  have K2 : Keep h0 h2 [a0] := (Keep.refl h0 [a0]).wr W2 (Or.inl (List.mem_of_getElem? (i := 0) rfl))
  have E_a0_k2 := E_a0.wr W2
  have F_start_a0_k2 := F_start_a0.same W2
  have F_end_a0_k2 := F_end_a0.other W2 (Or.inr (slot_ne (Or.inr (hw _ (List.mem_of_getElem? (i := 17) rfl))) (Or.inr (hw _ (List.mem_of_getElem? (i := 15) rfl))) (by decide) (t := .long) (t' := .long) (by decide) (by decide)))
  have F_inBits_a0_k2 := F_inBits_a0.other W2 (Or.inr (slot_ne (Or.inr (hw _ (List.mem_of_getElem? (i := 19) rfl))) (Or.inr (hw _ (List.mem_of_getElem? (i := 15) rfl))) (by decide) (t := .boolean) (t' := .long) (by decide) (by decide)))
  have F_openEnded_a0_k2 := F_openEnded_a0.other W2 (Or.inr (slot_ne (Or.inr (hw _ (List.mem_of_getElem? (i := 21) rfl))) (Or.inr (hw _ (List.mem_of_getElem? (i := 15) rfl))) (by decide) (t := .boolean) (t' := .long) (by decide) (by decide)))
  obtain ⟨T3, h3, X3, e3, W3, st3⟩ := putF X2 hx hZ hown (host := "") (Or.inl (hw _ (List.mem_of_getElem? (i := 16) rfl))) Via.refl e2 F_end_a0_k2 E_a0_k2 (Or.inr ⟨(hw _ (List.mem_of_getElem? (i := 17) rfl)), rfl, hnm⟩) (hw _ (List.mem_of_getElem? (i := 1) rfl)) (ty := .long) (by decide) rfl rfl (g := (mkF m 11 #[.val (.ref a0), .val (.long j1), .second, .val (.long j3), .second, .val (.int i5), .val (.int i6)] [(.long j3), (.ref a0)])) rfl rfl (hb hby d1_11)
  have N3 := Fr.snoc X3 N2 g_a0
  have Z3 : n0 ≤ h3.size := Nat.le_trans Z2 (Keep.of_wr W3).1
  have K3 : Keep h0 h3 [a0] := K2.wr W3 (Or.inl (List.mem_of_getElem? (i := 0) rfl))
  have E_a0_k3 := E_a0_k2.wr W3
  have F_start_a0_k3 := F_start_a0_k2.other W3 (Or.inr (slot_ne (Or.inr (hw _ (List.mem_of_getElem? (i := 15) rfl))) (Or.inr (hw _ (List.mem_of_getElem? (i := 17) rfl))) (by decide) (t := .long) (t' := .long) (by decide) (by decide)))
  have F_end_a0_k3 := F_end_a0_k2.same W3
  have F_inBits_a0_k3 := F_inBits_a0_k2.other W3 (Or.inr (slot_ne (Or.inr (hw _ (List.mem_of_getElem? (i := 19) rfl))) (Or.inr (hw _ (List.mem_of_getElem? (i := 17) rfl))) (by decide) (t := .boolean) (t' := .long) (by decide) (by decide)))
  have F_openEnded_a0_k3 := F_openEnded_a0_k2.other W3 (Or.inr (slot_ne (Or.inr (hw _ (List.mem_of_getElem? (i := 21) rfl))) (Or.inr (hw _ (List.mem_of_getElem? (i := 17) rfl))) (by decide) (t := .boolean) (t' := .long) (by decide) (by decide)))
  obtain ⟨T4, h4, X4, e4, W4, st4⟩ := putFN X3 hx hZ hown (hw _ (List.mem_of_getElem? (i := 18) rfl)) Via.refl e3 F_inBits_a0_k3 E_a0_k3 (Or.inr ⟨(hw _ (List.mem_of_getElem? (i := 19) rfl)), rfl, hnm⟩) (hw _ (List.mem_of_getElem? (i := 1) rfl)) (ty := .boolean) (v' := (.int (nar .boolean i5))) (by decide) rfl (fits_nar_bool _) (g := (mkF m 17 #[.val (.ref a0), .val (.long j1), .second, .val (.long j3), .second, .val (.int i5), .val (.int i6)] [(.int i5), (.ref a0)])) rfl rfl (hb hby d1_17)
  have N4 := Fr.snoc X4 N3 g_a0
  have Z4 : n0 ≤ h4.size := Nat.le_trans Z3 (Keep.of_wr W4).1
  have K4 : Keep h0 h4 [a0] := K3.wr W4 (Or.inl (List.mem_of_getElem? (i := 0) rfl))
  have E_a0_k4 := E_a0_k3.wr W4
  have F_start_a0_k4 := F_start_a0_k3.other W4 (Or.inr (slot_ne (Or.inr (hw _ (List.mem_of_getElem? (i := 15) rfl))) (Or.inr (hw _ (List.mem_of_getElem? (i := 19) rfl))) (by decide) (t := .long) (t' := .boolean) (by decide) (by decide)))
  have F_end_a0_k4 := F_end_a0_k3.other W4 (Or.inr (slot_ne (Or.inr (hw _ (List.mem_of_getElem? (i := 17) rfl))) (Or.inr (hw _ (List.mem_of_getElem? (i := 19) rfl))) (by decide) (t := .long) (t' := .boolean) (by decide) (by decide)))
  have F_inBits_a0_k4 := F_inBits_a0_k3.same W4
  have F_openEnded_a0_k4 := F_openEnded_a0_k3.other W4 (Or.inr (slot_ne (Or.inr (hw _ (List.mem_of_getElem? (i := 21) rfl))) (Or.inr (hw _ (List.mem_of_getElem? (i := 19) rfl))) (by decide) (t := .boolean) (t' := .boolean) (by decide) (by decide)))
  obtain ⟨T5, h5, X5, e5, W5, st5⟩ := putFN X4 hx hZ hown (hw _ (List.mem_of_getElem? (i := 20) rfl)) Via.refl e4 F_openEnded_a0_k4 E_a0_k4 (Or.inr ⟨(hw _ (List.mem_of_getElem? (i := 21) rfl)), rfl, hnm⟩) (hw _ (List.mem_of_getElem? (i := 1) rfl)) (ty := .boolean) (v' := (.int (nar .boolean i6))) (by decide) rfl (fits_nar_bool _) (g := (mkF m 23 #[.val (.ref a0), .val (.long j1), .second, .val (.long j3), .second, .val (.int i5), .val (.int i6)] [(.int i6), (.ref a0)])) rfl rfl (hb hby d1_23)
  have N5 := Fr.snoc X5 N4 g_a0
  have Z5 : n0 ≤ h5.size := Nat.le_trans Z4 (Keep.of_wr W5).1
  have K5 : Keep h0 h5 [a0] := K4.wr W5 (Or.inl (List.mem_of_getElem? (i := 0) rfl))
  have E_a0_k5 := E_a0_k4.wr W5
  have F_start_a0_k5 := F_start_a0_k4.other W5 (Or.inr (slot_ne (Or.inr (hw _ (List.mem_of_getElem? (i := 15) rfl))) (Or.inr (hw _ (List.mem_of_getElem? (i := 21) rfl))) (by decide) (t := .long) (t' := .boolean) (by decide) (by decide)))
  have F_end_a0_k5 := F_end_a0_k4.other W5 (Or.inr (slot_ne (Or.inr (hw _ (List.mem_of_getElem? (i := 17) rfl))) (Or.inr (hw _ (List.mem_of_getElem? (i := 21) rfl))) (by decide) (t := .long) (t' := .boolean) (by decide) (by decide)))
  have F_inBits_a0_k5 := F_inBits_a0_k4.other W5 (Or.inr (slot_ne (Or.inr (hw _ (List.mem_of_getElem? (i := 19) rfl))) (Or.inr (hw _ (List.mem_of_getElem? (i := 21) rfl))) (by decide) (t := .boolean) (t' := .boolean) (by decide) (by decide)))
  have F_openEnded_a0_k5 := F_openEnded_a0_k4.same W5
  have ho_start : (own_o1_start j1 j3 i5 i6 w_start w_end w_inBits w_openEnded) = j1 := by unfold own_o1_start; rfl
  have ho_end : (own_o1_end j1 j3 i5 i6 w_start w_end w_inBits w_openEnded) = j3 := by unfold own_o1_end; rfl
  have ho_inBits : (own_o1_inBits j1 j3 i5 i6 w_start w_end w_inBits w_openEnded) = (nar .boolean i5) := by unfold own_o1_inBits; rfl
  have ho_openEnded : (own_o1_openEnded j1 j3 i5 i6 w_start w_end w_inBits w_openEnded) = (nar .boolean i6) := by unfold own_o1_openEnded; rfl
  refine ⟨T5, _, _, X5, e5, N5, K5, E_a0_k5, (by rw [ho_start]; exact F_start_a0_k5), (by rw [ho_end]; exact F_end_a0_k5), (by rw [ho_inBits]; exact F_inBits_a0_k5), (by rw [ho_openEnded]; exact F_openEnded_a0_k5), fun fs hr => ?_⟩
  show Steps p.tables e below (T0.setTop (mkF m 0 #[.val (.ref a0), .val (.long j1), .second, .val (.long j3), .second, .val (.int i5), .val (.int i6)] [])) _
  refine XS.aloadN X0.here hx rfl (hb hby d1_0) rfl rfl ?_
  show Steps p.tables e below (T0.setTop (mkF m 1 #[.val (.ref a0), .val (.long j1), .second, .val (.long j3), .second, .val (.int i5), .val (.int i6)] [(.ref a0)])) _
  refine st1.trans ?_
  show Steps p.tables e below (T1.setTop (mkF m 4 #[.val (.ref a0), .val (.long j1), .second, .val (.long j3), .second, .val (.int i5), .val (.int i6)] [])) _
  refine XS.aloadN X1.here hx rfl (hb hby d1_4) rfl rfl ?_
  show Steps p.tables e below (T1.setTop (mkF m 5 #[.val (.ref a0), .val (.long j1), .second, .val (.long j3), .second, .val (.int i5), .val (.int i6)] [(.ref a0)])) _
  refine XS.lloadN X1.here hx rfl (hb hby d1_5) rfl ?_
  show Steps p.tables e below (T1.setTop (mkF m 6 #[.val (.ref a0), .val (.long j1), .second, .val (.long j3), .second, .val (.int i5), .val (.int i6)] [(.long j1), (.ref a0)])) _
  refine st2 _ ?_
  show Steps p.tables e below (T2.setTop (mkF m 9 #[.val (.ref a0), .val (.long j1), .second, .val (.long j3), .second, .val (.int i5), .val (.int i6)] [])) _
  refine XS.aloadN X2.here hx rfl (hb hby d1_9) rfl rfl ?_
  show Steps p.tables e below (T2.setTop (mkF m 10 #[.val (.ref a0), .val (.long j1), .second, .val (.long j3), .second, .val (.int i5), .val (.int i6)] [(.ref a0)])) _
  refine XS.lloadN X2.here hx rfl (hb hby d1_10) rfl ?_
  show Steps p.tables e below (T2.setTop (mkF m 11 #[.val (.ref a0), .val (.long j1), .second, .val (.long j3), .second, .val (.int i5), .val (.int i6)] [(.long j3), (.ref a0)])) _
  refine st3 _ ?_
  show Steps p.tables e below (T3.setTop (mkF m 14 #[.val (.ref a0), .val (.long j1), .second, .val (.long j3), .second, .val (.int i5), .val (.int i6)] [])) _
  refine XS.aloadN X3.here hx rfl (hb hby d1_14) rfl rfl ?_
  show Steps p.tables e below (T3.setTop (mkF m 15 #[.val (.ref a0), .val (.long j1), .second, .val (.long j3), .second, .val (.int i5), .val (.int i6)] [(.ref a0)])) _
  refine XS.iload X3.here hx rfl (hb hby d1_15) rfl ?_
  show Steps p.tables e below (T3.setTop (mkF m 17 #[.val (.ref a0), .val (.long j1), .second, .val (.long j3), .second, .val (.int i5), .val (.int i6)] [(.int i5), (.ref a0)])) _
  refine st4 _ ?_
  show Steps p.tables e below (T4.setTop (mkF m 20 #[.val (.ref a0), .val (.long j1), .second, .val (.long j3), .second, .val (.int i5), .val (.int i6)] [])) _
  refine XS.aloadN X4.here hx rfl (hb hby d1_20) rfl rfl ?_
  show Steps p.tables e below (T4.setTop (mkF m 21 #[.val (.ref a0), .val (.long j1), .second, .val (.long j3), .second, .val (.int i5), .val (.int i6)] [(.ref a0)])) _
  refine XS.iload X4.here hx rfl (hb hby d1_21) rfl ?_
  show Steps p.tables e below (T4.setTop (mkF m 23 #[.val (.ref a0), .val (.long j1), .second, .val (.long j3), .second, .val (.int i5), .val (.int i6)] [(.int i6), (.ref a0)])) _
  refine st5 _ ?_
  show Steps p.tables e below (T5.setTop (mkF m 26 #[.val (.ref a0), .val (.long j1), .second, .val (.long j3), .second, .val (.int i5), .val (.int i6)] [])) _
  exact X5.returnOut hx hret (hb hby d1_26) hr
def Q1 (Z : State) (a0 : Addr) (j1 : Int64) (j3 : Int64) (i5 : Int32) (i6 : Int32) (w_start : Int64) (w_end : Int64) (w_inBits : Int32) (w_openEnded : Int32) (h0 : Heap) (n0 : Nat) (v : Option Value) (h : Heap) (L : List Loc) : Prop := v = none ∧ Fr n0 L ∧ Keep h0 h [a0] ∧ Exa Z h a0 "com/example/rollcalldb/rollcalldb/command/IndexRange" ∧ Fld Z h a0 "com/example/rollcalldb/rollcalldb/command/IndexRange" "start" "J" (.long (own_o1_start j1 j3 i5 i6 w_start w_end w_inBits w_openEnded)) ∧ Fld Z h a0 "com/example/rollcalldb/rollcalldb/command/IndexRange" "end" "J" (.long (own_o1_end j1 j3 i5 i6 w_start w_end w_inBits w_openEnded)) ∧ Fld Z h a0 "com/example/rollcalldb/rollcalldb/command/IndexRange" "inBits" "Z" (.int (own_o1_inBits j1 j3 i5 i6 w_start w_end w_inBits w_openEnded)) ∧ Fld Z h a0 "com/example/rollcalldb/rollcalldb/command/IndexRange" "openEnded" "Z" (.int (own_o1_openEnded j1 j3 i5 i6 w_start w_end w_inBits w_openEnded))
set_option maxRecDepth 65536 in
set_option maxHeartbeats 40000000 in
theorem rm1 (l : Launch) (Z : State) (a0_ : Array Value) (hw : ∀ d ∈ tables_1, d.before a0_ Z = true) (ws : List Jvm.Cond) (a0 : Addr) (j1 : Int64) (j3 : Int64) (i5 : Int32) (i6 : Int32) (w_start : Int64) (w_end : Int64) (w_inBits : Int32) (w_openEnded : Int32) (h0 : Heap) (n0 : Nat) (Z0 : n0 ≤ h0.size) (E_a0 : Exa Z h0 a0 "com/example/rollcalldb/rollcalldb/command/IndexRange") (g_a0 : n0 ≤ a0) (F_start_a0 : Fld Z h0 a0 "com/example/rollcalldb/rollcalldb/command/IndexRange" "start" "J" (.long w_start)) (F_end_a0 : Fld Z h0 a0 "com/example/rollcalldb/rollcalldb/command/IndexRange" "end" "J" (.long w_end)) (F_inBits_a0 : Fld Z h0 a0 "com/example/rollcalldb/rollcalldb/command/IndexRange" "inBits" "Z" (.int w_inBits)) (F_openEnded_a0 : Fld Z h0 a0 "com/example/rollcalldb/rollcalldb/command/IndexRange" "openEnded" "Z" (.int w_openEnded)) :
    MetFree l (⟨"com/example/rollcalldb/rollcalldb/command/IndexRange", "<init>", "(JJZZ)V"⟩ : MethodName) (head1 (Jvm.Cond.code (⟨"com/example/rollcalldb/rollcalldb/command/IndexRange", "<init>", "(JJZZ)V"⟩ : MethodName) prog_11_method_1_code 7 none :: ws) ({ frames := 2, cells := 0, slots := 0, locals := 24 } : Room)) (fun a U => a = #[(.ref a0), (.long j1), (.long j3), (.int i5), (.int i6)] ∧ Z.Warmed39 U.vm ∧ U.heap = h0) (fun _ _ _ _ _ => True) (fun _ U o U' => ∃ v L, o = .returned v ∧ Q1 Z a0 j1 j3 i5 i6 w_start w_end w_inBits w_openEnded h0 n0 v U'.heap L ∧ FrameEnd U o U' L ({ frames := 2, cells := 0, slots := 0, locals := 24 } : Room).cells ({ frames := 2, cells := 0, slots := 0, locals := 24 } : Room).slots) := by
  refine MetFree.of_bodySF (plainFor_of_name pn_1) hisR ?_
  intro p e s m args below meth c s₁ Bd hml0 hP hK
  obtain ⟨rfl, hZ, hh⟩ := hP
  have hx := Bd.exec
  have hby := Bd.bytes
  have hml : c.maxLocals = 7 := hml0
  have hown : s.vm.findClass "com/example/rollcalldb/rollcalldb/command/IndexRange" = some m.cls := findClass_of_methodNamed Bd.named
  have X0 : Stand p l e ({ frames := 2, cells := 0, slots := 0, locals := 24 } : Room) s m #[(.ref a0), (.long j1), (.long j3), (.int i5), (.int i6)] below meth c s₁ [] 0 0 := Stand.of_body Bd
  have e0 : s₁.heap = h0 := by rw [← hh, Bd.state]; rfl
  have hnm := (name_of_methodNamed Bd.named Bd.method).1
  obtain ⟨T', h', L', X', e', N', K', G0', G1', G2', G3', G4', st'⟩ := own_b1_0 hx hZ hw hby hml hown Bd.returns hnm a0 j1 j3 i5 i6 w_start w_end w_inBits w_openEnded X0 e0 (Fr.nil n0) Z0 E_a0 g_a0 F_start_a0 F_end_a0 F_inBits_a0 F_openEnded_a0
  obtain ⟨fs, hr, hrun, hended, hW, hsame⟩ := X'.leave (v := none) (fun _ => rfl)
  refine ⟨_, _, castTop (ef_1 m a0 j1 j3 i5 i6) (st' fs hr), hrun, hended, _, _, rfl, ?_, ⟨_, rfl⟩, hW, hsame.mono (by decide) (by decide)⟩
  subst e'
  exact ⟨rfl, N', K', G0', G1', G2', G3', G4'⟩
theorem d4_0 : decode prog_11_method_4_code 0 = .ok (.aload_n 0, 1) := by decide +kernel
theorem d4_1 : decode prog_11_method_4_code 1 = .ok (.getfield 7, 3) := by decide +kernel
theorem d4_4 : decode prog_11_method_4_code 4 = .ok (.lconst 0, 1) := by decide +kernel
theorem d4_5 : decode prog_11_method_4_code 5 = .ok (.lcmp, 1) := by decide +kernel
theorem d4_6 : decode prog_11_method_4_code 6 = .ok (.ifCond .ge 28, 3) := by decide +kernel
theorem d4_9 : decode prog_11_method_4_code 9 = .ok (.aload_n 0, 1) := by decide +kernel
theorem d4_10 : decode prog_11_method_4_code 10 = .ok (.getfield 13, 3) := by decide +kernel
theorem d4_13 : decode prog_11_method_4_code 13 = .ok (.lconst 0, 1) := by decide +kernel
theorem d4_14 : decode prog_11_method_4_code 14 = .ok (.lcmp, 1) := by decide +kernel
theorem d4_15 : decode prog_11_method_4_code 15 = .ok (.ifCond .ge 19, 3) := by decide +kernel
theorem d4_18 : decode prog_11_method_4_code 18 = .ok (.aload_n 0, 1) := by decide +kernel
theorem d4_19 : decode prog_11_method_4_code 19 = .ok (.getfield 7, 3) := by decide +kernel
theorem d4_22 : decode prog_11_method_4_code 22 = .ok (.aload_n 0, 1) := by decide +kernel
theorem d4_23 : decode prog_11_method_4_code 23 = .ok (.getfield 13, 3) := by decide +kernel
theorem d4_26 : decode prog_11_method_4_code 26 = .ok (.lcmp, 1) := by decide +kernel
theorem d4_27 : decode prog_11_method_4_code 27 = .ok (.ifCond .le 7, 3) := by decide +kernel
theorem d4_30 : decode prog_11_method_4_code 30 = .ok (.iconst 1, 1) := by decide +kernel
theorem d4_31 : decode prog_11_method_4_code 31 = .ok (.goto 4, 3) := by decide +kernel
theorem d4_34 : decode prog_11_method_4_code 34 = .ok (.iconst 0, 1) := by decide +kernel
theorem d4_35 : decode prog_11_method_4_code 35 = .ok (.ireturn, 1) := by decide +kernel
theorem pn_4 : plainName "com/example/rollcalldb/rollcalldb/command/IndexRange" = true := by first | (simp [plainName, overriddenIn]; done) | decide +kernel
theorem ef_4 (m : MethodId) (a0 : Addr) : entryFrame m #[(.ref a0)] 1 = mkF m 0 #[.val (.ref a0)] [] := by first | (simp [entryFrame, mkF, argsToLocals, Value.category]; done) | rfl
def own_f4_0 (w_start_a0 : Int64) (w_end_a0 : Int64) : Int32 :=
  (if w_start_a0 < (0 : Int64) then (if w_end_a0 < (0 : Int64) then (if w_end_a0 < w_start_a0 then (1 : Int32) else (0 : Int32)) else (0 : Int32)) else (0 : Int32))
set_option maxRecDepth 65536 in
set_option maxHeartbeats 40000000 in
theorem own_b4_0 {p : Program} {l : Launch} {e : Env} {s : State} {m : MethodId} {args : Array Value} {below : List Frame} {meth : Method} {c : Code} {Z : State} {a0_ : Array Value} (hx : p.tables.exec = Jvm.exec) (hZ : Z.Warmed39 s.vm) (hw : ∀ d ∈ tables_1, d.before a0_ Z = true) (hby : c.code = prog_11_method_4_code) (hml : c.maxLocals = 1) (hown : s.vm.findClass "com/example/rollcalldb/rollcalldb/command/IndexRange" = some m.cls) (hret : meth.sig.returnType = some .boolean) {T0 : State} {locs : List Loc} {cells slots : Nat} {h0 : Heap} (a0 : Addr) (w_start_a0 : Int64) (w_end_a0 : Int64)
    (X0 : Stand p l e ({ frames := 0, cells := 0, slots := 0, locals := 0 } : Room) s m args below meth c T0 locs cells slots) (e0 : T0.heap = h0) (hcl : cells ≤ ({ frames := 0, cells := 0, slots := 0, locals := 0 } : Room).cells) (hsl : slots ≤ ({ frames := 0, cells := 0, slots := 0, locals := 0 } : Room).slots) (F_start_a0 : Fld Z h0 a0 "com/example/rollcalldb/rollcalldb/command/IndexRange" "start" "J" (.long w_start_a0)) (F_end_a0 : Fld Z h0 a0 "com/example/rollcalldb/rollcalldb/command/IndexRange" "end" "J" (.long w_end_a0)) :
    ∃ T', Stand p l e ({ frames := 0, cells := 0, slots := 0, locals := 0 } : Room) s m args below meth c T' locs cells slots ∧ T'.heap = h0 ∧ ∀ fs, (∀ (f : JFrame) (acts : List Action), f.method = m → f.locked = none → f.entered = [] → (doReturn e (T'.setTop f) acts (some (.int (own_f4_0 w_start_a0 w_end_a0)))).1 = T'.setFrames fs) → Steps p.tables e below (T0.setTop (mkF m 0 #[.val (.ref a0)] [])) (T'.setFrames fs) := by
  obtain ⟨T1, X1, e1, st1⟩ := getF X0 hx hZ hown (host := "") (Or.inl (hw _ (List.mem_of_getElem? (i := 14) rfl))) Via.refl e0 F_start_a0 (g := (mkF m 1 #[.val (.ref a0)] [(.ref a0)])) rfl rfl (hb hby d4_1)
  have pre2 : ∀ target, Steps p.tables e below (T1.setTop (mkF m 6 #[.val (.ref a0)] [(.int (lcmpW w_start_a0 (0 : Int64)))])) target → Steps p.tables e below (T0.setTop (mkF m 0 #[.val (.ref a0)] [])) target := by
    intro target kt
    show Steps p.tables e below (T0.setTop (mkF m 0 #[.val (.ref a0)] [])) _
    refine XS.aloadN X0.here hx rfl (hb hby d4_0) rfl rfl ?_
    show Steps p.tables e below (T0.setTop (mkF m 1 #[.val (.ref a0)] [(.ref a0)])) _
    refine st1 _ ?_
    show Steps p.tables e below (T1.setTop (mkF m 4 #[.val (.ref a0)] [(.long w_start_a0)])) _
    refine XS.lconst X1.here hx rfl (hb hby d4_4) ?_
    show Steps p.tables e below (T1.setTop (mkF m 5 #[.val (.ref a0)] [(.long (0 : Int64)), (.long w_start_a0)])) _
    refine XS.lcmp X1.here hx rfl (hb hby d4_5) rfl ?_
    exact kt
  by_cases hc6 : w_start_a0 < (0 : Int64)
  · obtain ⟨T3, X3, e3, st3⟩ := getF X1 hx hZ hown (host := "") (Or.inl (hw _ (List.mem_of_getElem? (i := 16) rfl))) Via.refl e1 F_end_a0 (g := (mkF m 10 #[.val (.ref a0)] [(.ref a0)])) rfl rfl (hb hby d4_10)
    have pre4 : ∀ target, Steps p.tables e below (T3.setTop (mkF m 15 #[.val (.ref a0)] [(.int (lcmpW w_end_a0 (0 : Int64)))])) target → Steps p.tables e below (T0.setTop (mkF m 0 #[.val (.ref a0)] [])) target := by
      intro target kt
      refine pre2 target ?_
      show Steps p.tables e below (T1.setTop (mkF m 6 #[.val (.ref a0)] [(.int (lcmpW w_start_a0 (0 : Int64)))])) _
      refine XS.ifNo X1.here hx rfl (hb hby d4_6) rfl ((if0 _ _).trans (tlt ((lw_lt _ _).mpr hc6)).2.1) ?_
      show Steps p.tables e below (T1.setTop (mkF m 9 #[.val (.ref a0)] [])) _
      refine XS.aloadN X1.here hx rfl (hb hby d4_9) rfl rfl ?_
      show Steps p.tables e below (T1.setTop (mkF m 10 #[.val (.ref a0)] [(.ref a0)])) _
      refine st3 _ ?_
      show Steps p.tables e below (T3.setTop (mkF m 13 #[.val (.ref a0)] [(.long w_end_a0)])) _
      refine XS.lconst X3.here hx rfl (hb hby d4_13) ?_
      show Steps p.tables e below (T3.setTop (mkF m 14 #[.val (.ref a0)] [(.long (0 : Int64)), (.long w_end_a0)])) _
      refine XS.lcmp X3.here hx rfl (hb hby d4_14) rfl ?_
      exact kt
    by_cases hc15 : w_end_a0 < (0 : Int64)
    · obtain ⟨T5, X5, e5, st5⟩ := getF X3 hx hZ hown (host := "") (Or.inl (hw _ (List.mem_of_getElem? (i := 14) rfl))) Via.refl e3 F_start_a0 (g := (mkF m 19 #[.val (.ref a0)] [(.ref a0)])) rfl rfl (hb hby d4_19)
      obtain ⟨T6, X6, e6, st6⟩ := getF X5 hx hZ hown (host := "") (Or.inl (hw _ (List.mem_of_getElem? (i := 16) rfl))) Via.refl e5 F_end_a0 (g := (mkF m 23 #[.val (.ref a0)] [(.ref a0), (.long w_start_a0)])) rfl rfl (hb hby d4_23)
      have pre7 : ∀ target, Steps p.tables e below (T6.setTop (mkF m 27 #[.val (.ref a0)] [(.int (lcmpW w_start_a0 w_end_a0))])) target → Steps p.tables e below (T0.setTop (mkF m 0 #[.val (.ref a0)] [])) target := by
        intro target kt
        refine pre4 target ?_
        show Steps p.tables e below (T3.setTop (mkF m 15 #[.val (.ref a0)] [(.int (lcmpW w_end_a0 (0 : Int64)))])) _
        refine XS.ifNo X3.here hx rfl (hb hby d4_15) rfl ((if0 _ _).trans (tlt ((lw_lt _ _).mpr hc15)).2.1) ?_
        show Steps p.tables e below (T3.setTop (mkF m 18 #[.val (.ref a0)] [])) _
        refine XS.aloadN X3.here hx rfl (hb hby d4_18) rfl rfl ?_
        show Steps p.tables e below (T3.setTop (mkF m 19 #[.val (.ref a0)] [(.ref a0)])) _
        refine st5 _ ?_
        show Steps p.tables e below (T5.setTop (mkF m 22 #[.val (.ref a0)] [(.long w_start_a0)])) _
        refine XS.aloadN X5.here hx rfl (hb hby d4_22) rfl rfl ?_
        show Steps p.tables e below (T5.setTop (mkF m 23 #[.val (.ref a0)] [(.ref a0), (.long w_start_a0)])) _
        refine st6 _ ?_
        show Steps p.tables e below (T6.setTop (mkF m 26 #[.val (.ref a0)] [(.long w_end_a0), (.long w_start_a0)])) _
        refine XS.lcmp X6.here hx rfl (hb hby d4_26) rfl ?_
        exact kt
      by_cases hc27 : w_end_a0 < w_start_a0
      · refine ⟨T6, X6, e6, fun fs hr => ?_⟩
        have hv : (own_f4_0 w_start_a0 w_end_a0) = (1 : Int32) := by unfold own_f4_0; rw [if_pos hc6, if_pos hc15, if_pos hc27]
        rw [hv] at hr
        refine pre7 _ ?_
        show Steps p.tables e below (T6.setTop (mkF m 27 #[.val (.ref a0)] [(.int (lcmpW w_start_a0 w_end_a0))])) _
        refine XS.ifNo X6.here hx rfl (hb hby d4_27) rfl ((if0 _ _).trans (tlt ((lw_gt _ _).mpr hc27)).2.2.2) ?_
        show Steps p.tables e below (T6.setTop (mkF m 30 #[.val (.ref a0)] [])) _
        refine XS.iconst X6.here hx rfl (hb hby d4_30) ?_
        show Steps p.tables e below (T6.setTop (mkF m 31 #[.val (.ref a0)] [(.int (1 : Int32))])) _
        refine XS.goto X6.here hx rfl (pc0 := 31) (pc' := 35) rfl (hb hby d4_31) (by decide) (by decide) ?_
        show Steps p.tables e below (T6.setTop (mkF m 35 #[.val (.ref a0)] [(.int (1 : Int32))])) _
        exact retN X6 hx (t := .boolean) hret (by simp) (hb hby d4_35) hr
      · refine ⟨T6, X6, e6, fun fs hr => ?_⟩
        have hv : (own_f4_0 w_start_a0 w_end_a0) = (0 : Int32) := by unfold own_f4_0; rw [if_pos hc6, if_pos hc15, if_neg hc27]
        rw [hv] at hr
        refine pre7 _ ?_
        show Steps p.tables e below (T6.setTop (mkF m 27 #[.val (.ref a0)] [(.int (lcmpW w_start_a0 w_end_a0))])) _
        refine XS.ifYes X6.here hx rfl (pc0 := 27) (pc' := 34) rfl (hb hby d4_27) rfl ((if0 _ _).trans (flt (mt (lw_gt _ _).mp hc27)).2.2.2) (by decide) (by decide) ?_
        show Steps p.tables e below (T6.setTop (mkF m 34 #[.val (.ref a0)] [])) _
        refine XS.iconst X6.here hx rfl (hb hby d4_34) ?_
        show Steps p.tables e below (T6.setTop (mkF m 35 #[.val (.ref a0)] [(.int (0 : Int32))])) _
        exact retN X6 hx (t := .boolean) hret (by simp) (hb hby d4_35) hr
    · refine ⟨T3, X3, e3, fun fs hr => ?_⟩
      have hv : (own_f4_0 w_start_a0 w_end_a0) = (0 : Int32) := by unfold own_f4_0; rw [if_pos hc6, if_neg hc15]
      rw [hv] at hr
      refine pre4 _ ?_
      show Steps p.tables e below (T3.setTop (mkF m 15 #[.val (.ref a0)] [(.int (lcmpW w_end_a0 (0 : Int64)))])) _
      refine XS.ifYes X3.here hx rfl (pc0 := 15) (pc' := 34) rfl (hb hby d4_15) rfl ((if0 _ _).trans (flt (mt (lw_lt _ _).mp hc15)).2.1) (by decide) (by decide) ?_
      show Steps p.tables e below (T3.setTop (mkF m 34 #[.val (.ref a0)] [])) _
      refine XS.iconst X3.here hx rfl (hb hby d4_34) ?_
      show Steps p.tables e below (T3.setTop (mkF m 35 #[.val (.ref a0)] [(.int (0 : Int32))])) _
      exact retN X3 hx (t := .boolean) hret (by simp) (hb hby d4_35) hr
  · refine ⟨T1, X1, e1, fun fs hr => ?_⟩
    have hv : (own_f4_0 w_start_a0 w_end_a0) = (0 : Int32) := by unfold own_f4_0; rw [if_neg hc6]
    rw [hv] at hr
    refine pre2 _ ?_
    show Steps p.tables e below (T1.setTop (mkF m 6 #[.val (.ref a0)] [(.int (lcmpW w_start_a0 (0 : Int64)))])) _
    refine XS.ifYes X1.here hx rfl (pc0 := 6) (pc' := 34) rfl (hb hby d4_6) rfl ((if0 _ _).trans (flt (mt (lw_lt _ _).mp hc6)).2.1) (by decide) (by decide) ?_
    show Steps p.tables e below (T1.setTop (mkF m 34 #[.val (.ref a0)] [])) _
    refine XS.iconst X1.here hx rfl (hb hby d4_34) ?_
    show Steps p.tables e below (T1.setTop (mkF m 35 #[.val (.ref a0)] [(.int (0 : Int32))])) _
    exact retN X1 hx (t := .boolean) hret (by simp) (hb hby d4_35) hr
def Q4 (Z : State) (a0 : Addr) (w_start_a0 : Int64) (w_end_a0 : Int64) (h0 : Heap) (n0 : Nat) (v : Option Value) (h : Heap) (L : List Loc) : Prop := v = some (.int (own_f4_0 w_start_a0 w_end_a0)) ∧ L = [] ∧ h = h0
set_option maxRecDepth 65536 in
set_option maxHeartbeats 40000000 in
theorem rm4 (l : Launch) (Z : State) (a0_ : Array Value) (hw : ∀ d ∈ tables_1, d.before a0_ Z = true) (ws : List Jvm.Cond) (a0 : Addr) (w_start_a0 : Int64) (w_end_a0 : Int64) (h0 : Heap) (n0 : Nat) (Z0 : n0 ≤ h0.size) (F_start_a0 : Fld Z h0 a0 "com/example/rollcalldb/rollcalldb/command/IndexRange" "start" "J" (.long w_start_a0)) (F_end_a0 : Fld Z h0 a0 "com/example/rollcalldb/rollcalldb/command/IndexRange" "end" "J" (.long w_end_a0)) :
    MetFree l (⟨"com/example/rollcalldb/rollcalldb/command/IndexRange", "reversedFromEnd", "()Z"⟩ : MethodName) (head1 (Jvm.Cond.code (⟨"com/example/rollcalldb/rollcalldb/command/IndexRange", "reversedFromEnd", "()Z"⟩ : MethodName) prog_11_method_4_code 1 (some .boolean) :: ws) ({ frames := 0, cells := 0, slots := 0, locals := 0 } : Room)) (fun a U => a = #[(.ref a0)] ∧ Z.Warmed39 U.vm ∧ U.heap = h0) (fun _ _ _ _ _ => True) (fun _ U o U' => ∃ v L, o = .returned v ∧ Q4 Z a0 w_start_a0 w_end_a0 h0 n0 v U'.heap L ∧ FrameEnd U o U' L ({ frames := 0, cells := 0, slots := 0, locals := 0 } : Room).cells ({ frames := 0, cells := 0, slots := 0, locals := 0 } : Room).slots) := by
  refine MetFree.of_bodySF (plainFor_of_name pn_4) hisR ?_
  intro p e s m args below meth c s₁ Bd hml0 hP hK
  obtain ⟨rfl, hZ, hh⟩ := hP
  have hx := Bd.exec
  have hby := Bd.bytes
  have hml : c.maxLocals = 1 := hml0
  have hown : s.vm.findClass "com/example/rollcalldb/rollcalldb/command/IndexRange" = some m.cls := findClass_of_methodNamed Bd.named
  have X0 : Stand p l e ({ frames := 0, cells := 0, slots := 0, locals := 0 } : Room) s m #[(.ref a0)] below meth c s₁ [] 0 0 := Stand.of_body Bd
  have e0 : s₁.heap = h0 := by rw [← hh, Bd.state]; rfl
  obtain ⟨T', X', e', st'⟩ := own_b4_0 hx hZ hw hby hml hown Bd.returns  a0 w_start_a0 w_end_a0 X0 e0 (by decide) (by decide) F_start_a0 F_end_a0
  obtain ⟨fs, hr, hrun, hended, hW, hsame⟩ := X'.leave (v := some (.int (own_f4_0 w_start_a0 w_end_a0))) (fun h => by rw [Bd.returns] at h; cases h)
  refine ⟨_, _, castTop (ef_4 m a0) (st' fs hr), hrun, hended, _, _, rfl, ?_, ⟨_, rfl⟩, hW, hsame.mono (by decide) (by decide)⟩
  exact ⟨rfl, rfl, e'⟩
theorem pn_0 : plainName "com/example/rollcalldb/rollcalldb/command/IndexRangeReversedFromEndPinLaw" = true := by first | (simp [plainName, overriddenIn]; done) | decide +kernel
theorem pd_0_0 : parseMethodDescriptor "(JJZZ)V" = some ⟨[.long, .long, .boolean, .boolean], none⟩ := by decide +kernel
theorem pd_0_1 : parseMethodDescriptor "()Z" = some ⟨[], some .boolean⟩ := by decide +kernel
theorem ef_0 (m : MethodId) (j0 : Int64) (j2 : Int64) (i4 : Int32) : entryFrame m #[(.long j0), (.long j2), (.int i4)] maxLocals = mkF m 0 #[.val (.long j0), .second, .val (.long j2), .second, .val (.int i4), .unset, .unset, .unset, .unset, .unset, .unset] [] := by first | (simp [entryFrame, mkF, argsToLocals, Value.category, maxLocals]; done) | rfl
def own_f0_94 (j0 : Int64) (j2 : Int64) (i4 : Int32) (i5 : Int32) (i6 : Int32) (i9 : Int32) (u0 : Int32) (w_start_a7 : Int64) (w_end_a7 : Int64) (w_inBits_a7 : Int32) (w_openEnded_a7 : Int32) (w_start_a8 : Int64) (w_end_a8 : Int64) (w_inBits_a8 : Int32) (w_openEnded_a8 : Int32) : Int32 :=
  (if (own_f4_0 w_start_a7 w_end_a7) = i9 then (if (own_f4_0 w_start_a8 w_end_a8) = u0 then (1 : Int32) else (0 : Int32)) else (0 : Int32))
def own_f0_93 (j0 : Int64) (j2 : Int64) (i4 : Int32) (i5 : Int32) (i6 : Int32) (i9 : Int32) (w_start_a7 : Int64) (w_end_a7 : Int64) (w_inBits_a7 : Int32) (w_openEnded_a7 : Int32) (w_start_a8 : Int64) (w_end_a8 : Int64) (w_inBits_a8 : Int32) (w_openEnded_a8 : Int32) : Int32 :=
  (own_f0_94 j0 j2 i4 i5 i6 i9 (0 : Int32) w_start_a7 w_end_a7 w_inBits_a7 w_openEnded_a7 w_start_a8 w_end_a8 w_inBits_a8 w_openEnded_a8)
def own_f0_75 (j0 : Int64) (j2 : Int64) (i4 : Int32) (i5 : Int32) (i6 : Int32) (u0 : Int32) (w_start_a7 : Int64) (w_end_a7 : Int64) (w_inBits_a7 : Int32) (w_openEnded_a7 : Int32) (w_start_a8 : Int64) (w_end_a8 : Int64) (w_inBits_a8 : Int32) (w_openEnded_a8 : Int32) : Int32 :=
  (if j2 < (0 : Int64) then (if j0 < j2 then (own_f0_94 j0 j2 i4 i5 i6 u0 (1 : Int32) w_start_a7 w_end_a7 w_inBits_a7 w_openEnded_a7 w_start_a8 w_end_a8 w_inBits_a8 w_openEnded_a8) else (own_f0_93 j0 j2 i4 i5 i6 u0 w_start_a7 w_end_a7 w_inBits_a7 w_openEnded_a7 w_start_a8 w_end_a8 w_inBits_a8 w_openEnded_a8)) else (own_f0_93 j0 j2 i4 i5 i6 u0 w_start_a7 w_end_a7 w_inBits_a7 w_openEnded_a7 w_start_a8 w_end_a8 w_inBits_a8 w_openEnded_a8))
def own_f0_74 (j0 : Int64) (j2 : Int64) (i4 : Int32) (i5 : Int32) (i6 : Int32) (w_start_a7 : Int64) (w_end_a7 : Int64) (w_inBits_a7 : Int32) (w_openEnded_a7 : Int32) (w_start_a8 : Int64) (w_end_a8 : Int64) (w_inBits_a8 : Int32) (w_openEnded_a8 : Int32) : Int32 :=
  (own_f0_75 j0 j2 i4 i5 i6 (0 : Int32) w_start_a7 w_end_a7 w_inBits_a7 w_openEnded_a7 w_start_a8 w_end_a8 w_inBits_a8 w_openEnded_a8)
def own_f0_26 (j0 : Int64) (j2 : Int64) (i4 : Int32) (i5 : Int32) (u0 : Int32) : Int32 :=
  (if j0 < (0 : Int64) then (if j2 < j0 then (own_f0_75 j0 j2 i4 i5 u0 (1 : Int32) (own_o1_start j0 j2 i5 u0 (0 : Int64) (0 : Int64) (0 : Int32) (0 : Int32)) (own_o1_end j0 j2 i5 u0 (0 : Int64) (0 : Int64) (0 : Int32) (0 : Int32)) (own_o1_inBits j0 j2 i5 u0 (0 : Int64) (0 : Int64) (0 : Int32) (0 : Int32)) (own_o1_openEnded j0 j2 i5 u0 (0 : Int64) (0 : Int64) (0 : Int32) (0 : Int32)) (own_o1_start j2 j0 u0 i5 (0 : Int64) (0 : Int64) (0 : Int32) (0 : Int32)) (own_o1_end j2 j0 u0 i5 (0 : Int64) (0 : Int64) (0 : Int32) (0 : Int32)) (own_o1_inBits j2 j0 u0 i5 (0 : Int64) (0 : Int64) (0 : Int32) (0 : Int32)) (own_o1_openEnded j2 j0 u0 i5 (0 : Int64) (0 : Int64) (0 : Int32) (0 : Int32))) else (own_f0_74 j0 j2 i4 i5 u0 (own_o1_start j0 j2 i5 u0 (0 : Int64) (0 : Int64) (0 : Int32) (0 : Int32)) (own_o1_end j0 j2 i5 u0 (0 : Int64) (0 : Int64) (0 : Int32) (0 : Int32)) (own_o1_inBits j0 j2 i5 u0 (0 : Int64) (0 : Int64) (0 : Int32) (0 : Int32)) (own_o1_openEnded j0 j2 i5 u0 (0 : Int64) (0 : Int64) (0 : Int32) (0 : Int32)) (own_o1_start j2 j0 u0 i5 (0 : Int64) (0 : Int64) (0 : Int32) (0 : Int32)) (own_o1_end j2 j0 u0 i5 (0 : Int64) (0 : Int64) (0 : Int32) (0 : Int32)) (own_o1_inBits j2 j0 u0 i5 (0 : Int64) (0 : Int64) (0 : Int32) (0 : Int32)) (own_o1_openEnded j2 j0 u0 i5 (0 : Int64) (0 : Int64) (0 : Int32) (0 : Int32)))) else (own_f0_74 j0 j2 i4 i5 u0 (own_o1_start j0 j2 i5 u0 (0 : Int64) (0 : Int64) (0 : Int32) (0 : Int32)) (own_o1_end j0 j2 i5 u0 (0 : Int64) (0 : Int64) (0 : Int32) (0 : Int32)) (own_o1_inBits j0 j2 i5 u0 (0 : Int64) (0 : Int64) (0 : Int32) (0 : Int32)) (own_o1_openEnded j0 j2 i5 u0 (0 : Int64) (0 : Int64) (0 : Int32) (0 : Int32)) (own_o1_start j2 j0 u0 i5 (0 : Int64) (0 : Int64) (0 : Int32) (0 : Int32)) (own_o1_end j2 j0 u0 i5 (0 : Int64) (0 : Int64) (0 : Int32) (0 : Int32)) (own_o1_inBits j2 j0 u0 i5 (0 : Int64) (0 : Int64) (0 : Int32) (0 : Int32)) (own_o1_openEnded j2 j0 u0 i5 (0 : Int64) (0 : Int64) (0 : Int32) (0 : Int32))))
def own_f0_12 (j0 : Int64) (j2 : Int64) (i4 : Int32) (u0 : Int32) : Int32 :=
  (if (i4 &&& (2 : Int32)) = (0 : Int32) then (own_f0_26 j0 j2 i4 u0 (0 : Int32)) else (own_f0_26 j0 j2 i4 u0 (1 : Int32)))
def own_f0_0 (j0 : Int64) (j2 : Int64) (i4 : Int32) : Int32 :=
  (if (i4 &&& (1 : Int32)) = (0 : Int32) then (own_f0_12 j0 j2 i4 (0 : Int32)) else (own_f0_12 j0 j2 i4 (1 : Int32)))
set_option maxRecDepth 65536 in
set_option maxHeartbeats 40000000 in
theorem own_b0_94 {p : Program} {l : Launch} {e : Env} {s : State} {m : MethodId} {args : Array Value} {below : List Frame} {meth : Method} {c : Code} {Z : State} {a0_ : Array Value} {n0 : Nat} (hx : p.tables.exec = Jvm.exec) (hZ : Z.Warmed39 s.vm) (hw : ∀ d ∈ tables_1, d.before a0_ Z = true) (hby : c.code = code) (hml : c.maxLocals = 11) (hown : s.vm.findClass "com/example/rollcalldb/rollcalldb/command/IndexRangeReversedFromEndPinLaw" = some m.cls) (hret : meth.sig.returnType = some .boolean) {T0 : State} {locs : List Loc} {h0 : Heap} (j0 : Int64) (j2 : Int64) (i4 : Int32) (i5 : Int32) (i6 : Int32) (a7 : Addr) (a8 : Addr) (i9 : Int32) (u0 : Int32) (w_start_a7 : Int64) (w_end_a7 : Int64) (w_inBits_a7 : Int32) (w_openEnded_a7 : Int32) (w_start_a8 : Int64) (w_end_a8 : Int64) (w_inBits_a8 : Int32) (w_openEnded_a8 : Int32)
    (X0 : Stand p l e room_1 s m args below meth c T0 locs 2 8) (e0 : T0.heap = h0) (N0 : Fr n0 locs) (Z0 : n0 ≤ h0.size) (g_a7 : n0 ≤ a7) (E_a7 : Exa Z h0 a7 "com/example/rollcalldb/rollcalldb/command/IndexRange") (F_start_a7 : Fld Z h0 a7 "com/example/rollcalldb/rollcalldb/command/IndexRange" "start" "J" (.long w_start_a7)) (F_end_a7 : Fld Z h0 a7 "com/example/rollcalldb/rollcalldb/command/IndexRange" "end" "J" (.long w_end_a7)) (F_inBits_a7 : Fld Z h0 a7 "com/example/rollcalldb/rollcalldb/command/IndexRange" "inBits" "Z" (.int w_inBits_a7)) (F_openEnded_a7 : Fld Z h0 a7 "com/example/rollcalldb/rollcalldb/command/IndexRange" "openEnded" "Z" (.int w_openEnded_a7)) (ne_a7_a8 : a7 ≠ a8) (g_a8 : n0 ≤ a8) (E_a8 : Exa Z h0 a8 "com/example/rollcalldb/rollcalldb/command/IndexRange") (F_start_a8 : Fld Z h0 a8 "com/example/rollcalldb/rollcalldb/command/IndexRange" "start" "J" (.long w_start_a8)) (F_end_a8 : Fld Z h0 a8 "com/example/rollcalldb/rollcalldb/command/IndexRange" "end" "J" (.long w_end_a8)) (F_inBits_a8 : Fld Z h0 a8 "com/example/rollcalldb/rollcalldb/command/IndexRange" "inBits" "Z" (.int w_inBits_a8)) (F_openEnded_a8 : Fld Z h0 a8 "com/example/rollcalldb/rollcalldb/command/IndexRange" "openEnded" "Z" (.int w_openEnded_a8)) :
    ∃ T' locs' cells' slots', Stand p l e room_1 s m args below meth c T' locs' cells' slots' ∧ Fr n0 locs' ∧ cells' ≤ room_1.cells ∧ slots' ≤ room_1.slots ∧ ∀ fs, (∀ (f : JFrame) (acts : List Action), f.method = m → f.locked = none → f.entered = [] → (doReturn e (T'.setTop f) acts (some (.int (own_f0_94 j0 j2 i4 i5 i6 i9 u0 w_start_a7 w_end_a7 w_inBits_a7 w_openEnded_a7 w_start_a8 w_end_a8 w_inBits_a8 w_openEnded_a8)))).1 = T'.setFrames fs) → Steps p.tables e below (T0.setTop (mkF m 94 #[.val (.long j0), .second, .val (.long j2), .second, .val (.int i4), .val (.int i5), .val (.int i6), .val (.ref a7), .val (.ref a8), .val (.int i9), .unset] [(.int u0)])) (T'.setFrames fs) := by
  obtain ⟨cq1, kq1, q1a, q1b, q1c⟩ := isOf hZ e0 E_a7
  obtain ⟨_, _, ⟨T1, L1, k1, n1⟩, -, X1, ⟨Lc1, hQ1, l1, y1, z1⟩, st1⟩ := X0.virtualBack hx (y := (⟨"com/example/rollcalldb/rollcalldb/command/IndexRange", "reversedFromEnd", "()Z"⟩ : MethodName)) (z := (⟨"com/example/rollcalldb/rollcalldb/command/IndexRange", "reversedFromEnd", "()Z"⟩ : MethodName)) hown (mvT hZ (hw _ (List.mem_of_getElem? (i := 22) rfl))) (mvT hZ (hw _ (List.mem_of_getElem? (i := 23) rfl))) (notFace_of_selects (args := #[]) (mvT hZ (hw _ (List.mem_of_getElem? (i := 25) rfl)))) (mvT hZ (hw _ (List.mem_of_getElem? (i := 25) rfl))) (mvT hZ (hw _ (List.mem_of_getElem? (i := 24) rfl))) (by decide) (backOf (W := 0) (rm4 l Z a0_ hw [] a7 w_start_a7 w_end_a7 h0 n0 Z0 F_start_a7 F_end_a7) hZ (hw _ (List.mem_of_getElem? (i := 26) rfl)) (hw _ (List.mem_of_getElem? (i := 2) rfl)) (by decide) (by decide)) q1a q1c (g := (mkF m 98 #[.val (.long j0), .second, .val (.long j2), .second, .val (.int i4), .val (.int i5), .val (.int i6), .val (.ref a7), .val (.ref a8), .val (.int i9), .val (.int u0)] [(.ref a7)])) rfl (by rw [hml]; rfl) (Steps.refl _) (argsL := []) (rest := []) (lenOf pd_0_1 rfl) rfl (by show 2 * 0 + _ ≤ _; exact Nat.le_of_eq rfl) (hb hby at_98) (fun _ _ => ⟨rfl, e0, (by decide : 2 + 0 ≤ room_1.cells), (by decide : 8 + 0 ≤ room_1.slots)⟩)
  dsimp only [Pt.U, Pt.locs, Pt.cells, Pt.slots] at X1 l1 y1 z1 st1 hQ1
  subst l1 y1 z1
  obtain ⟨rfl, rfl, e1⟩ := hQ1
  rw [List.append_nil] at X1
  have pre2 : ∀ target, Steps p.tables e below (T1.setTop (mkF m 103 #[.val (.long j0), .second, .val (.long j2), .second, .val (.int i4), .val (.int i5), .val (.int i6), .val (.ref a7), .val (.ref a8), .val (.int i9), .val (.int u0)] [(.int i9), (.int (own_f4_0 w_start_a7 w_end_a7))])) target → Steps p.tables e below (T0.setTop (mkF m 94 #[.val (.long j0), .second, .val (.long j2), .second, .val (.int i4), .val (.int i5), .val (.int i6), .val (.ref a7), .val (.ref a8), .val (.int i9), .unset] [(.int u0)])) target := by
    intro target kt
    show Steps p.tables e below (T0.setTop (mkF m 94 #[.val (.long j0), .second, .val (.long j2), .second, .val (.int i4), .val (.int i5), .val (.int i6), .val (.ref a7), .val (.ref a8), .val (.int i9), .unset] [(.int u0)])) _
    refine XS.istore X0.here hx rfl (hb hby at_94) rfl (l' := #[.val (.long j0), .second, .val (.long j2), .second, .val (.int i4), .val (.int i5), .val (.int i6), .val (.ref a7), .val (.ref a8), .val (.int i9), .val (.int u0)]) rfl ?_
    show Steps p.tables e below (T0.setTop (mkF m 96 #[.val (.long j0), .second, .val (.long j2), .second, .val (.int i4), .val (.int i5), .val (.int i6), .val (.ref a7), .val (.ref a8), .val (.int i9), .val (.int u0)] [])) _
    refine XS.aload X0.here hx rfl (hb hby at_96) rfl rfl ?_
    show Steps p.tables e below (T0.setTop (mkF m 98 #[.val (.long j0), .second, .val (.long j2), .second, .val (.int i4), .val (.int i5), .val (.int i6), .val (.ref a7), .val (.ref a8), .val (.int i9), .val (.int u0)] [(.ref a7)])) _
    refine st1.trans ?_
    show Steps p.tables e below (T1.setTop (mkF m 101 #[.val (.long j0), .second, .val (.long j2), .second, .val (.int i4), .val (.int i5), .val (.int i6), .val (.ref a7), .val (.ref a8), .val (.int i9), .val (.int u0)] [(.int (own_f4_0 w_start_a7 w_end_a7))])) _
    refine XS.iload X1.here hx rfl (hb hby at_101) rfl ?_
    exact kt
  by_cases hc103 : (own_f4_0 w_start_a7 w_end_a7) = i9
  · obtain ⟨cq3, kq3, q3a, q3b, q3c⟩ := isOf hZ e1 E_a8
    obtain ⟨_, _, ⟨T3, L3, k3, n3⟩, -, X3, ⟨Lc3, hQ3, l3, y3, z3⟩, st3⟩ := X1.virtualBack hx (y := (⟨"com/example/rollcalldb/rollcalldb/command/IndexRange", "reversedFromEnd", "()Z"⟩ : MethodName)) (z := (⟨"com/example/rollcalldb/rollcalldb/command/IndexRange", "reversedFromEnd", "()Z"⟩ : MethodName)) hown (mvT hZ (hw _ (List.mem_of_getElem? (i := 22) rfl))) (mvT hZ (hw _ (List.mem_of_getElem? (i := 23) rfl))) (notFace_of_selects (args := #[]) (mvT hZ (hw _ (List.mem_of_getElem? (i := 25) rfl)))) (mvT hZ (hw _ (List.mem_of_getElem? (i := 25) rfl))) (mvT hZ (hw _ (List.mem_of_getElem? (i := 24) rfl))) (by decide) (backOf (W := 0) (rm4 l Z a0_ hw [] a8 w_start_a8 w_end_a8 h0 n0 Z0 F_start_a8 F_end_a8) hZ (hw _ (List.mem_of_getElem? (i := 26) rfl)) (hw _ (List.mem_of_getElem? (i := 2) rfl)) (by decide) (by decide)) q3a q3c (g := (mkF m 108 #[.val (.long j0), .second, .val (.long j2), .second, .val (.int i4), .val (.int i5), .val (.int i6), .val (.ref a7), .val (.ref a8), .val (.int i9), .val (.int u0)] [(.ref a8)])) rfl (by rw [hml]; rfl) (Steps.refl _) (argsL := []) (rest := []) (lenOf pd_0_1 rfl) rfl (by show 2 * 0 + _ ≤ _; exact Nat.le_of_eq rfl) (hb hby at_108) (fun _ _ => ⟨rfl, e1, (by decide : 2 + 0 ≤ room_1.cells), (by decide : 8 + 0 ≤ room_1.slots)⟩)
    dsimp only [Pt.U, Pt.locs, Pt.cells, Pt.slots] at X3 l3 y3 z3 st3 hQ3
    subst l3 y3 z3
    obtain ⟨rfl, rfl, e3⟩ := hQ3
    rw [List.append_nil] at X3
    have pre4 : ∀ target, Steps p.tables e below (T3.setTop (mkF m 113 #[.val (.long j0), .second, .val (.long j2), .second, .val (.int i4), .val (.int i5), .val (.int i6), .val (.ref a7), .val (.ref a8), .val (.int i9), .val (.int u0)] [(.int u0), (.int (own_f4_0 w_start_a8 w_end_a8))])) target → Steps p.tables e below (T0.setTop (mkF m 94 #[.val (.long j0), .second, .val (.long j2), .second, .val (.int i4), .val (.int i5), .val (.int i6), .val (.ref a7), .val (.ref a8), .val (.int i9), .unset] [(.int u0)])) target := by
      intro target kt
      refine pre2 target ?_
      show Steps p.tables e below (T1.setTop (mkF m 103 #[.val (.long j0), .second, .val (.long j2), .second, .val (.int i4), .val (.int i5), .val (.int i6), .val (.ref a7), .val (.ref a8), .val (.int i9), .val (.int u0)] [(.int i9), (.int (own_f4_0 w_start_a7 w_end_a7))])) _
      refine XS.icmpNo X1.here hx rfl (hb hby at_103) rfl (teq hc103).2 ?_
      show Steps p.tables e below (T1.setTop (mkF m 106 #[.val (.long j0), .second, .val (.long j2), .second, .val (.int i4), .val (.int i5), .val (.int i6), .val (.ref a7), .val (.ref a8), .val (.int i9), .val (.int u0)] [])) _
      refine XS.aload X1.here hx rfl (hb hby at_106) rfl rfl ?_
      show Steps p.tables e below (T1.setTop (mkF m 108 #[.val (.long j0), .second, .val (.long j2), .second, .val (.int i4), .val (.int i5), .val (.int i6), .val (.ref a7), .val (.ref a8), .val (.int i9), .val (.int u0)] [(.ref a8)])) _
      refine st3.trans ?_
      show Steps p.tables e below (T3.setTop (mkF m 111 #[.val (.long j0), .second, .val (.long j2), .second, .val (.int i4), .val (.int i5), .val (.int i6), .val (.ref a7), .val (.ref a8), .val (.int i9), .val (.int u0)] [(.int (own_f4_0 w_start_a8 w_end_a8))])) _
      refine XS.iload X3.here hx rfl (hb hby at_111) rfl ?_
      exact kt
    by_cases hc113 : (own_f4_0 w_start_a8 w_end_a8) = u0
    · refine ⟨T3, _, _, _, X3, N0, (by decide), (by decide), fun fs hr => ?_⟩
      have hv : (own_f0_94 j0 j2 i4 i5 i6 i9 u0 w_start_a7 w_end_a7 w_inBits_a7 w_openEnded_a7 w_start_a8 w_end_a8 w_inBits_a8 w_openEnded_a8) = (1 : Int32) := by unfold own_f0_94; rw [if_pos hc103, if_pos hc113]
      rw [hv] at hr
      refine pre4 _ ?_
      show Steps p.tables e below (T3.setTop (mkF m 113 #[.val (.long j0), .second, .val (.long j2), .second, .val (.int i4), .val (.int i5), .val (.int i6), .val (.ref a7), .val (.ref a8), .val (.int i9), .val (.int u0)] [(.int u0), (.int (own_f4_0 w_start_a8 w_end_a8))])) _
      refine XS.icmpNo X3.here hx rfl (hb hby at_113) rfl (teq hc113).2 ?_
      show Steps p.tables e below (T3.setTop (mkF m 116 #[.val (.long j0), .second, .val (.long j2), .second, .val (.int i4), .val (.int i5), .val (.int i6), .val (.ref a7), .val (.ref a8), .val (.int i9), .val (.int u0)] [])) _
      refine XS.iconst X3.here hx rfl (hb hby at_116) ?_
      show Steps p.tables e below (T3.setTop (mkF m 117 #[.val (.long j0), .second, .val (.long j2), .second, .val (.int i4), .val (.int i5), .val (.int i6), .val (.ref a7), .val (.ref a8), .val (.int i9), .val (.int u0)] [(.int (1 : Int32))])) _
      refine XS.goto X3.here hx rfl (pc0 := 117) (pc' := 121) rfl (hb hby at_117) (by decide) (by decide) ?_
      show Steps p.tables e below (T3.setTop (mkF m 121 #[.val (.long j0), .second, .val (.long j2), .second, .val (.int i4), .val (.int i5), .val (.int i6), .val (.ref a7), .val (.ref a8), .val (.int i9), .val (.int u0)] [(.int (1 : Int32))])) _
      exact retN X3 hx (t := .boolean) hret (by simp) (hb hby at_121) hr
    · refine ⟨T3, _, _, _, X3, N0, (by decide), (by decide), fun fs hr => ?_⟩
      have hv : (own_f0_94 j0 j2 i4 i5 i6 i9 u0 w_start_a7 w_end_a7 w_inBits_a7 w_openEnded_a7 w_start_a8 w_end_a8 w_inBits_a8 w_openEnded_a8) = (0 : Int32) := by unfold own_f0_94; rw [if_pos hc103, if_neg hc113]
      rw [hv] at hr
      refine pre4 _ ?_
      show Steps p.tables e below (T3.setTop (mkF m 113 #[.val (.long j0), .second, .val (.long j2), .second, .val (.int i4), .val (.int i5), .val (.int i6), .val (.ref a7), .val (.ref a8), .val (.int i9), .val (.int u0)] [(.int u0), (.int (own_f4_0 w_start_a8 w_end_a8))])) _
      refine XS.icmpYes X3.here hx rfl (pc0 := 113) (pc' := 120) rfl (hb hby at_113) rfl (feq hc113).2 (by decide) (by decide) ?_
      show Steps p.tables e below (T3.setTop (mkF m 120 #[.val (.long j0), .second, .val (.long j2), .second, .val (.int i4), .val (.int i5), .val (.int i6), .val (.ref a7), .val (.ref a8), .val (.int i9), .val (.int u0)] [])) _
      refine XS.iconst X3.here hx rfl (hb hby at_120) ?_
      show Steps p.tables e below (T3.setTop (mkF m 121 #[.val (.long j0), .second, .val (.long j2), .second, .val (.int i4), .val (.int i5), .val (.int i6), .val (.ref a7), .val (.ref a8), .val (.int i9), .val (.int u0)] [(.int (0 : Int32))])) _
      exact retN X3 hx (t := .boolean) hret (by simp) (hb hby at_121) hr
  · refine ⟨T1, _, _, _, X1, N0, (by decide), (by decide), fun fs hr => ?_⟩
    have hv : (own_f0_94 j0 j2 i4 i5 i6 i9 u0 w_start_a7 w_end_a7 w_inBits_a7 w_openEnded_a7 w_start_a8 w_end_a8 w_inBits_a8 w_openEnded_a8) = (0 : Int32) := by unfold own_f0_94; rw [if_neg hc103]
    rw [hv] at hr
    refine pre2 _ ?_
    show Steps p.tables e below (T1.setTop (mkF m 103 #[.val (.long j0), .second, .val (.long j2), .second, .val (.int i4), .val (.int i5), .val (.int i6), .val (.ref a7), .val (.ref a8), .val (.int i9), .val (.int u0)] [(.int i9), (.int (own_f4_0 w_start_a7 w_end_a7))])) _
    refine XS.icmpYes X1.here hx rfl (pc0 := 103) (pc' := 120) rfl (hb hby at_103) rfl (feq hc103).2 (by decide) (by decide) ?_
    show Steps p.tables e below (T1.setTop (mkF m 120 #[.val (.long j0), .second, .val (.long j2), .second, .val (.int i4), .val (.int i5), .val (.int i6), .val (.ref a7), .val (.ref a8), .val (.int i9), .val (.int u0)] [])) _
    refine XS.iconst X1.here hx rfl (hb hby at_120) ?_
    show Steps p.tables e below (T1.setTop (mkF m 121 #[.val (.long j0), .second, .val (.long j2), .second, .val (.int i4), .val (.int i5), .val (.int i6), .val (.ref a7), .val (.ref a8), .val (.int i9), .val (.int u0)] [(.int (0 : Int32))])) _
    exact retN X1 hx (t := .boolean) hret (by simp) (hb hby at_121) hr
set_option maxRecDepth 65536 in
set_option maxHeartbeats 40000000 in
theorem own_b0_93 {p : Program} {l : Launch} {e : Env} {s : State} {m : MethodId} {args : Array Value} {below : List Frame} {meth : Method} {c : Code} {Z : State} {a0_ : Array Value} {n0 : Nat} (hx : p.tables.exec = Jvm.exec) (hZ : Z.Warmed39 s.vm) (hw : ∀ d ∈ tables_1, d.before a0_ Z = true) (hby : c.code = code) (hml : c.maxLocals = 11) (hown : s.vm.findClass "com/example/rollcalldb/rollcalldb/command/IndexRangeReversedFromEndPinLaw" = some m.cls) (hret : meth.sig.returnType = some .boolean) {T0 : State} {locs : List Loc} {h0 : Heap} (j0 : Int64) (j2 : Int64) (i4 : Int32) (i5 : Int32) (i6 : Int32) (a7 : Addr) (a8 : Addr) (i9 : Int32) (w_start_a7 : Int64) (w_end_a7 : Int64) (w_inBits_a7 : Int32) (w_openEnded_a7 : Int32) (w_start_a8 : Int64) (w_end_a8 : Int64) (w_inBits_a8 : Int32) (w_openEnded_a8 : Int32)
    (X0 : Stand p l e room_1 s m args below meth c T0 locs 2 8) (e0 : T0.heap = h0) (N0 : Fr n0 locs) (Z0 : n0 ≤ h0.size) (g_a7 : n0 ≤ a7) (E_a7 : Exa Z h0 a7 "com/example/rollcalldb/rollcalldb/command/IndexRange") (F_start_a7 : Fld Z h0 a7 "com/example/rollcalldb/rollcalldb/command/IndexRange" "start" "J" (.long w_start_a7)) (F_end_a7 : Fld Z h0 a7 "com/example/rollcalldb/rollcalldb/command/IndexRange" "end" "J" (.long w_end_a7)) (F_inBits_a7 : Fld Z h0 a7 "com/example/rollcalldb/rollcalldb/command/IndexRange" "inBits" "Z" (.int w_inBits_a7)) (F_openEnded_a7 : Fld Z h0 a7 "com/example/rollcalldb/rollcalldb/command/IndexRange" "openEnded" "Z" (.int w_openEnded_a7)) (ne_a7_a8 : a7 ≠ a8) (g_a8 : n0 ≤ a8) (E_a8 : Exa Z h0 a8 "com/example/rollcalldb/rollcalldb/command/IndexRange") (F_start_a8 : Fld Z h0 a8 "com/example/rollcalldb/rollcalldb/command/IndexRange" "start" "J" (.long w_start_a8)) (F_end_a8 : Fld Z h0 a8 "com/example/rollcalldb/rollcalldb/command/IndexRange" "end" "J" (.long w_end_a8)) (F_inBits_a8 : Fld Z h0 a8 "com/example/rollcalldb/rollcalldb/command/IndexRange" "inBits" "Z" (.int w_inBits_a8)) (F_openEnded_a8 : Fld Z h0 a8 "com/example/rollcalldb/rollcalldb/command/IndexRange" "openEnded" "Z" (.int w_openEnded_a8)) :
    ∃ T' locs' cells' slots', Stand p l e room_1 s m args below meth c T' locs' cells' slots' ∧ Fr n0 locs' ∧ cells' ≤ room_1.cells ∧ slots' ≤ room_1.slots ∧ ∀ fs, (∀ (f : JFrame) (acts : List Action), f.method = m → f.locked = none → f.entered = [] → (doReturn e (T'.setTop f) acts (some (.int (own_f0_93 j0 j2 i4 i5 i6 i9 w_start_a7 w_end_a7 w_inBits_a7 w_openEnded_a7 w_start_a8 w_end_a8 w_inBits_a8 w_openEnded_a8)))).1 = T'.setFrames fs) → Steps p.tables e below (T0.setTop (mkF m 93 #[.val (.long j0), .second, .val (.long j2), .second, .val (.int i4), .val (.int i5), .val (.int i6), .val (.ref a7), .val (.ref a8), .val (.int i9), .unset] [])) (T'.setFrames fs) := by
  have pre1 : ∀ target, Steps p.tables e below (T0.setTop (mkF m 94 #[.val (.long j0), .second, .val (.long j2), .second, .val (.int i4), .val (.int i5), .val (.int i6), .val (.ref a7), .val (.ref a8), .val (.int i9), .unset] [(.int (0 : Int32))])) target → Steps p.tables e below (T0.setTop (mkF m 93 #[.val (.long j0), .second, .val (.long j2), .second, .val (.int i4), .val (.int i5), .val (.int i6), .val (.ref a7), .val (.ref a8), .val (.int i9), .unset] [])) target := by
    intro target kt
    show Steps p.tables e below (T0.setTop (mkF m 93 #[.val (.long j0), .second, .val (.long j2), .second, .val (.int i4), .val (.int i5), .val (.int i6), .val (.ref a7), .val (.ref a8), .val (.int i9), .unset] [])) _
    refine XS.iconst X0.here hx rfl (hb hby at_93) ?_
    exact kt
  obtain ⟨T2, L2, k2, n2, X2, N2, hk2', hn2, st2⟩ := own_b0_94 hx hZ hw hby hml hown hret j0 j2 i4 i5 i6 a7 a8 i9 (0 : Int32) w_start_a7 w_end_a7 w_inBits_a7 w_openEnded_a7 w_start_a8 w_end_a8 w_inBits_a8 w_openEnded_a8 X0 e0 N0 Z0 g_a7 E_a7 F_start_a7 F_end_a7 F_inBits_a7 F_openEnded_a7 ne_a7_a8 g_a8 E_a8 F_start_a8 F_end_a8 F_inBits_a8 F_openEnded_a8 
  have hv : (own_f0_93 j0 j2 i4 i5 i6 i9 w_start_a7 w_end_a7 w_inBits_a7 w_openEnded_a7 w_start_a8 w_end_a8 w_inBits_a8 w_openEnded_a8) = (own_f0_94 j0 j2 i4 i5 i6 i9 (0 : Int32) w_start_a7 w_end_a7 w_inBits_a7 w_openEnded_a7 w_start_a8 w_end_a8 w_inBits_a8 w_openEnded_a8) := by unfold own_f0_93; rfl
  exact ⟨T2, L2, k2, n2, X2, N2, hk2', hn2, fun fs hr => pre1 _ (st2 fs (by rw [hv] at hr; exact hr))⟩
set_option maxRecDepth 65536 in
set_option maxHeartbeats 40000000 in
theorem own_b0_75 {p : Program} {l : Launch} {e : Env} {s : State} {m : MethodId} {args : Array Value} {below : List Frame} {meth : Method} {c : Code} {Z : State} {a0_ : Array Value} {n0 : Nat} (hx : p.tables.exec = Jvm.exec) (hZ : Z.Warmed39 s.vm) (hw : ∀ d ∈ tables_1, d.before a0_ Z = true) (hby : c.code = code) (hml : c.maxLocals = 11) (hown : s.vm.findClass "com/example/rollcalldb/rollcalldb/command/IndexRangeReversedFromEndPinLaw" = some m.cls) (hret : meth.sig.returnType = some .boolean) {T0 : State} {locs : List Loc} {h0 : Heap} (j0 : Int64) (j2 : Int64) (i4 : Int32) (i5 : Int32) (i6 : Int32) (a7 : Addr) (a8 : Addr) (u0 : Int32) (w_start_a7 : Int64) (w_end_a7 : Int64) (w_inBits_a7 : Int32) (w_openEnded_a7 : Int32) (w_start_a8 : Int64) (w_end_a8 : Int64) (w_inBits_a8 : Int32) (w_openEnded_a8 : Int32)
    (X0 : Stand p l e room_1 s m args below meth c T0 locs 2 8) (e0 : T0.heap = h0) (N0 : Fr n0 locs) (Z0 : n0 ≤ h0.size) (g_a7 : n0 ≤ a7) (E_a7 : Exa Z h0 a7 "com/example/rollcalldb/rollcalldb/command/IndexRange") (F_start_a7 : Fld Z h0 a7 "com/example/rollcalldb/rollcalldb/command/IndexRange" "start" "J" (.long w_start_a7)) (F_end_a7 : Fld Z h0 a7 "com/example/rollcalldb/rollcalldb/command/IndexRange" "end" "J" (.long w_end_a7)) (F_inBits_a7 : Fld Z h0 a7 "com/example/rollcalldb/rollcalldb/command/IndexRange" "inBits" "Z" (.int w_inBits_a7)) (F_openEnded_a7 : Fld Z h0 a7 "com/example/rollcalldb/rollcalldb/command/IndexRange" "openEnded" "Z" (.int w_openEnded_a7)) (ne_a7_a8 : a7 ≠ a8) (g_a8 : n0 ≤ a8) (E_a8 : Exa Z h0 a8 "com/example/rollcalldb/rollcalldb/command/IndexRange") (F_start_a8 : Fld Z h0 a8 "com/example/rollcalldb/rollcalldb/command/IndexRange" "start" "J" (.long w_start_a8)) (F_end_a8 : Fld Z h0 a8 "com/example/rollcalldb/rollcalldb/command/IndexRange" "end" "J" (.long w_end_a8)) (F_inBits_a8 : Fld Z h0 a8 "com/example/rollcalldb/rollcalldb/command/IndexRange" "inBits" "Z" (.int w_inBits_a8)) (F_openEnded_a8 : Fld Z h0 a8 "com/example/rollcalldb/rollcalldb/command/IndexRange" "openEnded" "Z" (.int w_openEnded_a8)) :
    ∃ T' locs' cells' slots', Stand p l e room_1 s m args below meth c T' locs' cells' slots' ∧ Fr n0 locs' ∧ cells' ≤ room_1.cells ∧ slots' ≤ room_1.slots ∧ ∀ fs, (∀ (f : JFrame) (acts : List Action), f.method = m → f.locked = none → f.entered = [] → (doReturn e (T'.setTop f) acts (some (.int (own_f0_75 j0 j2 i4 i5 i6 u0 w_start_a7 w_end_a7 w_inBits_a7 w_openEnded_a7 w_start_a8 w_end_a8 w_inBits_a8 w_openEnded_a8)))).1 = T'.setFrames fs) → Steps p.tables e below (T0.setTop (mkF m 75 #[.val (.long j0), .second, .val (.long j2), .second, .val (.int i4), .val (.int i5), .val (.int i6), .val (.ref a7), .val (.ref a8), .unset, .unset] [(.int u0)])) (T'.setFrames fs) := by
  have pre1 : ∀ target, Steps p.tables e below (T0.setTop (mkF m 80 #[.val (.long j0), .second, .val (.long j2), .second, .val (.int i4), .val (.int i5), .val (.int i6), .val (.ref a7), .val (.ref a8), .val (.int u0), .unset] [(.int (lcmpW j2 (0 : Int64)))])) target → Steps p.tables e below (T0.setTop (mkF m 75 #[.val (.long j0), .second, .val (.long j2), .second, .val (.int i4), .val (.int i5), .val (.int i6), .val (.ref a7), .val (.ref a8), .unset, .unset] [(.int u0)])) target := by
    intro target kt
    show Steps p.tables e below (T0.setTop (mkF m 75 #[.val (.long j0), .second, .val (.long j2), .second, .val (.int i4), .val (.int i5), .val (.int i6), .val (.ref a7), .val (.ref a8), .unset, .unset] [(.int u0)])) _
    refine XS.istore X0.here hx rfl (hb hby at_75) rfl (l' := #[.val (.long j0), .second, .val (.long j2), .second, .val (.int i4), .val (.int i5), .val (.int i6), .val (.ref a7), .val (.ref a8), .val (.int u0), .unset]) rfl ?_
    show Steps p.tables e below (T0.setTop (mkF m 77 #[.val (.long j0), .second, .val (.long j2), .second, .val (.int i4), .val (.int i5), .val (.int i6), .val (.ref a7), .val (.ref a8), .val (.int u0), .unset] [])) _
    refine XS.lloadN X0.here hx rfl (hb hby at_77) rfl ?_
    show Steps p.tables e below (T0.setTop (mkF m 78 #[.val (.long j0), .second, .val (.long j2), .second, .val (.int i4), .val (.int i5), .val (.int i6), .val (.ref a7), .val (.ref a8), .val (.int u0), .unset] [(.long j2)])) _
    refine XS.lconst X0.here hx rfl (hb hby at_78) ?_
    show Steps p.tables e below (T0.setTop (mkF m 79 #[.val (.long j0), .second, .val (.long j2), .second, .val (.int i4), .val (.int i5), .val (.int i6), .val (.ref a7), .val (.ref a8), .val (.int u0), .unset] [(.long (0 : Int64)), (.long j2)])) _
    refine XS.lcmp X0.here hx rfl (hb hby at_79) rfl ?_
    exact kt
  by_cases hc80 : j2 < (0 : Int64)
  · have pre2 : ∀ target, Steps p.tables e below (T0.setTop (mkF m 86 #[.val (.long j0), .second, .val (.long j2), .second, .val (.int i4), .val (.int i5), .val (.int i6), .val (.ref a7), .val (.ref a8), .val (.int u0), .unset] [(.int (lcmpW j0 j2))])) target → Steps p.tables e below (T0.setTop (mkF m 75 #[.val (.long j0), .second, .val (.long j2), .second, .val (.int i4), .val (.int i5), .val (.int i6), .val (.ref a7), .val (.ref a8), .unset, .unset] [(.int u0)])) target := by
      intro target kt
      refine pre1 target ?_
      show Steps p.tables e below (T0.setTop (mkF m 80 #[.val (.long j0), .second, .val (.long j2), .second, .val (.int i4), .val (.int i5), .val (.int i6), .val (.ref a7), .val (.ref a8), .val (.int u0), .unset] [(.int (lcmpW j2 (0 : Int64)))])) _
      refine XS.ifNo X0.here hx rfl (hb hby at_80) rfl ((if0 _ _).trans (tlt ((lw_lt _ _).mpr hc80)).2.1) ?_
      show Steps p.tables e below (T0.setTop (mkF m 83 #[.val (.long j0), .second, .val (.long j2), .second, .val (.int i4), .val (.int i5), .val (.int i6), .val (.ref a7), .val (.ref a8), .val (.int u0), .unset] [])) _
      refine XS.lloadN X0.here hx rfl (hb hby at_83) rfl ?_
      show Steps p.tables e below (T0.setTop (mkF m 84 #[.val (.long j0), .second, .val (.long j2), .second, .val (.int i4), .val (.int i5), .val (.int i6), .val (.ref a7), .val (.ref a8), .val (.int u0), .unset] [(.long j0)])) _
      refine XS.lloadN X0.here hx rfl (hb hby at_84) rfl ?_
      show Steps p.tables e below (T0.setTop (mkF m 85 #[.val (.long j0), .second, .val (.long j2), .second, .val (.int i4), .val (.int i5), .val (.int i6), .val (.ref a7), .val (.ref a8), .val (.int u0), .unset] [(.long j2), (.long j0)])) _
      refine XS.lcmp X0.here hx rfl (hb hby at_85) rfl ?_
      exact kt
    by_cases hc86 : j0 < j2
    · have pre3 : ∀ target, Steps p.tables e below (T0.setTop (mkF m 94 #[.val (.long j0), .second, .val (.long j2), .second, .val (.int i4), .val (.int i5), .val (.int i6), .val (.ref a7), .val (.ref a8), .val (.int u0), .unset] [(.int (1 : Int32))])) target → Steps p.tables e below (T0.setTop (mkF m 75 #[.val (.long j0), .second, .val (.long j2), .second, .val (.int i4), .val (.int i5), .val (.int i6), .val (.ref a7), .val (.ref a8), .unset, .unset] [(.int u0)])) target := by
        intro target kt
        refine pre2 target ?_
        show Steps p.tables e below (T0.setTop (mkF m 86 #[.val (.long j0), .second, .val (.long j2), .second, .val (.int i4), .val (.int i5), .val (.int i6), .val (.ref a7), .val (.ref a8), .val (.int u0), .unset] [(.int (lcmpW j0 j2))])) _
        refine XS.ifNo X0.here hx rfl (hb hby at_86) rfl ((if0 _ _).trans (tlt ((lw_lt _ _).mpr hc86)).2.1) ?_
        show Steps p.tables e below (T0.setTop (mkF m 89 #[.val (.long j0), .second, .val (.long j2), .second, .val (.int i4), .val (.int i5), .val (.int i6), .val (.ref a7), .val (.ref a8), .val (.int u0), .unset] [])) _
        refine XS.iconst X0.here hx rfl (hb hby at_89) ?_
        show Steps p.tables e below (T0.setTop (mkF m 90 #[.val (.long j0), .second, .val (.long j2), .second, .val (.int i4), .val (.int i5), .val (.int i6), .val (.ref a7), .val (.ref a8), .val (.int u0), .unset] [(.int (1 : Int32))])) _
        refine XS.goto X0.here hx rfl (pc0 := 90) (pc' := 94) rfl (hb hby at_90) (by decide) (by decide) ?_
        exact kt
      obtain ⟨T4, L4, k4, n4, X4, N4, hk4', hn4, st4⟩ := own_b0_94 hx hZ hw hby hml hown hret j0 j2 i4 i5 i6 a7 a8 u0 (1 : Int32) w_start_a7 w_end_a7 w_inBits_a7 w_openEnded_a7 w_start_a8 w_end_a8 w_inBits_a8 w_openEnded_a8 X0 e0 N0 Z0 g_a7 E_a7 F_start_a7 F_end_a7 F_inBits_a7 F_openEnded_a7 ne_a7_a8 g_a8 E_a8 F_start_a8 F_end_a8 F_inBits_a8 F_openEnded_a8 
      have hv : (own_f0_75 j0 j2 i4 i5 i6 u0 w_start_a7 w_end_a7 w_inBits_a7 w_openEnded_a7 w_start_a8 w_end_a8 w_inBits_a8 w_openEnded_a8) = (own_f0_94 j0 j2 i4 i5 i6 u0 (1 : Int32) w_start_a7 w_end_a7 w_inBits_a7 w_openEnded_a7 w_start_a8 w_end_a8 w_inBits_a8 w_openEnded_a8) := by unfold own_f0_75; rw [if_pos hc80, if_pos hc86]
      exact ⟨T4, L4, k4, n4, X4, N4, hk4', hn4, fun fs hr => pre3 _ (st4 fs (by rw [hv] at hr; exact hr))⟩
    · have pre5 : ∀ target, Steps p.tables e below (T0.setTop (mkF m 93 #[.val (.long j0), .second, .val (.long j2), .second, .val (.int i4), .val (.int i5), .val (.int i6), .val (.ref a7), .val (.ref a8), .val (.int u0), .unset] [])) target → Steps p.tables e below (T0.setTop (mkF m 75 #[.val (.long j0), .second, .val (.long j2), .second, .val (.int i4), .val (.int i5), .val (.int i6), .val (.ref a7), .val (.ref a8), .unset, .unset] [(.int u0)])) target := by
        intro target kt
        refine pre2 target ?_
        show Steps p.tables e below (T0.setTop (mkF m 86 #[.val (.long j0), .second, .val (.long j2), .second, .val (.int i4), .val (.int i5), .val (.int i6), .val (.ref a7), .val (.ref a8), .val (.int u0), .unset] [(.int (lcmpW j0 j2))])) _
        refine XS.ifYes X0.here hx rfl (pc0 := 86) (pc' := 93) rfl (hb hby at_86) rfl ((if0 _ _).trans (flt (mt (lw_lt _ _).mp hc86)).2.1) (by decide) (by decide) ?_
        exact kt
      obtain ⟨T6, L6, k6, n6, X6, N6, hk6', hn6, st6⟩ := own_b0_93 hx hZ hw hby hml hown hret j0 j2 i4 i5 i6 a7 a8 u0 w_start_a7 w_end_a7 w_inBits_a7 w_openEnded_a7 w_start_a8 w_end_a8 w_inBits_a8 w_openEnded_a8 X0 e0 N0 Z0 g_a7 E_a7 F_start_a7 F_end_a7 F_inBits_a7 F_openEnded_a7 ne_a7_a8 g_a8 E_a8 F_start_a8 F_end_a8 F_inBits_a8 F_openEnded_a8 
      have hv : (own_f0_75 j0 j2 i4 i5 i6 u0 w_start_a7 w_end_a7 w_inBits_a7 w_openEnded_a7 w_start_a8 w_end_a8 w_inBits_a8 w_openEnded_a8) = (own_f0_93 j0 j2 i4 i5 i6 u0 w_start_a7 w_end_a7 w_inBits_a7 w_openEnded_a7 w_start_a8 w_end_a8 w_inBits_a8 w_openEnded_a8) := by unfold own_f0_75; rw [if_pos hc80, if_neg hc86]
      exact ⟨T6, L6, k6, n6, X6, N6, hk6', hn6, fun fs hr => pre5 _ (st6 fs (by rw [hv] at hr; exact hr))⟩
  · have pre7 : ∀ target, Steps p.tables e below (T0.setTop (mkF m 93 #[.val (.long j0), .second, .val (.long j2), .second, .val (.int i4), .val (.int i5), .val (.int i6), .val (.ref a7), .val (.ref a8), .val (.int u0), .unset] [])) target → Steps p.tables e below (T0.setTop (mkF m 75 #[.val (.long j0), .second, .val (.long j2), .second, .val (.int i4), .val (.int i5), .val (.int i6), .val (.ref a7), .val (.ref a8), .unset, .unset] [(.int u0)])) target := by
      intro target kt
      refine pre1 target ?_
      show Steps p.tables e below (T0.setTop (mkF m 80 #[.val (.long j0), .second, .val (.long j2), .second, .val (.int i4), .val (.int i5), .val (.int i6), .val (.ref a7), .val (.ref a8), .val (.int u0), .unset] [(.int (lcmpW j2 (0 : Int64)))])) _
      refine XS.ifYes X0.here hx rfl (pc0 := 80) (pc' := 93) rfl (hb hby at_80) rfl ((if0 _ _).trans (flt (mt (lw_lt _ _).mp hc80)).2.1) (by decide) (by decide) ?_
      exact kt
    obtain ⟨T8, L8, k8, n8, X8, N8, hk8', hn8, st8⟩ := own_b0_93 hx hZ hw hby hml hown hret j0 j2 i4 i5 i6 a7 a8 u0 w_start_a7 w_end_a7 w_inBits_a7 w_openEnded_a7 w_start_a8 w_end_a8 w_inBits_a8 w_openEnded_a8 X0 e0 N0 Z0 g_a7 E_a7 F_start_a7 F_end_a7 F_inBits_a7 F_openEnded_a7 ne_a7_a8 g_a8 E_a8 F_start_a8 F_end_a8 F_inBits_a8 F_openEnded_a8 
    have hv : (own_f0_75 j0 j2 i4 i5 i6 u0 w_start_a7 w_end_a7 w_inBits_a7 w_openEnded_a7 w_start_a8 w_end_a8 w_inBits_a8 w_openEnded_a8) = (own_f0_93 j0 j2 i4 i5 i6 u0 w_start_a7 w_end_a7 w_inBits_a7 w_openEnded_a7 w_start_a8 w_end_a8 w_inBits_a8 w_openEnded_a8) := by unfold own_f0_75; rw [if_neg hc80]
    exact ⟨T8, L8, k8, n8, X8, N8, hk8', hn8, fun fs hr => pre7 _ (st8 fs (by rw [hv] at hr; exact hr))⟩
set_option maxRecDepth 65536 in
set_option maxHeartbeats 40000000 in
theorem own_b0_74 {p : Program} {l : Launch} {e : Env} {s : State} {m : MethodId} {args : Array Value} {below : List Frame} {meth : Method} {c : Code} {Z : State} {a0_ : Array Value} {n0 : Nat} (hx : p.tables.exec = Jvm.exec) (hZ : Z.Warmed39 s.vm) (hw : ∀ d ∈ tables_1, d.before a0_ Z = true) (hby : c.code = code) (hml : c.maxLocals = 11) (hown : s.vm.findClass "com/example/rollcalldb/rollcalldb/command/IndexRangeReversedFromEndPinLaw" = some m.cls) (hret : meth.sig.returnType = some .boolean) {T0 : State} {locs : List Loc} {h0 : Heap} (j0 : Int64) (j2 : Int64) (i4 : Int32) (i5 : Int32) (i6 : Int32) (a7 : Addr) (a8 : Addr) (w_start_a7 : Int64) (w_end_a7 : Int64) (w_inBits_a7 : Int32) (w_openEnded_a7 : Int32) (w_start_a8 : Int64) (w_end_a8 : Int64) (w_inBits_a8 : Int32) (w_openEnded_a8 : Int32)
    (X0 : Stand p l e room_1 s m args below meth c T0 locs 2 8) (e0 : T0.heap = h0) (N0 : Fr n0 locs) (Z0 : n0 ≤ h0.size) (g_a7 : n0 ≤ a7) (E_a7 : Exa Z h0 a7 "com/example/rollcalldb/rollcalldb/command/IndexRange") (F_start_a7 : Fld Z h0 a7 "com/example/rollcalldb/rollcalldb/command/IndexRange" "start" "J" (.long w_start_a7)) (F_end_a7 : Fld Z h0 a7 "com/example/rollcalldb/rollcalldb/command/IndexRange" "end" "J" (.long w_end_a7)) (F_inBits_a7 : Fld Z h0 a7 "com/example/rollcalldb/rollcalldb/command/IndexRange" "inBits" "Z" (.int w_inBits_a7)) (F_openEnded_a7 : Fld Z h0 a7 "com/example/rollcalldb/rollcalldb/command/IndexRange" "openEnded" "Z" (.int w_openEnded_a7)) (ne_a7_a8 : a7 ≠ a8) (g_a8 : n0 ≤ a8) (E_a8 : Exa Z h0 a8 "com/example/rollcalldb/rollcalldb/command/IndexRange") (F_start_a8 : Fld Z h0 a8 "com/example/rollcalldb/rollcalldb/command/IndexRange" "start" "J" (.long w_start_a8)) (F_end_a8 : Fld Z h0 a8 "com/example/rollcalldb/rollcalldb/command/IndexRange" "end" "J" (.long w_end_a8)) (F_inBits_a8 : Fld Z h0 a8 "com/example/rollcalldb/rollcalldb/command/IndexRange" "inBits" "Z" (.int w_inBits_a8)) (F_openEnded_a8 : Fld Z h0 a8 "com/example/rollcalldb/rollcalldb/command/IndexRange" "openEnded" "Z" (.int w_openEnded_a8)) :
    ∃ T' locs' cells' slots', Stand p l e room_1 s m args below meth c T' locs' cells' slots' ∧ Fr n0 locs' ∧ cells' ≤ room_1.cells ∧ slots' ≤ room_1.slots ∧ ∀ fs, (∀ (f : JFrame) (acts : List Action), f.method = m → f.locked = none → f.entered = [] → (doReturn e (T'.setTop f) acts (some (.int (own_f0_74 j0 j2 i4 i5 i6 w_start_a7 w_end_a7 w_inBits_a7 w_openEnded_a7 w_start_a8 w_end_a8 w_inBits_a8 w_openEnded_a8)))).1 = T'.setFrames fs) → Steps p.tables e below (T0.setTop (mkF m 74 #[.val (.long j0), .second, .val (.long j2), .second, .val (.int i4), .val (.int i5), .val (.int i6), .val (.ref a7), .val (.ref a8), .unset, .unset] [])) (T'.setFrames fs) := by
  have pre1 : ∀ target, Steps p.tables e below (T0.setTop (mkF m 75 #[.val (.long j0), .second, .val (.long j2), .second, .val (.int i4), .val (.int i5), .val (.int i6), .val (.ref a7), .val (.ref a8), .unset, .unset] [(.int (0 : Int32))])) target → Steps p.tables e below (T0.setTop (mkF m 74 #[.val (.long j0), .second, .val (.long j2), .second, .val (.int i4), .val (.int i5), .val (.int i6), .val (.ref a7), .val (.ref a8), .unset, .unset] [])) target := by
    intro target kt
    show Steps p.tables e below (T0.setTop (mkF m 74 #[.val (.long j0), .second, .val (.long j2), .second, .val (.int i4), .val (.int i5), .val (.int i6), .val (.ref a7), .val (.ref a8), .unset, .unset] [])) _
    refine XS.iconst X0.here hx rfl (hb hby at_74) ?_
    exact kt
  obtain ⟨T2, L2, k2, n2, X2, N2, hk2', hn2, st2⟩ := own_b0_75 hx hZ hw hby hml hown hret j0 j2 i4 i5 i6 a7 a8 (0 : Int32) w_start_a7 w_end_a7 w_inBits_a7 w_openEnded_a7 w_start_a8 w_end_a8 w_inBits_a8 w_openEnded_a8 X0 e0 N0 Z0 g_a7 E_a7 F_start_a7 F_end_a7 F_inBits_a7 F_openEnded_a7 ne_a7_a8 g_a8 E_a8 F_start_a8 F_end_a8 F_inBits_a8 F_openEnded_a8 
  have hv : (own_f0_74 j0 j2 i4 i5 i6 w_start_a7 w_end_a7 w_inBits_a7 w_openEnded_a7 w_start_a8 w_end_a8 w_inBits_a8 w_openEnded_a8) = (own_f0_75 j0 j2 i4 i5 i6 (0 : Int32) w_start_a7 w_end_a7 w_inBits_a7 w_openEnded_a7 w_start_a8 w_end_a8 w_inBits_a8 w_openEnded_a8) := by unfold own_f0_74; rfl
  exact ⟨T2, L2, k2, n2, X2, N2, hk2', hn2, fun fs hr => pre1 _ (st2 fs (by rw [hv] at hr; exact hr))⟩
set_option maxRecDepth 65536 in
set_option maxHeartbeats 40000000 in
theorem own_b0_26 {p : Program} {l : Launch} {e : Env} {s : State} {m : MethodId} {args : Array Value} {below : List Frame} {meth : Method} {c : Code} {Z : State} {a0_ : Array Value} {n0 : Nat} (hx : p.tables.exec = Jvm.exec) (hZ : Z.Warmed39 s.vm) (hw : ∀ d ∈ tables_1, d.before a0_ Z = true) (hby : c.code = code) (hml : c.maxLocals = 11) (hown : s.vm.findClass "com/example/rollcalldb/rollcalldb/command/IndexRangeReversedFromEndPinLaw" = some m.cls) (hret : meth.sig.returnType = some .boolean) {T0 : State} {locs : List Loc} {h0 : Heap} (j0 : Int64) (j2 : Int64) (i4 : Int32) (i5 : Int32) (u0 : Int32)
    (X0 : Stand p l e room_1 s m args below meth c T0 locs 0 0) (e0 : T0.heap = h0) (N0 : Fr n0 locs) (Z0 : n0 ≤ h0.size)  :
    ∃ T' locs' cells' slots', Stand p l e room_1 s m args below meth c T' locs' cells' slots' ∧ Fr n0 locs' ∧ cells' ≤ room_1.cells ∧ slots' ≤ room_1.slots ∧ ∀ fs, (∀ (f : JFrame) (acts : List Action), f.method = m → f.locked = none → f.entered = [] → (doReturn e (T'.setTop f) acts (some (.int (own_f0_26 j0 j2 i4 i5 u0)))).1 = T'.setFrames fs) → Steps p.tables e below (T0.setTop (mkF m 26 #[.val (.long j0), .second, .val (.long j2), .second, .val (.int i4), .val (.int i5), .unset, .unset, .unset, .unset, .unset] [(.int u0)])) (T'.setFrames fs) := by
  obtain ⟨T1, h1, X1, e1, E1, A1, D1, -, st1⟩ := newO X0 hx hZ hown (hw _ (List.mem_of_getElem? (i := 0) rfl)) (hw _ (List.mem_of_getElem? (i := 1) rfl)) (hw _ (List.mem_of_getElem? (i := 2) rfl)) e0 (g := (mkF m 28 #[.val (.long j0), .second, .val (.long j2), .second, .val (.int i4), .val (.int i5), .val (.int u0), .unset, .unset, .unset, .unset] [])) rfl (hb hby at_28) (by decide) (by decide)
  obtain ⟨b1, g1⟩ : ∃ z, z = h0.size := ⟨_, rfl⟩
  rw [← g1] at A1 D1 st1
  have g_b1 : n0 ≤ b1 := Nat.le_trans Z0 (Nat.le_of_eq g1.symm)
  have Z1 : n0 ≤ h1.size := Nat.le_trans Z0 E1.1
  have F_start_b1 : Fld Z h1 b1 "com/example/rollcalldb/rollcalldb/command/IndexRange" "start" "J" (.long (0 : Int64)) := D1 (Or.inr (hw _ (List.mem_of_getElem? (i := 15) rfl))) (ty := .long) (by decide)
  have F_end_b1 : Fld Z h1 b1 "com/example/rollcalldb/rollcalldb/command/IndexRange" "end" "J" (.long (0 : Int64)) := D1 (Or.inr (hw _ (List.mem_of_getElem? (i := 17) rfl))) (ty := .long) (by decide)
  have F_inBits_b1 : Fld Z h1 b1 "com/example/rollcalldb/rollcalldb/command/IndexRange" "inBits" "Z" (.int (0 : Int32)) := D1 (Or.inr (hw _ (List.mem_of_getElem? (i := 19) rfl))) (ty := .boolean) (by decide)
  have F_openEnded_b1 : Fld Z h1 b1 "com/example/rollcalldb/rollcalldb/command/IndexRange" "openEnded" "Z" (.int (0 : Int32)) := D1 (Or.inr (hw _ (List.mem_of_getElem? (i := 21) rfl))) (ty := .boolean) (by decide)
  obtain ⟨_, _, ⟨T2, L2, k2, n2⟩, -, X2, ⟨Lc2, hQ2, l2, y2, z2⟩, st2⟩ := X1.specialBack hx (y := (⟨"com/example/rollcalldb/rollcalldb/command/IndexRange", "<init>", "(JJZZ)V"⟩ : MethodName)) rfl hown (mvT hZ (hw _ (List.mem_of_getElem? (i := 3) rfl))) (mvT hZ (hw _ (List.mem_of_getElem? (i := 4) rfl))) (mvT hZ (hw _ (List.mem_of_getElem? (i := 5) rfl))) (by decide) (backOf (W := 1) (rm1 l Z a0_ hw [] b1 j0 j2 i5 u0 (0 : Int64) (0 : Int64) (0 : Int32) (0 : Int32) h1 n0 Z1 A1 g_b1 F_start_b1 F_end_b1 F_inBits_b1 F_openEnded_b1) hZ (hw _ (List.mem_of_getElem? (i := 5) rfl)) (hw _ (List.mem_of_getElem? (i := 2) rfl)) (by decide) (by decide)) (g := (mkF m 38 #[.val (.long j0), .second, .val (.long j2), .second, .val (.int i4), .val (.int i5), .val (.int u0), .unset, .unset, .unset, .unset] [(.int u0), (.int i5), (.long j2), (.long j0), (.ref b1), (.ref b1)])) rfl (by rw [hml]; rfl) (Steps.refl _) (a := b1) (argsL := [(.long j0), (.long j2), (.int i5), (.int u0)]) (rest := [(.ref b1)]) (lenOf pd_0_0 rfl) rfl (by show 2 * 0 + _ ≤ _; exact Nat.le_of_eq rfl) (hb hby at_38) (fun _ _ => ⟨rfl, e1, (by decide : 1 + 0 ≤ room_1.cells), (by decide : 4 + 0 ≤ room_1.slots)⟩)
  dsimp only [Pt.U, Pt.locs, Pt.cells, Pt.slots] at X2 l2 y2 z2 st2 hQ2
  subst l2 y2 z2
  obtain ⟨rfl, Nq2, Kq2, Eq2, Gq2_start, Gq2_end, Gq2_inBits, Gq2_openEnded⟩ := hQ2
  have N2 := Fr.app N0 Nq2
  have Z2 : n0 ≤ T2.heap.size := Nat.le_trans Z1 Kq2.1
  have A1_k2 := Eq2
  have F_start_b1_k2 := Gq2_start
  have F_end_b1_k2 := Gq2_end
  have F_inBits_b1_k2 := Gq2_inBits
  have F_openEnded_b1_k2 := Gq2_openEnded
  obtain ⟨T3, h3, X3, e3, E3, A3, D3, -, st3⟩ := newO X2 hx hZ hown (hw _ (List.mem_of_getElem? (i := 0) rfl)) (hw _ (List.mem_of_getElem? (i := 1) rfl)) (hw _ (List.mem_of_getElem? (i := 2) rfl)) rfl (g := (mkF m 43 #[.val (.long j0), .second, .val (.long j2), .second, .val (.int i4), .val (.int i5), .val (.int u0), .val (.ref b1), .unset, .unset, .unset] [])) rfl (hb hby at_43) (by decide) (by decide)
  obtain ⟨b3, g3⟩ : ∃ z, z = T2.heap.size := ⟨_, rfl⟩
  rw [← g3] at A3 D3 st3
  have g_b3 : n0 ≤ b3 := Nat.le_trans Z2 (Nat.le_of_eq g3.symm)
  have Z3 : n0 ≤ h3.size := Nat.le_trans Z2 E3.1
  have ne_b1_b3 : b1 ≠ b3 := Nat.ne_of_lt (Nat.lt_of_lt_of_le A1_k2.lt (Nat.le_of_eq g3.symm))
  have A1_k3 := A1_k2.ext E3
  have F_start_b1_k3 := F_start_b1_k2.ext E3
  have F_end_b1_k3 := F_end_b1_k2.ext E3
  have F_inBits_b1_k3 := F_inBits_b1_k2.ext E3
  have F_openEnded_b1_k3 := F_openEnded_b1_k2.ext E3
  have F_start_b3 : Fld Z h3 b3 "com/example/rollcalldb/rollcalldb/command/IndexRange" "start" "J" (.long (0 : Int64)) := D3 (Or.inr (hw _ (List.mem_of_getElem? (i := 15) rfl))) (ty := .long) (by decide)
  have F_end_b3 : Fld Z h3 b3 "com/example/rollcalldb/rollcalldb/command/IndexRange" "end" "J" (.long (0 : Int64)) := D3 (Or.inr (hw _ (List.mem_of_getElem? (i := 17) rfl))) (ty := .long) (by decide)
  have F_inBits_b3 : Fld Z h3 b3 "com/example/rollcalldb/rollcalldb/command/IndexRange" "inBits" "Z" (.int (0 : Int32)) := D3 (Or.inr (hw _ (List.mem_of_getElem? (i := 19) rfl))) (ty := .boolean) (by decide)
  have F_openEnded_b3 : Fld Z h3 b3 "com/example/rollcalldb/rollcalldb/command/IndexRange" "openEnded" "Z" (.int (0 : Int32)) := D3 (Or.inr (hw _ (List.mem_of_getElem? (i := 21) rfl))) (ty := .boolean) (by decide)
  obtain ⟨_, _, ⟨T4, L4, k4, n4⟩, -, X4, ⟨Lc4, hQ4, l4, y4, z4⟩, st4⟩ := X3.specialBack hx (y := (⟨"com/example/rollcalldb/rollcalldb/command/IndexRange", "<init>", "(JJZZ)V"⟩ : MethodName)) rfl hown (mvT hZ (hw _ (List.mem_of_getElem? (i := 3) rfl))) (mvT hZ (hw _ (List.mem_of_getElem? (i := 4) rfl))) (mvT hZ (hw _ (List.mem_of_getElem? (i := 5) rfl))) (by decide) (backOf (W := 1) (rm1 l Z a0_ hw [] b3 j2 j0 u0 i5 (0 : Int64) (0 : Int64) (0 : Int32) (0 : Int32) h3 n0 Z3 A3 g_b3 F_start_b3 F_end_b3 F_inBits_b3 F_openEnded_b3) hZ (hw _ (List.mem_of_getElem? (i := 5) rfl)) (hw _ (List.mem_of_getElem? (i := 2) rfl)) (by decide) (by decide)) (g := (mkF m 53 #[.val (.long j0), .second, .val (.long j2), .second, .val (.int i4), .val (.int i5), .val (.int u0), .val (.ref b1), .unset, .unset, .unset] [(.int i5), (.int u0), (.long j0), (.long j2), (.ref b3), (.ref b3)])) rfl (by rw [hml]; rfl) (Steps.refl _) (a := b3) (argsL := [(.long j2), (.long j0), (.int u0), (.int i5)]) (rest := [(.ref b3)]) (lenOf pd_0_0 rfl) rfl (by show 2 * 0 + _ ≤ _; exact Nat.le_of_eq rfl) (hb hby at_53) (fun _ _ => ⟨rfl, e3, (by decide : 2 + 0 ≤ room_1.cells), (by decide : 8 + 0 ≤ room_1.slots)⟩)
  dsimp only [Pt.U, Pt.locs, Pt.cells, Pt.slots] at X4 l4 y4 z4 st4 hQ4
  subst l4 y4 z4
  obtain ⟨rfl, Nq4, Kq4, Eq4, Gq4_start, Gq4_end, Gq4_inBits, Gq4_openEnded⟩ := hQ4
  have N4 := Fr.app N2 Nq4
  have Z4 : n0 ≤ T4.heap.size := Nat.le_trans Z3 Kq4.1
  have A1_k4 := A1_k3.keep Kq4
  have F_start_b1_k4 := F_start_b1_k3.keep Kq4 (ninS ne_b1_b3 nin0)
  have F_end_b1_k4 := F_end_b1_k3.keep Kq4 (ninS ne_b1_b3 nin0)
  have F_inBits_b1_k4 := F_inBits_b1_k3.keep Kq4 (ninS ne_b1_b3 nin0)
  have F_openEnded_b1_k4 := F_openEnded_b1_k3.keep Kq4 (ninS ne_b1_b3 nin0)
  have A3_k4 := Eq4
  have F_start_b3_k4 := Gq4_start
  have F_end_b3_k4 := Gq4_end
  have F_inBits_b3_k4 := Gq4_inBits
  have F_openEnded_b3_k4 := Gq4_openEnded
  have pre5 : ∀ target, Steps p.tables e below (T4.setTop (mkF m 61 #[.val (.long j0), .second, .val (.long j2), .second, .val (.int i4), .val (.int i5), .val (.int u0), .val (.ref b1), .val (.ref b3), .unset, .unset] [(.int (lcmpW j0 (0 : Int64)))])) target → Steps p.tables e below (T0.setTop (mkF m 26 #[.val (.long j0), .second, .val (.long j2), .second, .val (.int i4), .val (.int i5), .unset, .unset, .unset, .unset, .unset] [(.int u0)])) target := by
    intro target kt
    show Steps p.tables e below (T0.setTop (mkF m 26 #[.val (.long j0), .second, .val (.long j2), .second, .val (.int i4), .val (.int i5), .unset, .unset, .unset, .unset, .unset] [(.int u0)])) _
    refine XS.istore X0.here hx rfl (hb hby at_26) rfl (l' := #[.val (.long j0), .second, .val (.long j2), .second, .val (.int i4), .val (.int i5), .val (.int u0), .unset, .unset, .unset, .unset]) rfl ?_
    show Steps p.tables e below (T0.setTop (mkF m 28 #[.val (.long j0), .second, .val (.long j2), .second, .val (.int i4), .val (.int i5), .val (.int u0), .unset, .unset, .unset, .unset] [])) _
    refine st1 _ ?_
    show Steps p.tables e below (T1.setTop (mkF m 31 #[.val (.long j0), .second, .val (.long j2), .second, .val (.int i4), .val (.int i5), .val (.int u0), .unset, .unset, .unset, .unset] [(.ref b1)])) _
    refine XS.dup X1.here hx rfl (hb hby at_31) rfl rfl ?_
    show Steps p.tables e below (T1.setTop (mkF m 32 #[.val (.long j0), .second, .val (.long j2), .second, .val (.int i4), .val (.int i5), .val (.int u0), .unset, .unset, .unset, .unset] [(.ref b1), (.ref b1)])) _
    refine XS.lloadN X1.here hx rfl (hb hby at_32) rfl ?_
    show Steps p.tables e below (T1.setTop (mkF m 33 #[.val (.long j0), .second, .val (.long j2), .second, .val (.int i4), .val (.int i5), .val (.int u0), .unset, .unset, .unset, .unset] [(.long j0), (.ref b1), (.ref b1)])) _
    refine XS.lloadN X1.here hx rfl (hb hby at_33) rfl ?_
    show Steps p.tables e below (T1.setTop (mkF m 34 #[.val (.long j0), .second, .val (.long j2), .second, .val (.int i4), .val (.int i5), .val (.int u0), .unset, .unset, .unset, .unset] [(.long j2), (.long j0), (.ref b1), (.ref b1)])) _
    refine XS.iload X1.here hx rfl (hb hby at_34) rfl ?_
    show Steps p.tables e below (T1.setTop (mkF m 36 #[.val (.long j0), .second, .val (.long j2), .second, .val (.int i4), .val (.int i5), .val (.int u0), .unset, .unset, .unset, .unset] [(.int i5), (.long j2), (.long j0), (.ref b1), (.ref b1)])) _
    refine XS.iload X1.here hx rfl (hb hby at_36) rfl ?_
    show Steps p.tables e below (T1.setTop (mkF m 38 #[.val (.long j0), .second, .val (.long j2), .second, .val (.int i4), .val (.int i5), .val (.int u0), .unset, .unset, .unset, .unset] [(.int u0), (.int i5), (.long j2), (.long j0), (.ref b1), (.ref b1)])) _
    refine st2.trans ?_
    show Steps p.tables e below (T2.setTop (mkF m 41 #[.val (.long j0), .second, .val (.long j2), .second, .val (.int i4), .val (.int i5), .val (.int u0), .unset, .unset, .unset, .unset] [(.ref b1)])) _
    refine XS.astore X2.here hx rfl (hb hby at_41) rfl rfl (l' := #[.val (.long j0), .second, .val (.long j2), .second, .val (.int i4), .val (.int i5), .val (.int u0), .val (.ref b1), .unset, .unset, .unset]) rfl ?_
    show Steps p.tables e below (T2.setTop (mkF m 43 #[.val (.long j0), .second, .val (.long j2), .second, .val (.int i4), .val (.int i5), .val (.int u0), .val (.ref b1), .unset, .unset, .unset] [])) _
    refine st3 _ ?_
    show Steps p.tables e below (T3.setTop (mkF m 46 #[.val (.long j0), .second, .val (.long j2), .second, .val (.int i4), .val (.int i5), .val (.int u0), .val (.ref b1), .unset, .unset, .unset] [(.ref b3)])) _
    refine XS.dup X3.here hx rfl (hb hby at_46) rfl rfl ?_
    show Steps p.tables e below (T3.setTop (mkF m 47 #[.val (.long j0), .second, .val (.long j2), .second, .val (.int i4), .val (.int i5), .val (.int u0), .val (.ref b1), .unset, .unset, .unset] [(.ref b3), (.ref b3)])) _
    refine XS.lloadN X3.here hx rfl (hb hby at_47) rfl ?_
    show Steps p.tables e below (T3.setTop (mkF m 48 #[.val (.long j0), .second, .val (.long j2), .second, .val (.int i4), .val (.int i5), .val (.int u0), .val (.ref b1), .unset, .unset, .unset] [(.long j2), (.ref b3), (.ref b3)])) _
    refine XS.lloadN X3.here hx rfl (hb hby at_48) rfl ?_
    show Steps p.tables e below (T3.setTop (mkF m 49 #[.val (.long j0), .second, .val (.long j2), .second, .val (.int i4), .val (.int i5), .val (.int u0), .val (.ref b1), .unset, .unset, .unset] [(.long j0), (.long j2), (.ref b3), (.ref b3)])) _
    refine XS.iload X3.here hx rfl (hb hby at_49) rfl ?_
    show Steps p.tables e below (T3.setTop (mkF m 51 #[.val (.long j0), .second, .val (.long j2), .second, .val (.int i4), .val (.int i5), .val (.int u0), .val (.ref b1), .unset, .unset, .unset] [(.int u0), (.long j0), (.long j2), (.ref b3), (.ref b3)])) _
    refine XS.iload X3.here hx rfl (hb hby at_51) rfl ?_
    show Steps p.tables e below (T3.setTop (mkF m 53 #[.val (.long j0), .second, .val (.long j2), .second, .val (.int i4), .val (.int i5), .val (.int u0), .val (.ref b1), .unset, .unset, .unset] [(.int i5), (.int u0), (.long j0), (.long j2), (.ref b3), (.ref b3)])) _
    refine st4.trans ?_
    show Steps p.tables e below (T4.setTop (mkF m 56 #[.val (.long j0), .second, .val (.long j2), .second, .val (.int i4), .val (.int i5), .val (.int u0), .val (.ref b1), .unset, .unset, .unset] [(.ref b3)])) _
    refine XS.astore X4.here hx rfl (hb hby at_56) rfl rfl (l' := #[.val (.long j0), .second, .val (.long j2), .second, .val (.int i4), .val (.int i5), .val (.int u0), .val (.ref b1), .val (.ref b3), .unset, .unset]) rfl ?_
    show Steps p.tables e below (T4.setTop (mkF m 58 #[.val (.long j0), .second, .val (.long j2), .second, .val (.int i4), .val (.int i5), .val (.int u0), .val (.ref b1), .val (.ref b3), .unset, .unset] [])) _
    refine XS.lloadN X4.here hx rfl (hb hby at_58) rfl ?_
    show Steps p.tables e below (T4.setTop (mkF m 59 #[.val (.long j0), .second, .val (.long j2), .second, .val (.int i4), .val (.int i5), .val (.int u0), .val (.ref b1), .val (.ref b3), .unset, .unset] [(.long j0)])) _
    refine XS.lconst X4.here hx rfl (hb hby at_59) ?_
    show Steps p.tables e below (T4.setTop (mkF m 60 #[.val (.long j0), .second, .val (.long j2), .second, .val (.int i4), .val (.int i5), .val (.int u0), .val (.ref b1), .val (.ref b3), .unset, .unset] [(.long (0 : Int64)), (.long j0)])) _
    refine XS.lcmp X4.here hx rfl (hb hby at_60) rfl ?_
    exact kt
  by_cases hc61 : j0 < (0 : Int64)
  · have pre6 : ∀ target, Steps p.tables e below (T4.setTop (mkF m 67 #[.val (.long j0), .second, .val (.long j2), .second, .val (.int i4), .val (.int i5), .val (.int u0), .val (.ref b1), .val (.ref b3), .unset, .unset] [(.int (lcmpW j2 j0))])) target → Steps p.tables e below (T0.setTop (mkF m 26 #[.val (.long j0), .second, .val (.long j2), .second, .val (.int i4), .val (.int i5), .unset, .unset, .unset, .unset, .unset] [(.int u0)])) target := by
      intro target kt
      refine pre5 target ?_
      show Steps p.tables e below (T4.setTop (mkF m 61 #[.val (.long j0), .second, .val (.long j2), .second, .val (.int i4), .val (.int i5), .val (.int u0), .val (.ref b1), .val (.ref b3), .unset, .unset] [(.int (lcmpW j0 (0 : Int64)))])) _
      refine XS.ifNo X4.here hx rfl (hb hby at_61) rfl ((if0 _ _).trans (tlt ((lw_lt _ _).mpr hc61)).2.1) ?_
      show Steps p.tables e below (T4.setTop (mkF m 64 #[.val (.long j0), .second, .val (.long j2), .second, .val (.int i4), .val (.int i5), .val (.int u0), .val (.ref b1), .val (.ref b3), .unset, .unset] [])) _
      refine XS.lloadN X4.here hx rfl (hb hby at_64) rfl ?_
      show Steps p.tables e below (T4.setTop (mkF m 65 #[.val (.long j0), .second, .val (.long j2), .second, .val (.int i4), .val (.int i5), .val (.int u0), .val (.ref b1), .val (.ref b3), .unset, .unset] [(.long j2)])) _
      refine XS.lloadN X4.here hx rfl (hb hby at_65) rfl ?_
      show Steps p.tables e below (T4.setTop (mkF m 66 #[.val (.long j0), .second, .val (.long j2), .second, .val (.int i4), .val (.int i5), .val (.int u0), .val (.ref b1), .val (.ref b3), .unset, .unset] [(.long j0), (.long j2)])) _
      refine XS.lcmp X4.here hx rfl (hb hby at_66) rfl ?_
      exact kt
    by_cases hc67 : j2 < j0
    · have pre7 : ∀ target, Steps p.tables e below (T4.setTop (mkF m 75 #[.val (.long j0), .second, .val (.long j2), .second, .val (.int i4), .val (.int i5), .val (.int u0), .val (.ref b1), .val (.ref b3), .unset, .unset] [(.int (1 : Int32))])) target → Steps p.tables e below (T0.setTop (mkF m 26 #[.val (.long j0), .second, .val (.long j2), .second, .val (.int i4), .val (.int i5), .unset, .unset, .unset, .unset, .unset] [(.int u0)])) target := by
        intro target kt
        refine pre6 target ?_
        show Steps p.tables e below (T4.setTop (mkF m 67 #[.val (.long j0), .second, .val (.long j2), .second, .val (.int i4), .val (.int i5), .val (.int u0), .val (.ref b1), .val (.ref b3), .unset, .unset] [(.int (lcmpW j2 j0))])) _
        refine XS.ifNo X4.here hx rfl (hb hby at_67) rfl ((if0 _ _).trans (tlt ((lw_lt _ _).mpr hc67)).2.1) ?_
        show Steps p.tables e below (T4.setTop (mkF m 70 #[.val (.long j0), .second, .val (.long j2), .second, .val (.int i4), .val (.int i5), .val (.int u0), .val (.ref b1), .val (.ref b3), .unset, .unset] [])) _
        refine XS.iconst X4.here hx rfl (hb hby at_70) ?_
        show Steps p.tables e below (T4.setTop (mkF m 71 #[.val (.long j0), .second, .val (.long j2), .second, .val (.int i4), .val (.int i5), .val (.int u0), .val (.ref b1), .val (.ref b3), .unset, .unset] [(.int (1 : Int32))])) _
        refine XS.goto X4.here hx rfl (pc0 := 71) (pc' := 75) rfl (hb hby at_71) (by decide) (by decide) ?_
        exact kt
      obtain ⟨T8, L8, k8, n8, X8, N8, hk8', hn8, st8⟩ := own_b0_75 hx hZ hw hby hml hown hret j0 j2 i4 i5 u0 b1 b3 (1 : Int32) (own_o1_start j0 j2 i5 u0 (0 : Int64) (0 : Int64) (0 : Int32) (0 : Int32)) (own_o1_end j0 j2 i5 u0 (0 : Int64) (0 : Int64) (0 : Int32) (0 : Int32)) (own_o1_inBits j0 j2 i5 u0 (0 : Int64) (0 : Int64) (0 : Int32) (0 : Int32)) (own_o1_openEnded j0 j2 i5 u0 (0 : Int64) (0 : Int64) (0 : Int32) (0 : Int32)) (own_o1_start j2 j0 u0 i5 (0 : Int64) (0 : Int64) (0 : Int32) (0 : Int32)) (own_o1_end j2 j0 u0 i5 (0 : Int64) (0 : Int64) (0 : Int32) (0 : Int32)) (own_o1_inBits j2 j0 u0 i5 (0 : Int64) (0 : Int64) (0 : Int32) (0 : Int32)) (own_o1_openEnded j2 j0 u0 i5 (0 : Int64) (0 : Int64) (0 : Int32) (0 : Int32)) X4 rfl N4 Z4 g_b1 A1_k4 F_start_b1_k4 F_end_b1_k4 F_inBits_b1_k4 F_openEnded_b1_k4 ne_b1_b3 g_b3 A3_k4 F_start_b3_k4 F_end_b3_k4 F_inBits_b3_k4 F_openEnded_b3_k4 
      have hv : (own_f0_26 j0 j2 i4 i5 u0) = (own_f0_75 j0 j2 i4 i5 u0 (1 : Int32) (own_o1_start j0 j2 i5 u0 (0 : Int64) (0 : Int64) (0 : Int32) (0 : Int32)) (own_o1_end j0 j2 i5 u0 (0 : Int64) (0 : Int64) (0 : Int32) (0 : Int32)) (own_o1_inBits j0 j2 i5 u0 (0 : Int64) (0 : Int64) (0 : Int32) (0 : Int32)) (own_o1_openEnded j0 j2 i5 u0 (0 : Int64) (0 : Int64) (0 : Int32) (0 : Int32)) (own_o1_start j2 j0 u0 i5 (0 : Int64) (0 : Int64) (0 : Int32) (0 : Int32)) (own_o1_end j2 j0 u0 i5 (0 : Int64) (0 : Int64) (0 : Int32) (0 : Int32)) (own_o1_inBits j2 j0 u0 i5 (0 : Int64) (0 : Int64) (0 : Int32) (0 : Int32)) (own_o1_openEnded j2 j0 u0 i5 (0 : Int64) (0 : Int64) (0 : Int32) (0 : Int32))) := by unfold own_f0_26; rw [if_pos hc61, if_pos hc67]
      exact ⟨T8, L8, k8, n8, X8, N8, hk8', hn8, fun fs hr => pre7 _ (st8 fs (by rw [hv] at hr; exact hr))⟩
    · have pre9 : ∀ target, Steps p.tables e below (T4.setTop (mkF m 74 #[.val (.long j0), .second, .val (.long j2), .second, .val (.int i4), .val (.int i5), .val (.int u0), .val (.ref b1), .val (.ref b3), .unset, .unset] [])) target → Steps p.tables e below (T0.setTop (mkF m 26 #[.val (.long j0), .second, .val (.long j2), .second, .val (.int i4), .val (.int i5), .unset, .unset, .unset, .unset, .unset] [(.int u0)])) target := by
        intro target kt
        refine pre6 target ?_
        show Steps p.tables e below (T4.setTop (mkF m 67 #[.val (.long j0), .second, .val (.long j2), .second, .val (.int i4), .val (.int i5), .val (.int u0), .val (.ref b1), .val (.ref b3), .unset, .unset] [(.int (lcmpW j2 j0))])) _
        refine XS.ifYes X4.here hx rfl (pc0 := 67) (pc' := 74) rfl (hb hby at_67) rfl ((if0 _ _).trans (flt (mt (lw_lt _ _).mp hc67)).2.1) (by decide) (by decide) ?_
        exact kt
      obtain ⟨T10, L10, k10, n10, X10, N10, hk10', hn10, st10⟩ := own_b0_74 hx hZ hw hby hml hown hret j0 j2 i4 i5 u0 b1 b3 (own_o1_start j0 j2 i5 u0 (0 : Int64) (0 : Int64) (0 : Int32) (0 : Int32)) (own_o1_end j0 j2 i5 u0 (0 : Int64) (0 : Int64) (0 : Int32) (0 : Int32)) (own_o1_inBits j0 j2 i5 u0 (0 : Int64) (0 : Int64) (0 : Int32) (0 : Int32)) (own_o1_openEnded j0 j2 i5 u0 (0 : Int64) (0 : Int64) (0 : Int32) (0 : Int32)) (own_o1_start j2 j0 u0 i5 (0 : Int64) (0 : Int64) (0 : Int32) (0 : Int32)) (own_o1_end j2 j0 u0 i5 (0 : Int64) (0 : Int64) (0 : Int32) (0 : Int32)) (own_o1_inBits j2 j0 u0 i5 (0 : Int64) (0 : Int64) (0 : Int32) (0 : Int32)) (own_o1_openEnded j2 j0 u0 i5 (0 : Int64) (0 : Int64) (0 : Int32) (0 : Int32)) X4 rfl N4 Z4 g_b1 A1_k4 F_start_b1_k4 F_end_b1_k4 F_inBits_b1_k4 F_openEnded_b1_k4 ne_b1_b3 g_b3 A3_k4 F_start_b3_k4 F_end_b3_k4 F_inBits_b3_k4 F_openEnded_b3_k4 
      have hv : (own_f0_26 j0 j2 i4 i5 u0) = (own_f0_74 j0 j2 i4 i5 u0 (own_o1_start j0 j2 i5 u0 (0 : Int64) (0 : Int64) (0 : Int32) (0 : Int32)) (own_o1_end j0 j2 i5 u0 (0 : Int64) (0 : Int64) (0 : Int32) (0 : Int32)) (own_o1_inBits j0 j2 i5 u0 (0 : Int64) (0 : Int64) (0 : Int32) (0 : Int32)) (own_o1_openEnded j0 j2 i5 u0 (0 : Int64) (0 : Int64) (0 : Int32) (0 : Int32)) (own_o1_start j2 j0 u0 i5 (0 : Int64) (0 : Int64) (0 : Int32) (0 : Int32)) (own_o1_end j2 j0 u0 i5 (0 : Int64) (0 : Int64) (0 : Int32) (0 : Int32)) (own_o1_inBits j2 j0 u0 i5 (0 : Int64) (0 : Int64) (0 : Int32) (0 : Int32)) (own_o1_openEnded j2 j0 u0 i5 (0 : Int64) (0 : Int64) (0 : Int32) (0 : Int32))) := by unfold own_f0_26; rw [if_pos hc61, if_neg hc67]
      exact ⟨T10, L10, k10, n10, X10, N10, hk10', hn10, fun fs hr => pre9 _ (st10 fs (by rw [hv] at hr; exact hr))⟩
  · have pre11 : ∀ target, Steps p.tables e below (T4.setTop (mkF m 74 #[.val (.long j0), .second, .val (.long j2), .second, .val (.int i4), .val (.int i5), .val (.int u0), .val (.ref b1), .val (.ref b3), .unset, .unset] [])) target → Steps p.tables e below (T0.setTop (mkF m 26 #[.val (.long j0), .second, .val (.long j2), .second, .val (.int i4), .val (.int i5), .unset, .unset, .unset, .unset, .unset] [(.int u0)])) target := by
      intro target kt
      refine pre5 target ?_
      show Steps p.tables e below (T4.setTop (mkF m 61 #[.val (.long j0), .second, .val (.long j2), .second, .val (.int i4), .val (.int i5), .val (.int u0), .val (.ref b1), .val (.ref b3), .unset, .unset] [(.int (lcmpW j0 (0 : Int64)))])) _
      refine XS.ifYes X4.here hx rfl (pc0 := 61) (pc' := 74) rfl (hb hby at_61) rfl ((if0 _ _).trans (flt (mt (lw_lt _ _).mp hc61)).2.1) (by decide) (by decide) ?_
      exact kt
    obtain ⟨T12, L12, k12, n12, X12, N12, hk12', hn12, st12⟩ := own_b0_74 hx hZ hw hby hml hown hret j0 j2 i4 i5 u0 b1 b3 (own_o1_start j0 j2 i5 u0 (0 : Int64) (0 : Int64) (0 : Int32) (0 : Int32)) (own_o1_end j0 j2 i5 u0 (0 : Int64) (0 : Int64) (0 : Int32) (0 : Int32)) (own_o1_inBits j0 j2 i5 u0 (0 : Int64) (0 : Int64) (0 : Int32) (0 : Int32)) (own_o1_openEnded j0 j2 i5 u0 (0 : Int64) (0 : Int64) (0 : Int32) (0 : Int32)) (own_o1_start j2 j0 u0 i5 (0 : Int64) (0 : Int64) (0 : Int32) (0 : Int32)) (own_o1_end j2 j0 u0 i5 (0 : Int64) (0 : Int64) (0 : Int32) (0 : Int32)) (own_o1_inBits j2 j0 u0 i5 (0 : Int64) (0 : Int64) (0 : Int32) (0 : Int32)) (own_o1_openEnded j2 j0 u0 i5 (0 : Int64) (0 : Int64) (0 : Int32) (0 : Int32)) X4 rfl N4 Z4 g_b1 A1_k4 F_start_b1_k4 F_end_b1_k4 F_inBits_b1_k4 F_openEnded_b1_k4 ne_b1_b3 g_b3 A3_k4 F_start_b3_k4 F_end_b3_k4 F_inBits_b3_k4 F_openEnded_b3_k4 
    have hv : (own_f0_26 j0 j2 i4 i5 u0) = (own_f0_74 j0 j2 i4 i5 u0 (own_o1_start j0 j2 i5 u0 (0 : Int64) (0 : Int64) (0 : Int32) (0 : Int32)) (own_o1_end j0 j2 i5 u0 (0 : Int64) (0 : Int64) (0 : Int32) (0 : Int32)) (own_o1_inBits j0 j2 i5 u0 (0 : Int64) (0 : Int64) (0 : Int32) (0 : Int32)) (own_o1_openEnded j0 j2 i5 u0 (0 : Int64) (0 : Int64) (0 : Int32) (0 : Int32)) (own_o1_start j2 j0 u0 i5 (0 : Int64) (0 : Int64) (0 : Int32) (0 : Int32)) (own_o1_end j2 j0 u0 i5 (0 : Int64) (0 : Int64) (0 : Int32) (0 : Int32)) (own_o1_inBits j2 j0 u0 i5 (0 : Int64) (0 : Int64) (0 : Int32) (0 : Int32)) (own_o1_openEnded j2 j0 u0 i5 (0 : Int64) (0 : Int64) (0 : Int32) (0 : Int32))) := by unfold own_f0_26; rw [if_neg hc61]
    exact ⟨T12, L12, k12, n12, X12, N12, hk12', hn12, fun fs hr => pre11 _ (st12 fs (by rw [hv] at hr; exact hr))⟩
set_option maxRecDepth 65536 in
set_option maxHeartbeats 40000000 in
theorem own_b0_12 {p : Program} {l : Launch} {e : Env} {s : State} {m : MethodId} {args : Array Value} {below : List Frame} {meth : Method} {c : Code} {Z : State} {a0_ : Array Value} {n0 : Nat} (hx : p.tables.exec = Jvm.exec) (hZ : Z.Warmed39 s.vm) (hw : ∀ d ∈ tables_1, d.before a0_ Z = true) (hby : c.code = code) (hml : c.maxLocals = 11) (hown : s.vm.findClass "com/example/rollcalldb/rollcalldb/command/IndexRangeReversedFromEndPinLaw" = some m.cls) (hret : meth.sig.returnType = some .boolean) {T0 : State} {locs : List Loc} {h0 : Heap} (j0 : Int64) (j2 : Int64) (i4 : Int32) (u0 : Int32)
    (X0 : Stand p l e room_1 s m args below meth c T0 locs 0 0) (e0 : T0.heap = h0) (N0 : Fr n0 locs) (Z0 : n0 ≤ h0.size)  :
    ∃ T' locs' cells' slots', Stand p l e room_1 s m args below meth c T' locs' cells' slots' ∧ Fr n0 locs' ∧ cells' ≤ room_1.cells ∧ slots' ≤ room_1.slots ∧ ∀ fs, (∀ (f : JFrame) (acts : List Action), f.method = m → f.locked = none → f.entered = [] → (doReturn e (T'.setTop f) acts (some (.int (own_f0_12 j0 j2 i4 u0)))).1 = T'.setFrames fs) → Steps p.tables e below (T0.setTop (mkF m 12 #[.val (.long j0), .second, .val (.long j2), .second, .val (.int i4), .unset, .unset, .unset, .unset, .unset, .unset] [(.int u0)])) (T'.setFrames fs) := by
  have pre1 : ∀ target, Steps p.tables e below (T0.setTop (mkF m 18 #[.val (.long j0), .second, .val (.long j2), .second, .val (.int i4), .val (.int u0), .unset, .unset, .unset, .unset, .unset] [(.int (i4 &&& (2 : Int32)))])) target → Steps p.tables e below (T0.setTop (mkF m 12 #[.val (.long j0), .second, .val (.long j2), .second, .val (.int i4), .unset, .unset, .unset, .unset, .unset, .unset] [(.int u0)])) target := by
    intro target kt
    show Steps p.tables e below (T0.setTop (mkF m 12 #[.val (.long j0), .second, .val (.long j2), .second, .val (.int i4), .unset, .unset, .unset, .unset, .unset, .unset] [(.int u0)])) _
    refine XS.istore X0.here hx rfl (hb hby at_12) rfl (l' := #[.val (.long j0), .second, .val (.long j2), .second, .val (.int i4), .val (.int u0), .unset, .unset, .unset, .unset, .unset]) rfl ?_
    show Steps p.tables e below (T0.setTop (mkF m 14 #[.val (.long j0), .second, .val (.long j2), .second, .val (.int i4), .val (.int u0), .unset, .unset, .unset, .unset, .unset] [])) _
    refine XS.iload X0.here hx rfl (hb hby at_14) rfl ?_
    show Steps p.tables e below (T0.setTop (mkF m 16 #[.val (.long j0), .second, .val (.long j2), .second, .val (.int i4), .val (.int u0), .unset, .unset, .unset, .unset, .unset] [(.int i4)])) _
    refine XS.iconst X0.here hx rfl (hb hby at_16) ?_
    show Steps p.tables e below (T0.setTop (mkF m 17 #[.val (.long j0), .second, .val (.long j2), .second, .val (.int i4), .val (.int u0), .unset, .unset, .unset, .unset, .unset] [(.int (2 : Int32)), (.int i4)])) _
    refine XS.iand X0.here hx rfl (hb hby at_17) rfl ?_
    exact kt
  by_cases hc18 : (i4 &&& (2 : Int32)) = (0 : Int32)
  · have pre2 : ∀ target, Steps p.tables e below (T0.setTop (mkF m 26 #[.val (.long j0), .second, .val (.long j2), .second, .val (.int i4), .val (.int u0), .unset, .unset, .unset, .unset, .unset] [(.int (0 : Int32))])) target → Steps p.tables e below (T0.setTop (mkF m 12 #[.val (.long j0), .second, .val (.long j2), .second, .val (.int i4), .unset, .unset, .unset, .unset, .unset, .unset] [(.int u0)])) target := by
      intro target kt
      refine pre1 target ?_
      show Steps p.tables e below (T0.setTop (mkF m 18 #[.val (.long j0), .second, .val (.long j2), .second, .val (.int i4), .val (.int u0), .unset, .unset, .unset, .unset, .unset] [(.int (i4 &&& (2 : Int32)))])) _
      refine XS.ifYes X0.here hx rfl (pc0 := 18) (pc' := 25) rfl (hb hby at_18) rfl ((if0 _ _).trans (teq hc18).1) (by decide) (by decide) ?_
      show Steps p.tables e below (T0.setTop (mkF m 25 #[.val (.long j0), .second, .val (.long j2), .second, .val (.int i4), .val (.int u0), .unset, .unset, .unset, .unset, .unset] [])) _
      refine XS.iconst X0.here hx rfl (hb hby at_25) ?_
      exact kt
    obtain ⟨T3, L3, k3, n3, X3, N3, hk3', hn3, st3⟩ := own_b0_26 hx hZ hw hby hml hown hret j0 j2 i4 u0 (0 : Int32)  X0 e0 N0 Z0  
    have hv : (own_f0_12 j0 j2 i4 u0) = (own_f0_26 j0 j2 i4 u0 (0 : Int32)) := by unfold own_f0_12; rw [if_pos hc18]
    exact ⟨T3, L3, k3, n3, X3, N3, hk3', hn3, fun fs hr => pre2 _ (st3 fs (by rw [hv] at hr; exact hr))⟩
  · have pre4 : ∀ target, Steps p.tables e below (T0.setTop (mkF m 26 #[.val (.long j0), .second, .val (.long j2), .second, .val (.int i4), .val (.int u0), .unset, .unset, .unset, .unset, .unset] [(.int (1 : Int32))])) target → Steps p.tables e below (T0.setTop (mkF m 12 #[.val (.long j0), .second, .val (.long j2), .second, .val (.int i4), .unset, .unset, .unset, .unset, .unset, .unset] [(.int u0)])) target := by
      intro target kt
      refine pre1 target ?_
      show Steps p.tables e below (T0.setTop (mkF m 18 #[.val (.long j0), .second, .val (.long j2), .second, .val (.int i4), .val (.int u0), .unset, .unset, .unset, .unset, .unset] [(.int (i4 &&& (2 : Int32)))])) _
      refine XS.ifNo X0.here hx rfl (hb hby at_18) rfl ((if0 _ _).trans (feq hc18).1) ?_
      show Steps p.tables e below (T0.setTop (mkF m 21 #[.val (.long j0), .second, .val (.long j2), .second, .val (.int i4), .val (.int u0), .unset, .unset, .unset, .unset, .unset] [])) _
      refine XS.iconst X0.here hx rfl (hb hby at_21) ?_
      show Steps p.tables e below (T0.setTop (mkF m 22 #[.val (.long j0), .second, .val (.long j2), .second, .val (.int i4), .val (.int u0), .unset, .unset, .unset, .unset, .unset] [(.int (1 : Int32))])) _
      refine XS.goto X0.here hx rfl (pc0 := 22) (pc' := 26) rfl (hb hby at_22) (by decide) (by decide) ?_
      exact kt
    obtain ⟨T5, L5, k5, n5, X5, N5, hk5', hn5, st5⟩ := own_b0_26 hx hZ hw hby hml hown hret j0 j2 i4 u0 (1 : Int32)  X0 e0 N0 Z0  
    have hv : (own_f0_12 j0 j2 i4 u0) = (own_f0_26 j0 j2 i4 u0 (1 : Int32)) := by unfold own_f0_12; rw [if_neg hc18]
    exact ⟨T5, L5, k5, n5, X5, N5, hk5', hn5, fun fs hr => pre4 _ (st5 fs (by rw [hv] at hr; exact hr))⟩
set_option maxRecDepth 65536 in
set_option maxHeartbeats 40000000 in
theorem own_b0_0 {p : Program} {l : Launch} {e : Env} {s : State} {m : MethodId} {args : Array Value} {below : List Frame} {meth : Method} {c : Code} {Z : State} {a0_ : Array Value} {n0 : Nat} (hx : p.tables.exec = Jvm.exec) (hZ : Z.Warmed39 s.vm) (hw : ∀ d ∈ tables_1, d.before a0_ Z = true) (hby : c.code = code) (hml : c.maxLocals = 11) (hown : s.vm.findClass "com/example/rollcalldb/rollcalldb/command/IndexRangeReversedFromEndPinLaw" = some m.cls) (hret : meth.sig.returnType = some .boolean) {T0 : State} {locs : List Loc} {h0 : Heap} (j0 : Int64) (j2 : Int64) (i4 : Int32)
    (X0 : Stand p l e room_1 s m args below meth c T0 locs 0 0) (e0 : T0.heap = h0) (N0 : Fr n0 locs) (Z0 : n0 ≤ h0.size)  :
    ∃ T' locs' cells' slots', Stand p l e room_1 s m args below meth c T' locs' cells' slots' ∧ Fr n0 locs' ∧ cells' ≤ room_1.cells ∧ slots' ≤ room_1.slots ∧ ∀ fs, (∀ (f : JFrame) (acts : List Action), f.method = m → f.locked = none → f.entered = [] → (doReturn e (T'.setTop f) acts (some (.int (own_f0_0 j0 j2 i4)))).1 = T'.setFrames fs) → Steps p.tables e below (T0.setTop (mkF m 0 #[.val (.long j0), .second, .val (.long j2), .second, .val (.int i4), .unset, .unset, .unset, .unset, .unset, .unset] [])) (T'.setFrames fs) := by
  have pre1 : ∀ target, Steps p.tables e below (T0.setTop (mkF m 4 #[.val (.long j0), .second, .val (.long j2), .second, .val (.int i4), .unset, .unset, .unset, .unset, .unset, .unset] [(.int (i4 &&& (1 : Int32)))])) target → Steps p.tables e below (T0.setTop (mkF m 0 #[.val (.long j0), .second, .val (.long j2), .second, .val (.int i4), .unset, .unset, .unset, .unset, .unset, .unset] [])) target := by
    intro target kt
    show Steps p.tables e below (T0.setTop (mkF m 0 #[.val (.long j0), .second, .val (.long j2), .second, .val (.int i4), .unset, .unset, .unset, .unset, .unset, .unset] [])) _
    refine XS.iload X0.here hx rfl (hb hby at_0) rfl ?_
    show Steps p.tables e below (T0.setTop (mkF m 2 #[.val (.long j0), .second, .val (.long j2), .second, .val (.int i4), .unset, .unset, .unset, .unset, .unset, .unset] [(.int i4)])) _
    refine XS.iconst X0.here hx rfl (hb hby at_2) ?_
    show Steps p.tables e below (T0.setTop (mkF m 3 #[.val (.long j0), .second, .val (.long j2), .second, .val (.int i4), .unset, .unset, .unset, .unset, .unset, .unset] [(.int (1 : Int32)), (.int i4)])) _
    refine XS.iand X0.here hx rfl (hb hby at_3) rfl ?_
    exact kt
  by_cases hc4 : (i4 &&& (1 : Int32)) = (0 : Int32)
  · have pre2 : ∀ target, Steps p.tables e below (T0.setTop (mkF m 12 #[.val (.long j0), .second, .val (.long j2), .second, .val (.int i4), .unset, .unset, .unset, .unset, .unset, .unset] [(.int (0 : Int32))])) target → Steps p.tables e below (T0.setTop (mkF m 0 #[.val (.long j0), .second, .val (.long j2), .second, .val (.int i4), .unset, .unset, .unset, .unset, .unset, .unset] [])) target := by
      intro target kt
      refine pre1 target ?_
      show Steps p.tables e below (T0.setTop (mkF m 4 #[.val (.long j0), .second, .val (.long j2), .second, .val (.int i4), .unset, .unset, .unset, .unset, .unset, .unset] [(.int (i4 &&& (1 : Int32)))])) _
      refine XS.ifYes X0.here hx rfl (pc0 := 4) (pc' := 11) rfl (hb hby at_4) rfl ((if0 _ _).trans (teq hc4).1) (by decide) (by decide) ?_
      show Steps p.tables e below (T0.setTop (mkF m 11 #[.val (.long j0), .second, .val (.long j2), .second, .val (.int i4), .unset, .unset, .unset, .unset, .unset, .unset] [])) _
      refine XS.iconst X0.here hx rfl (hb hby at_11) ?_
      exact kt
    obtain ⟨T3, L3, k3, n3, X3, N3, hk3', hn3, st3⟩ := own_b0_12 hx hZ hw hby hml hown hret j0 j2 i4 (0 : Int32)  X0 e0 N0 Z0  
    have hv : (own_f0_0 j0 j2 i4) = (own_f0_12 j0 j2 i4 (0 : Int32)) := by unfold own_f0_0; rw [if_pos hc4]
    exact ⟨T3, L3, k3, n3, X3, N3, hk3', hn3, fun fs hr => pre2 _ (st3 fs (by rw [hv] at hr; exact hr))⟩
  · have pre4 : ∀ target, Steps p.tables e below (T0.setTop (mkF m 12 #[.val (.long j0), .second, .val (.long j2), .second, .val (.int i4), .unset, .unset, .unset, .unset, .unset, .unset] [(.int (1 : Int32))])) target → Steps p.tables e below (T0.setTop (mkF m 0 #[.val (.long j0), .second, .val (.long j2), .second, .val (.int i4), .unset, .unset, .unset, .unset, .unset, .unset] [])) target := by
      intro target kt
      refine pre1 target ?_
      show Steps p.tables e below (T0.setTop (mkF m 4 #[.val (.long j0), .second, .val (.long j2), .second, .val (.int i4), .unset, .unset, .unset, .unset, .unset, .unset] [(.int (i4 &&& (1 : Int32)))])) _
      refine XS.ifNo X0.here hx rfl (hb hby at_4) rfl ((if0 _ _).trans (feq hc4).1) ?_
      show Steps p.tables e below (T0.setTop (mkF m 7 #[.val (.long j0), .second, .val (.long j2), .second, .val (.int i4), .unset, .unset, .unset, .unset, .unset, .unset] [])) _
      refine XS.iconst X0.here hx rfl (hb hby at_7) ?_
      show Steps p.tables e below (T0.setTop (mkF m 8 #[.val (.long j0), .second, .val (.long j2), .second, .val (.int i4), .unset, .unset, .unset, .unset, .unset, .unset] [(.int (1 : Int32))])) _
      refine XS.goto X0.here hx rfl (pc0 := 8) (pc' := 12) rfl (hb hby at_8) (by decide) (by decide) ?_
      exact kt
    obtain ⟨T5, L5, k5, n5, X5, N5, hk5', hn5, st5⟩ := own_b0_12 hx hZ hw hby hml hown hret j0 j2 i4 (1 : Int32)  X0 e0 N0 Z0  
    have hv : (own_f0_0 j0 j2 i4) = (own_f0_12 j0 j2 i4 (1 : Int32)) := by unfold own_f0_0; rw [if_neg hc4]
    exact ⟨T5, L5, k5, n5, X5, N5, hk5', hn5, fun fs hr => pre4 _ (st5 fs (by rw [hv] at hr; exact hr))⟩
def Q0 (Z : State) (j0 : Int64) (j2 : Int64) (i4 : Int32) (h0 : Heap) (n0 : Nat) (v : Option Value) (h : Heap) (L : List Loc) : Prop := v = some (.int (own_f0_0 j0 j2 i4)) ∧ Fr n0 L
set_option maxRecDepth 65536 in
set_option maxHeartbeats 40000000 in
theorem rm0 (l : Launch) (Z : State) (a0_ : Array Value) (hw : ∀ d ∈ tables_1, d.before a0_ Z = true) (ws : List Jvm.Cond) (j0 : Int64) (j2 : Int64) (i4 : Int32) (h0 : Heap) (n0 : Nat) (Z0 : n0 ≤ h0.size)  :
    MetFree l x (head1 (Jvm.Cond.code x code maxLocals ret :: ws) room_1) (fun a U => a = #[(.long j0), (.long j2), (.int i4)] ∧ Z.Warmed39 U.vm ∧ U.heap = h0) (fun _ _ _ _ _ => True) (fun _ U o U' => ∃ v L, o = .returned v ∧ Q0 Z j0 j2 i4 h0 n0 v U'.heap L ∧ FrameEnd U o U' L room_1.cells room_1.slots) := by
  refine MetFree.of_bodySF (plainFor_of_name pn_0) hisR ?_
  intro p e s m args below meth c s₁ Bd hml0 hP hK
  obtain ⟨rfl, hZ, hh⟩ := hP
  have hx := Bd.exec
  have hby := Bd.bytes
  have hml : c.maxLocals = 11 := hml0
  have hown : s.vm.findClass "com/example/rollcalldb/rollcalldb/command/IndexRangeReversedFromEndPinLaw" = some m.cls := findClass_of_methodNamed Bd.named
  have X0 : Stand p l e room_1 s m #[(.long j0), (.long j2), (.int i4)] below meth c s₁ [] 0 0 := Stand.of_body Bd
  have e0 : s₁.heap = h0 := by rw [← hh, Bd.state]; rfl
  obtain ⟨T', L', k', n', X', N', hk', hn', st'⟩ := own_b0_0 hx hZ hw hby hml hown Bd.returns  j0 j2 i4 X0 e0 (Fr.nil n0) Z0 
  obtain ⟨fs, hr, hrun, hended, hW, hsame⟩ := X'.leave (v := some (.int (own_f0_0 j0 j2 i4))) (fun h => by rw [Bd.returns] at h; cases h)
  refine ⟨_, _, castTop (ef_0 m j0 j2 i4) (st' fs hr), hrun, hended, _, _, rfl, ?_, ⟨_, rfl⟩, hW, hsame.mono hk' hn'⟩
  exact ⟨rfl, N'⟩
theorem own_core (j0 j2 : Int64) (i4 i5 u0 : Int32) : own_f0_26 j0 j2 i4 i5 u0 = 1 := by
  have l0 : (0 : Int64).toInt = 0 := by decide +kernel
  simp only [own_f0_26, own_f0_74, own_f0_75, own_f0_93, own_f0_94, own_f4_0, own_o1_start, own_o1_end, Int64.lt_iff_toInt_lt, l0]
  by_cases h1 : j0.toInt < 0 <;> by_cases h2 : j2.toInt < 0 <;> by_cases h3 : j2.toInt < j0.toInt <;> by_cases h4 : j0.toInt < j2.toInt <;> simp [h1, h2, h3, h4] <;> omega
theorem own_law (j0 : Int64) (j2 : Int64) (i4 : Int32) : own_f0_0 j0 j2 i4 = 1 := by
  simp only [own_f0_0, own_f0_12, own_core, ite_self]
set_option maxRecDepth 65536 in
set_option maxHeartbeats 40000000 in
theorem comes_1 {Post : Tables → Env → Array Value → State → Outcome → State → Prop} (hpost : ∀ tb e args s v u, (limb_1_1.after args s (.returned v) u = true ∧ limb_1_2.after args s (.returned v) u = true ∧ True) → FrameEnd s (.returned v) u (Jvm.fieldLocs frame_1_writes args s ++ Jvm.arrayLocs frame_1_arrays args s ++ Jvm.staticLocs frame_1_statics s) 16 128 → Post tb e args s (.returned v) u) :
    ArmFor flags0 classFile x code maxLocals ret World_1 tables_1 room_1 Calls_1 rest_1 Pre_1 Post := by
  intro l hfl _ _ p e ha hc hk s m args below hf hA hF happ hP
  obtain ⟨hcalls, hrest, hpre⟩ := hP
  obtain ⟨-, -, -, hnamed, -, -, -, hat⟩ := (Spec.applies_iff hf).mp happ
  obtain ⟨hg, hn⟩ := and_e (Cond.before_iff.mp (show (Jvm.Cond.and given_1 narrow_1).before args s = true from hpre))
  obtain ⟨hcount, hg⟩ := and_e hg
  obtain ⟨g0, hg⟩ := and_e hg
  obtain ⟨g1, hg⟩ := and_e hg
  have g2 := hg
  obtain ⟨w0, w1, w2, rfl⟩ : ∃ w0 w1 w2 : Value, args = #[w0, w1, w2] := by
    have hs : args.size = 3 := by simpa [Cond.value, given_1] using hcount
    obtain ⟨L⟩ := args
    match L, hs with
    | [w0, w1, w2], _ => exact ⟨w0, w1, w2, rfl⟩
  have hw := fun d (hd : d ∈ tables_1) => atoms_spec (ws := Jvm.Cond.code x code maxLocals ret :: tables_1) hat d (List.mem_cons_of_mem _ hd)
  obtain ⟨i0, ei0⟩ := isL_v g0
  obtain rfl : w0 = (.long i0) := Option.some.inj ei0
  obtain ⟨i1, ei1⟩ := isL_v g1
  obtain rfl : w1 = (.long i1) := Option.some.inj ei1
  obtain ⟨i2, ei2⟩ := is_v g2
  obtain rfl : w2 = (.int i2) := Option.some.inj ei2
  obtain ⟨n, o, h1, h2, h3, _, L, rfl, ⟨rfl, N⟩, hq⟩ := rm0 l s _ hw tables_1 i0 i1 i2 s.heap s.heap.size (Nat.le_refl _) p e ha hc hk s m _ below hf ((Spec.applies_iff_loose hf).mp happ).1 ⟨rfl, State.Warmed39.refl s, rfl⟩ trivial
  rw [own_law i0 i1 i2] at h3 hq
  refine ⟨n, _, h1, h2, h3, hpost _ _ _ _ _ _ ⟨Cond.after_iff.mpr rfl, Cond.after_iff.mpr (eq_i res_at (Term.int_eval (1)) rfl), trivial⟩ ⟨hq.1, hq.2.1, (hq.2.2.sift fun y hy => Or.inr (N y hy)).mono (by decide) (by decide)⟩⟩
theorem main_1_1 : Claimed_1_1 := comes_1 fun _ _ _ _ _ _ h hF => ⟨h.1, hF⟩
theorem main_1_2 : Claimed_1_2 := comes_1 fun _ _ _ _ _ _ h hF => ⟨h.2.1, hF⟩
end Jvm.Pilot.@@N@@
namespace Jvm.Pilot.@@N@@
open Jvm Jvm.ClassFile Sem Op Lib Jvm.Free Jvm.Stand Jvm.Pilot.@@N@@.Jvm.D
/-! MADE BY PROGRAM (witnessworld.py) out of the Statement's table words and the real class files: 10 classes; the members and pool entries that the words name. The judged class is class 1, her method 1. -/
namespace start1
open Jvm.ClassFile
def u (s : String) : CpInfo := .utf8 (stringToUtf16 s)
/-- a pool by its gaps: so many unusable entries, then the entry; so many at the end -/
def gap : Nat → List CpInfo → List CpInfo
  | 0, r => r
  | n + 1, r => .unusable :: gap n r
def poolList (es : List (Nat × CpInfo)) (last : Nat) : List CpInfo := es.foldr (fun e r => gap e.1 (e.2 :: r)) (gap last [])
def pool (es : List (Nat × CpInfo)) (last : Nat) : Array CpInfo := ⟨poolList es last⟩
def fileOf (pool : Array CpInfo) (this : Nat) (attrs : Array Attribute := #[]) (ms : Array MethodInfo := #[]) (fl : Nat := 33) (sup : Nat := 0) (ifs : Array Nat := #[]) (fds : Array FieldInfo := #[]) : ClassFile where
  minorVersion := 0
  majorVersion := 65
  constantPool := pool
  accessFlags := fl
  thisClass := this
  superClass := sup
  interfaces := ifs
  fields := fds
  methods := ms
  attributes := attrs
def plain (name : String) (sup : Option ClassId) : Class where
  name := name
  kind := .ordinary
  loader := none
  accessFlags := 33
  super := sup
  interfaces := #[]
  cf := none
  fields := #[]
  methods := #[]
  instanceTypes := #[]
  staticTypes := #[]
  resolved := #[]
  callSites := []
  init := .initialized
  statics := none
  mirror := none

def pool0 : Array CpInfo := pool [(5, u "<init>"), (0, u "()V"), (1, .class_ 10), (1, u "java/lang/Object")] 113

def k0c0 : Code := { maxStack := 0, maxLocals := 1, code := object_method_1_code, exceptionTable := #[], attributes := #[] }
def k0m0 : Method := { name := "<init>", desc := "()V", sig := { parameters := [], returnType := none }, accessFlags := 1, code := some k0c0 }
/-- java/lang/Object -/
def k0 : Class := { plain "java/lang/Object" none with
  accessFlags := 33
  interfaces := #[]
  cf := some (fileOf pool0 8 #[] #[{ accessFlags := 1, nameIndex := 5, descriptorIndex := 6, attributes := #[] }] 33 0 #[] #[])
  fields := #[]
  methods := #[k0m0]
  instanceTypes := #[]
  staticTypes := #[]
  resolved := Array.replicate 124 none
  statics := none }

def pool1 : Array CpInfo := pool [(2, .class_ 4), (1, u "java/lang/Object"), (0, u "<init>"), (0, u "()V"), (0, .class_ 8), (0, u "com/example/rollcalldb/rollcalldb/command/IndexRange"), (0, .methodref 7 10), (0, .nameAndType 5 11), (0, u "(JJZZ)V"), (0, .methodref 7 13), (0, .nameAndType 14 15), (0, u "reversedFromEnd"), (0, u "()Z"), (0, .class_ 17), (0, u "com/example/rollcalldb/rollcalldb/command/IndexRangeReversedFromEndPinLaw"), (2, u "law"), (0, u "(JJI)Z")] 3

def k1m0 : Method := { name := "<init>", desc := "()V", sig := { parameters := [], returnType := none }, accessFlags := 2, code := none }
def k1c1 : Code := { maxStack := 8, maxLocals := 11, code := code, exceptionTable := #[], attributes := #[] }
def k1m1 : Method := { name := "law", desc := "(JJI)Z", sig := { parameters := [.long, .long, .int], returnType := some .boolean }, accessFlags := 9, code := some k1c1 }
/-- com/example/rollcalldb/rollcalldb/command/IndexRangeReversedFromEndPinLaw -/
def k1 : Class := { plain "com/example/rollcalldb/rollcalldb/command/IndexRangeReversedFromEndPinLaw" (some 0) with
  accessFlags := 49
  interfaces := #[]
  cf := some (fileOf pool1 16 #[] #[{ accessFlags := 2, nameIndex := 5, descriptorIndex := 6, attributes := #[] }, { accessFlags := 9, nameIndex := 20, descriptorIndex := 21, attributes := #[] }] 49 2 #[] #[])
  fields := #[]
  methods := #[k1m0, k1m1]
  instanceTypes := #[]
  staticTypes := #[]
  resolved := Array.replicate 25 none
  statics := none }

def pool2 : Array CpInfo := pool [(1, .methodref 2 3), (0, .class_ 4), (0, .nameAndType 5 6), (0, u "java/lang/Object"), (0, u "<init>"), (0, u "()V"), (0, .class_ 8), (0, u "java/lang/Record")] 13

def k2c0 : Code := { maxStack := 1, maxLocals := 1, code := jdk_30_method_1_code, exceptionTable := #[], attributes := #[] }
def k2m0 : Method := { name := "<init>", desc := "()V", sig := { parameters := [], returnType := none }, accessFlags := 4, code := some k2c0 }
/-- java/lang/Record -/
def k2 : Class := { plain "java/lang/Record" (some 0) with
  accessFlags := 1057
  interfaces := #[]
  cf := some (fileOf pool2 7 #[] #[{ accessFlags := 4, nameIndex := 5, descriptorIndex := 6, attributes := #[] }] 1057 2 #[] #[])
  fields := #[]
  methods := #[k2m0]
  instanceTypes := #[]
  staticTypes := #[]
  resolved := Array.replicate 22 none
  statics := none }

def pool3 : Array CpInfo := pool [(1, .methodref 2 3), (0, .class_ 4), (0, .nameAndType 5 6), (0, u "java/lang/Record"), (0, u "<init>"), (0, u "()V"), (0, .fieldref 8 9), (0, .class_ 10), (0, .nameAndType 11 12), (0, u "com/example/rollcalldb/rollcalldb/command/IndexRange"), (0, u "start"), (0, u "J"), (0, .fieldref 8 14), (0, .nameAndType 15 12), (0, u "end"), (0, .fieldref 8 17), (0, .nameAndType 18 19), (0, u "inBits"), (0, u "Z"), (0, .fieldref 8 21), (0, .nameAndType 22 19), (0, u "openEnded"), (5, u "()Z"), (2, u "WHOLE"), (0, u "Lcom/example/rollcalldb/rollcalldb/command/IndexRange;"), (47, u "(JJZZ)V"), (11, .class_ 93), (0, u "com/example/rollcalldb/rollcalldb/command/IndexRange$Bits"), (23, u "reversedFromEnd")] 30

def k3c0 : Code := { maxStack := 3, maxLocals := 7, code := prog_11_method_1_code, exceptionTable := #[], attributes := #[] }
def k3m0 : Method := { name := "<init>", desc := "(JJZZ)V", sig := { parameters := [.long, .long, .boolean, .boolean], returnType := none }, accessFlags := 0, code := some k3c0 }
def k3c1 : Code := { maxStack := 4, maxLocals := 1, code := prog_11_method_4_code, exceptionTable := #[], attributes := #[] }
def k3m1 : Method := { name := "reversedFromEnd", desc := "()Z", sig := { parameters := [], returnType := some .boolean }, accessFlags := 0, code := some k3c1 }
/-- com/example/rollcalldb/rollcalldb/command/IndexRange -/
def k3 : Class := { plain "com/example/rollcalldb/rollcalldb/command/IndexRange" (some 2) with
  accessFlags := 48
  interfaces := #[]
  cf := some (fileOf pool3 8 #[.nestMembers #[92]] #[{ accessFlags := 0, nameIndex := 5, descriptorIndex := 80, attributes := #[] }, { accessFlags := 0, nameIndex := 117, descriptorIndex := 28, attributes := #[] }] 48 2 #[] #[{ accessFlags := 18, nameIndex := 11, descriptorIndex := 12, attributes := #[] }, { accessFlags := 18, nameIndex := 15, descriptorIndex := 12, attributes := #[] }, { accessFlags := 18, nameIndex := 18, descriptorIndex := 19, attributes := #[] }, { accessFlags := 18, nameIndex := 22, descriptorIndex := 19, attributes := #[] }, { accessFlags := 26, nameIndex := 31, descriptorIndex := 32, attributes := #[] }])
  fields := #[{ name := "start", type := .long, accessFlags := 18, slot := 0, constantValue := 0 }, { name := "end", type := .long, accessFlags := 18, slot := 1, constantValue := 0 }, { name := "inBits", type := .boolean, accessFlags := 18, slot := 2, constantValue := 0 }, { name := "openEnded", type := .boolean, accessFlags := 18, slot := 3, constantValue := 0 }, { name := "WHOLE", type := (.object "com/example/rollcalldb/rollcalldb/command/IndexRange"), accessFlags := 26, slot := 0, constantValue := 0 }]
  methods := #[k3m0, k3m1]
  instanceTypes := #[.long, .long, .boolean, .boolean]
  staticTypes := #[(.object "com/example/rollcalldb/rollcalldb/command/IndexRange")]
  resolved := Array.replicate 148 none
  statics := none }

def pool4 : Array CpInfo := pool [(1, u "java/lang/Cloneable"), (0, .class_ 1), (0, u "java/lang/Object"), (0, .class_ 3)] 3

/-- java/lang/Cloneable -/
def k4 : Class := { plain "java/lang/Cloneable" (some 0) with
  accessFlags := 1537
  interfaces := #[]
  cf := some (fileOf pool4 2 #[] #[] 1537 4 #[] #[])
  fields := #[]
  methods := #[]
  instanceTypes := #[]
  staticTypes := #[]
  resolved := Array.replicate 8 none
  statics := none }

def pool5 : Array CpInfo := pool [(1, u "java/io/Serializable"), (0, .class_ 1), (0, u "java/lang/Object"), (0, .class_ 3)] 3

/-- java/io/Serializable -/
def k5 : Class := { plain "java/io/Serializable" (some 0) with
  accessFlags := 1537
  interfaces := #[]
  cf := some (fileOf pool5 2 #[] #[] 1537 4 #[] #[])
  fields := #[]
  methods := #[]
  instanceTypes := #[]
  staticTypes := #[]
  resolved := Array.replicate 8 none
  statics := none }

/-- the primitive byte -/
def k6 : Class := { plain "byte" none with kind := .primitive 'B', accessFlags := 0x411 }
/-- [B -/
def k7 : Class := { plain "[B" (some 0) with kind := .array 6 .byte, interfaces := #[4, 5], accessFlags := 1041 }

/-- the primitive int -/
def k8 : Class := { plain "int" none with kind := .primitive 'I', accessFlags := 0x411 }
/-- [I -/
def k9 : Class := { plain "[I" (some 0) with kind := .array 8 .int, interfaces := #[4, 5], accessFlags := 1041 }

def heap : Heap := #[]
def classes : Array Class := #[k0, k1, k2, k3, k4, k5, k6, k7, k8, k9]
def interned : List (Array UInt16 × Addr) := []
def slotsUsed : Nat := 0
def theMethod : MethodId := ⟨1, 1⟩
def args0 : Array Value := #[.long 5, .long 6, .int 7]
def aboutOver (below : List Frame) : State where
  vm := { classes := classes, interned := interned.toArray }
  heap := heap
  slotsUsed := slotsUsed
  threads := #[{ frames := .invoking theMethod args0 :: below }]
def below0 : List Frame := [.native { method := ⟨0, 0⟩, args := #[] }]
def about1 : State := aboutOver below0
def p0 : Program := .bare "" "" ""
def e0 : Env := launch0.env 0 0 0
theorem w_frames : about1.frames = Frame.invoking theMethod args0 :: below0 := rfl
set_option maxRecDepth 65536 in
theorem w_args : argsFit about1.vm theMethod args0 = true := by decide +kernel
set_option maxRecDepth 65536 in
theorem w_heap : heapFits about1 = true := by decide +kernel
set_option maxRecDepth 65536 in
theorem w_runnable : about1.curStatus? = some .runnable := by decide +kernel
set_option maxRecDepth 65536 in
theorem w_alone : about1.alone = true := by decide +kernel
set_option maxRecDepth 65536 in
theorem w_named : about1.methodNamed? x = some theMethod := by decide +kernel
set_option maxRecDepth 65536 in
theorem w_hears : about1.hears theMethod below0 = true := by decide +kernel
set_option maxRecDepth 65536 in
theorem w_ripe : about1.ripe theMethod args0 below0 = true := by decide +kernel
theorem w_running : about1.status = .running := rfl
set_option maxRecDepth 65536 in
theorem w_room : about1.hasRoom e0.platform room_1 = true :=
  launch0.hasRoom_least _ room_1 (by decide +kernel) (by decide +kernel) (by decide +kernel) (by decide +kernel) (by decide +kernel) (by decide +kernel)
theorem allAtoms_all (ts : List Jvm.Cond) (a : Array Jvm.Value) (st : Jvm.State) : (allAtoms ts).before a st = ts.all (fun c => c.before a st) := by
  induction ts with
  | nil => rfl
  | cons c t ih =>
    show (Jvm.Cond.and c (allAtoms t)).before a st = _
    rw [Jvm.Cond.before_and, ih, List.all_cons]
def words1 : List Jvm.Cond := Jvm.Cond.code x code maxLocals ret :: tables_1
/-- a 'code' word, met by the world's own term for the bytes: nothing is compared byte by byte -/
theorem code_word {y : MethodName} {bytes : ByteArray} {mx : Nat} {rt : Option FieldType} {a : Array Value} {s : State} {m : MethodId} {meth : Method} {c : Code} (h1 : s.methodNamed? y = some m) (h2 : s.vm.method? m = some meth) (h3 : meth.code = some c) (h4 : c.code = bytes)
    (h5 : (c.maxLocals == mx && c.exceptionTable.isEmpty && decide (c.maxStack ≤ mostOperands) && decide (meth.sig.returnType = rt) && !meth.locks && decide (parseMethodDescriptor y.desc = some meth.sig)) = true) : (Jvm.Cond.code y bytes mx rt).before a s = true := by
  simp only [Bool.and_eq_true, beq_iff_eq, Bool.not_eq_true', decide_eq_true_eq] at h5
  obtain ⟨⟨⟨⟨⟨g1, g2⟩, g3⟩, g4⟩, g5⟩, g6⟩ := h5
  simp [Cond.before, Cond.holds, Cond.value, h1, h2, h3, h4, g1, g2, g3, g4, g5, g6]
def isCode : Jvm.Cond → Bool
  | .code _ _ _ _ => true
  | _ => false
theorem all_split {L : List Jvm.Cond} {P : Jvm.Cond → Bool} (h1 : L.all (fun c => isCode c || P c) = true) (h2 : ∀ c ∈ L.filter isCode, P c = true) : L.all P = true := by
  refine List.all_eq_true.mpr fun c hc => ?_
  have h := List.all_eq_true.mp h1 c hc
  rcases Bool.eq_false_or_eq_true (isCode c) with hi | hi
  · exact h2 c (List.mem_filter.mpr ⟨hc, hi⟩)
  · simpa [hi] using h
set_option maxRecDepth 65536 in
theorem w_c0 : (Jvm.Cond.code x code maxLocals ret).before args0 about1 = true := code_word (m := ⟨1, 1⟩) (meth := k1m1) (c := k1c1) (by decide +kernel) rfl rfl rfl (by decide +kernel)
set_option maxRecDepth 65536 in
theorem w_c1 : (Jvm.Cond.code ({ cls := "com/example/rollcalldb/rollcalldb/command/IndexRange", name := "<init>", desc := "(JJZZ)V" } : Jvm.MethodName) prog_11_method_1_code (7 : Nat) (Option.none : Option Jvm.ClassFile.FieldType)).before args0 about1 = true := code_word (m := ⟨3, 0⟩) (meth := k3m0) (c := k3c0) (by decide +kernel) rfl rfl rfl (by decide +kernel)
set_option maxRecDepth 65536 in
theorem w_c2 : (Jvm.Cond.code ({ cls := "java/lang/Record", name := "<init>", desc := "()V" } : Jvm.MethodName) jdk_30_method_1_code (1 : Nat) (Option.none : Option Jvm.ClassFile.FieldType)).before args0 about1 = true := code_word (m := ⟨2, 0⟩) (meth := k2m0) (c := k2c0) (by decide +kernel) rfl rfl rfl (by decide +kernel)
set_option maxRecDepth 65536 in
theorem w_c3 : (Jvm.Cond.code ({ cls := "java/lang/Object", name := "<init>", desc := "()V" } : Jvm.MethodName) object_method_1_code (1 : Nat) (Option.none : Option Jvm.ClassFile.FieldType)).before args0 about1 = true := code_word (m := ⟨0, 0⟩) (meth := k0m0) (c := k0c0) (by decide +kernel) rfl rfl rfl (by decide +kernel)
set_option maxRecDepth 65536 in
theorem w_c4 : (Jvm.Cond.code ({ cls := "com/example/rollcalldb/rollcalldb/command/IndexRange", name := "reversedFromEnd", desc := "()Z" } : Jvm.MethodName) prog_11_method_4_code (1 : Nat) (Option.some Jvm.ClassFile.FieldType.boolean)).before args0 about1 = true := code_word (m := ⟨3, 1⟩) (meth := k3m1) (c := k3c1) (by decide +kernel) rfl rfl rfl (by decide +kernel)
def codes1 : List Jvm.Cond := [Jvm.Cond.code x code maxLocals ret, Jvm.Cond.code ({ cls := "com/example/rollcalldb/rollcalldb/command/IndexRange", name := "<init>", desc := "(JJZZ)V" } : Jvm.MethodName) prog_11_method_1_code (7 : Nat) (Option.none : Option Jvm.ClassFile.FieldType), Jvm.Cond.code ({ cls := "java/lang/Record", name := "<init>", desc := "()V" } : Jvm.MethodName) jdk_30_method_1_code (1 : Nat) (Option.none : Option Jvm.ClassFile.FieldType), Jvm.Cond.code ({ cls := "java/lang/Object", name := "<init>", desc := "()V" } : Jvm.MethodName) object_method_1_code (1 : Nat) (Option.none : Option Jvm.ClassFile.FieldType), Jvm.Cond.code ({ cls := "com/example/rollcalldb/rollcalldb/command/IndexRange", name := "reversedFromEnd", desc := "()Z" } : Jvm.MethodName) prog_11_method_4_code (1 : Nat) (Option.some Jvm.ClassFile.FieldType.boolean)]
set_option maxRecDepth 65536 in
theorem codes_eq : words1.filter isCode = codes1 := rfl
theorem w_codes : ∀ c ∈ words1.filter isCode, c.before args0 about1 = true := by
  rw [codes_eq]
  intro c hc
  simp only [codes1, List.mem_cons, List.not_mem_nil, or_false] at hc
  rcases hc with rfl | rfl | rfl | rfl | rfl
  · exact w_c0
  · exact w_c1
  · exact w_c2
  · exact w_c3
  · exact w_c4
set_option maxRecDepth 65536 in
theorem w_t1 : (words1.take 24).all (fun c => isCode c || c.before args0 about1) = true := by decide +kernel
set_option maxRecDepth 65536 in
theorem w_t2 : (words1.drop 24).all (fun c => isCode c || c.before args0 about1) = true := by decide +kernel
theorem w_tables : (allAtoms (Jvm.Cond.code x code maxLocals ret :: tables_1)).before args0 about1 = true := by
  rw [allAtoms_all]
  show words1.all (fun c => c.before args0 about1) = true
  refine all_split ?_ w_codes
  rw [← List.take_append_drop 24 words1, List.all_append, w_t1, w_t2]
  rfl
set_option maxRecDepth 65536 in
theorem w_case : (Jvm.Cond.and given_1 narrow_1).before args0 about1 = true := by decide +kernel
theorem w_applies : (headSpec (Jvm.Cond.code x code maxLocals ret :: tables_1) room_1).applies x e0.platform about1 = true :=
  (Spec.applies_iff w_frames).mpr ⟨w_running, w_runnable, w_alone, w_named, w_hears, w_ripe, w_room, w_tables⟩
theorem atStart : AtStart classFile x code maxLocals ret World_1 tables_1 room_1 Calls_1 rest_1 Pre_1 launch0 p0 e0 about1 theMethod args0 below0 :=
  ⟨lists_1, trivial, launch0.admits_env _ _ _, launch0.least_env, fairChoices_fair.cas, fairChoices_fair.clock, w_frames, w_args, w_heap, w_applies, trivial, trivial, w_case⟩
end start1
theorem witness_1 : WitnessClaimed_1 := ⟨start1.p0, start1.e0, start1.about1, start1.theMethod, start1.args0, start1.below0, start1.atStart⟩
end Jvm.Pilot.@@N@@
