import JvmDerived
import JvmDerived.Pilot.@@N@@Statement
import JvmDerived.Pilot.@@N@@Code
set_option linter.unusedVariables false
set_option linter.unusedSimpArgs false
set_option maxHeartbeats 40000000
set_option maxRecDepth 65536
namespace Jvm.RoadKit
open Sem ClassFile Op Lib Jvm.Stand Jvm.Free Jvm.LawKit
section New
variable {p : Program} {l : Launch} {e : Env} {R : Room} {s : State} {m : MethodId} {args : Array Value} {below : List Frame} {meth : Method} {c : Code} {T : State} {locs : List Loc} {cells slots : Nat}
theorem retI (X : Stand p l e R s m args below meth c T locs cells slots) (hx : p.tables.exec = Jvm.exec) {pc : Nat} {Ls : Array Slot} {z : Int32} {rest : List Value} (hret : meth.sig.returnType = some .int) (hd : decode c.code pc = .ok (.ireturn, 1)) {fs : List Frame}
    (hl : ∀ (f : JFrame) (acts : List Action), f.method = m → f.locked = none → f.entered = [] → (doReturn e (T.setTop f) acts (some (.int z))).1 = T.setFrames fs) : Steps p.tables e below (T.setTop (mkF m pc Ls (.int z :: rest))) (T.setFrames fs) := by
  have hm' : T.vm.method? m = some meth := X.method'
  have hn : narrow .int (.int z) = .int z := rfl
  show Steps p.tables e below (T.setTop { method := m, pc := pc, locals := Ls, stack := _ :: rest, locked := none }) _
  jvm_step X.here [X.here.top, hx, hd, hm', hret, hn]
  first | (intro acts; rw [hl _ acts rfl rfl rfl]) | rw [hl _ _ rfl rfl rfl]
  exact Steps.refl _
end New
end Jvm.RoadKit
namespace Jvm.Pilot.@@N@@
open Jvm Jvm.ClassFile Sem Op Lib Jvm.Free Jvm.Stand Jvm.LawKit Jvm.RoadKit Bundle Jvm.Pilot.@@N@@.Jvm.D
/-- an array of n places of ints, bytes ..: place i holds A i -/
def own_Ar (Z : State) (h : Heap) (a : Addr) (ty : FieldType) (n : Int32) (A : Nat → Int32) : Prop := ∃ c : Cell, Arr Z h a c ty ∧ c.slots.size = n.toNatClampNeg ∧ ¬ n < 0 ∧ ∀ i, i < c.slots.size → c.slots[i]? = some (.int (A i))
def own_up (A : Nat → Int32) (k : Nat) (v : Int32) : Nat → Int32 := fun i => if i = k then v else A i
theorem own_up_hit (A : Nat → Int32) (k : Nat) (v : Int32) : own_up A k v k = v := if_pos rfl
theorem own_up_miss (A : Nat → Int32) (k : Nat) (v : Int32) {i : Nat} (h : i ≠ k) : own_up A k v i = A i := if_neg h
theorem own_slots (c : Cell) (k : Nat) (v : Value) : (c.setSlot k v).slots = c.slots.setIfInBounds k v := rfl
theorem own_slotsN (k : ClassId) (ty : FieldType) (n : Int32) : (newA k ty n).slots = Array.replicate n.toNatClampNeg (defaultValue ty) := rfl
section OwnArr
variable {Z : State} {h h' : Heap} {a b : Addr} {ty : FieldType} {n : Int32} {A : Nat → Int32} {sl : Nat} {v : Value} {ws : List Addr}
theorem own_Ar.lt (F : own_Ar Z h a ty n A) : a < h.size := by obtain ⟨c, B, -⟩ := F; exact B.lt
theorem own_Ar.ext (F : own_Ar Z h a ty n A) (E : Ext h h') : own_Ar Z h' a ty n A := by obtain ⟨c, B, r⟩ := F; exact ⟨c, B.ext E, r⟩
theorem own_Ar.other (F : own_Ar Z h b ty n A) (W : Wr h h' a sl v) (q : b ≠ a) : own_Ar Z h' b ty n A := by obtain ⟨c, B, r⟩ := F; exact ⟨c, B.other W q, r⟩
theorem own_Ar.keep (F : own_Ar Z h a ty n A) (K : Keep h h' ws) (q : a ∉ ws) : own_Ar Z h' a ty n A := by obtain ⟨c, B, r⟩ := F; exact ⟨c, ⟨K.2.1 a c B.1 q, B.2⟩, r⟩
theorem own_Ar.new {k : ClassId} (B : Arr Z h a (newA k ty n) ty) (q : ¬ n < 0) (hd : defaultValue ty = .int 0) : own_Ar Z h a ty n (fun _ => 0) := by
  refine ⟨_, B, sz_new _ _ _, q, fun i hi => ?_⟩
  rw [sz_new] at hi
  rw [own_slotsN, hd, Array.getElem?_replicate, if_pos hi]
theorem own_Ar.put {cl : Cell} {k : Nat} {x : Int32} (B : Arr Z h a cl ty) (S : cl.slots.size = n.toNatClampNeg) (N : ¬ n < 0) (H : ∀ i, i < cl.slots.size → cl.slots[i]? = some (.int (A i))) (W : Wr h h' a k (.int x)) : own_Ar Z h' a ty n (own_up A k x) := by
  refine ⟨_, B.same W, by rw [sz_set]; exact S, N, fun i hi => ?_⟩
  rw [sz_set] at hi
  rw [own_slots]
  by_cases u : i = k
  · subst u
    rw [own_up_hit, Array.getElem?_setIfInBounds_self_of_lt hi]
  · rw [own_up_miss _ _ _ u, Array.getElem?_setIfInBounds_ne (fun z => u z.symm)]
    exact H i hi
end OwnArr
section OwnArrSteps
variable {p : Program} {l : Launch} {e : Env} {R : Room} {s : State} {m : MethodId} {args : Array Value} {below : List Frame} {meth : Method} {c : Code} {T : State} {locs : List Loc} {cells slots : Nat} {Z : State} {h : Heap} {a : Addr} {ty : FieldType} {n : Int32} {A : Nat → Int32}
theorem own_ldI (X : Stand p l e R s m args below meth c T locs cells slots) (hx : p.tables.exec = Jvm.exec) (hZ : Z.Warmed39 s.vm) (eT : T.heap = h) (F : own_Ar Z h a .int n A) {j : Int32} (hj : ¬ j < 0 ∧ j < n) {g : JFrame} (hg : g.method = m) {rest : List Value} (hs : g.stack = .int j :: .ref a :: rest) (hd : decode c.code g.pc = .ok (.iaload, 1)) (target : State)
    (k : Steps p.tables e below (T.setTop { g with pc := g.pc + 1, stack := .int (A j.toNatClampNeg) :: rest }) target) : Steps p.tables e below (T.setTop g) target := by
  obtain ⟨cl, B, S, N, H⟩ := F
  have hin := inb_of S hj
  exact X.iaload hx (by rw [eT]; exact B.1) (State.isArrayOf_alike hZ.alike B.2.1) B.2.2 hin (H _ (Nat.lt_of_not_le fun y => hin (Or.inr y))) hg hs hd target k
theorem own_ldB (X : Stand p l e R s m args below meth c T locs cells slots) (hx : p.tables.exec = Jvm.exec) (hZ : Z.Warmed39 s.vm) (eT : T.heap = h) (F : own_Ar Z h a .byte n A) {j : Int32} (hj : ¬ j < 0 ∧ j < n) {g : JFrame} (hg : g.method = m) {rest : List Value} (hs : g.stack = .int j :: .ref a :: rest) (hd : decode c.code g.pc = .ok (.baload, 1)) (target : State)
    (k : Steps p.tables e below (T.setTop { g with pc := g.pc + 1, stack := .int (A j.toNatClampNeg) :: rest }) target) : Steps p.tables e below (T.setTop g) target := by
  obtain ⟨cl, B, S, N, H⟩ := F
  have hin := inb_of S hj
  exact X.baloadBytes hx (by rw [eT]; exact B.1) (State.isArrayOf_alike hZ.alike B.2.1) B.2.2 hin (H _ (Nat.lt_of_not_le fun y => hin (Or.inr y))) hg hs hd target k
theorem own_alen (X : Stand p l e R s m args below meth c T locs cells slots) (hx : p.tables.exec = Jvm.exec) (hZ : Z.Warmed39 s.vm) (eT : T.heap = h) (F : own_Ar Z h a ty n A) {g : JFrame} (hg : g.method = m) {rest : List Value} (hs : g.stack = .ref a :: rest) (hd : decode c.code g.pc = .ok (.arraylength, 1)) (target : State)
    (k : Steps p.tables e below (T.setTop { g with pc := g.pc + 1, stack := .int n :: rest }) target) : Steps p.tables e below (T.setTop g) target := by
  obtain ⟨cl, B, S, N, H⟩ := F
  exact X.arraylength hx (by rw [eT]; exact B.1) (State.isArrayOf_alike hZ.alike B.2.1) hg hs hd target (by rw [len_of S N]; exact k)
theorem own_stI (X : Stand p l e R s m args below meth c T locs cells slots) (hx : p.tables.exec = Jvm.exec) (hZ : Z.Warmed39 s.vm) (eT : T.heap = h) (F : own_Ar Z h a .int n A) {j x : Int32} (hj : ¬ j < 0 ∧ j < n) {g : JFrame} (hg : g.method = m) {rest : List Value} (hs : g.stack = .int x :: .int j :: .ref a :: rest) (hd : decode c.code g.pc = .ok (.iastore, 1)) :
    ∃ T' h', Stand p l e R s m args below meth c T' (locs ++ [⟨a, j.toNatClampNeg⟩]) cells slots ∧ T'.heap = h' ∧ Wr h h' a j.toNatClampNeg (.int x) ∧ own_Ar Z h' a .int n (own_up A j.toNatClampNeg x) ∧ ∀ target, Steps p.tables e below (T'.setTop { g with pc := g.pc + 1, stack := rest }) target → Steps p.tables e below (T.setTop g) target := by
  obtain ⟨cl, B, S, N, H⟩ := F
  obtain ⟨T', h', X', e', W, st⟩ := stI X hx hZ eT B (j := j) (inb_of S hj) hg hs hd
  exact ⟨T', h', X', e', W, own_Ar.put B S N H W, st⟩
theorem own_stB (X : Stand p l e R s m args below meth c T locs cells slots) (hx : p.tables.exec = Jvm.exec) (hZ : Z.Warmed39 s.vm) (eT : T.heap = h) (F : own_Ar Z h a .byte n A) {j x : Int32} (hj : ¬ j < 0 ∧ j < n) {g : JFrame} (hg : g.method = m) {rest : List Value} (hs : g.stack = .int x :: .int j :: .ref a :: rest) (hd : decode c.code g.pc = .ok (.bastore, 1)) :
    ∃ T' h', Stand p l e R s m args below meth c T' (locs ++ [⟨a, j.toNatClampNeg⟩]) cells slots ∧ T'.heap = h' ∧ Wr h h' a j.toNatClampNeg (.int x.toInt8.toInt32) ∧ own_Ar Z h' a .byte n (own_up A j.toNatClampNeg x.toInt8.toInt32) ∧ ∀ target, Steps p.tables e below (T'.setTop { g with pc := g.pc + 1, stack := rest }) target → Steps p.tables e below (T.setTop g) target := by
  obtain ⟨cl, B, S, N, H⟩ := F
  obtain ⟨T', h', X', e', W, st⟩ := stB X hx hZ eT B (j := j) (inb_of S hj) hg hs hd
  exact ⟨T', h', X', e', W, own_Ar.put B S N H W, st⟩
end OwnArrSteps
theorem own_ix (k : Int32) : ¬ ((k &&& (2147483647 : Int32)) - ((k &&& (2147483647 : Int32)) / (16 : Int32)) * (16 : Int32)) < 0 ∧ ((k &&& (2147483647 : Int32)) - ((k &&& (2147483647 : Int32)) / (16 : Int32)) * (16 : Int32)) < (16 : Int32) := by
  have l0 : (0 : Int32).toInt = 0 := by decide +kernel
  have l16 : (16 : Int32).toInt = 16 := by decide +kernel
  have m := c_mask k 2147483647 31 (by decide +kernel) (by decide +kernel)
  have e := rem_toInt (k &&& (2147483647 : Int32)) 16
  rw [l16, Int.tmod_eq_emod_of_nonneg (by omega)] at e
  rw [Int32.lt_iff_toInt_lt, Int32.lt_iff_toInt_lt, e, l0, l16]
  omega
theorem d1_0 : decode prog_220_method_4_code 0 = .ok (.iload_n 0, 1) := by decide +kernel
theorem d1_1 : decode prog_220_method_4_code 1 = .ok (.bipush 32, 2) := by decide +kernel
theorem d1_3 : decode prog_220_method_4_code 3 = .ok (.if_icmp .lt 9, 3) := by decide +kernel
theorem d1_6 : decode prog_220_method_4_code 6 = .ok (.iload_n 0, 1) := by decide +kernel
theorem d1_7 : decode prog_220_method_4_code 7 = .ok (.ldc 31, 2) := by decide +kernel
theorem d1_9 : decode prog_220_method_4_code 9 = .ok (.if_icmp .le 45, 3) := by decide +kernel
theorem d1_12 : decode prog_220_method_4_code 12 = .ok (.iload_n 0, 1) := by decide +kernel
theorem d1_13 : decode prog_220_method_4_code 13 = .ok (.bipush 9, 2) := by decide +kernel
theorem d1_15 : decode prog_220_method_4_code 15 = .ok (.if_icmp .eq 39, 3) := by decide +kernel
theorem d1_18 : decode prog_220_method_4_code 18 = .ok (.iload_n 0, 1) := by decide +kernel
theorem d1_19 : decode prog_220_method_4_code 19 = .ok (.bipush 10, 2) := by decide +kernel
theorem d1_21 : decode prog_220_method_4_code 21 = .ok (.if_icmp .eq 33, 3) := by decide +kernel
theorem d1_24 : decode prog_220_method_4_code 24 = .ok (.iload_n 0, 1) := by decide +kernel
theorem d1_25 : decode prog_220_method_4_code 25 = .ok (.bipush 13, 2) := by decide +kernel
theorem d1_27 : decode prog_220_method_4_code 27 = .ok (.if_icmp .eq 27, 3) := by decide +kernel
theorem d1_30 : decode prog_220_method_4_code 30 = .ok (.iload_n 0, 1) := by decide +kernel
theorem d1_31 : decode prog_220_method_4_code 31 = .ok (.ldc 32, 2) := by decide +kernel
theorem d1_33 : decode prog_220_method_4_code 33 = .ok (.if_icmp .lt 9, 3) := by decide +kernel
theorem d1_36 : decode prog_220_method_4_code 36 = .ok (.iload_n 0, 1) := by decide +kernel
theorem d1_37 : decode prog_220_method_4_code 37 = .ok (.ldc 33, 2) := by decide +kernel
theorem d1_39 : decode prog_220_method_4_code 39 = .ok (.if_icmp .le 15, 3) := by decide +kernel
theorem d1_42 : decode prog_220_method_4_code 42 = .ok (.iload_n 0, 1) := by decide +kernel
theorem d1_43 : decode prog_220_method_4_code 43 = .ok (.ldc 34, 2) := by decide +kernel
theorem d1_45 : decode prog_220_method_4_code 45 = .ok (.if_icmp .lt 13, 3) := by decide +kernel
theorem d1_48 : decode prog_220_method_4_code 48 = .ok (.iload_n 0, 1) := by decide +kernel
theorem d1_49 : decode prog_220_method_4_code 49 = .ok (.ldc 35, 2) := by decide +kernel
theorem d1_51 : decode prog_220_method_4_code 51 = .ok (.if_icmp .gt 7, 3) := by decide +kernel
theorem d1_54 : decode prog_220_method_4_code 54 = .ok (.iconst 1, 1) := by decide +kernel
theorem d1_55 : decode prog_220_method_4_code 55 = .ok (.goto 4, 3) := by decide +kernel
theorem d1_58 : decode prog_220_method_4_code 58 = .ok (.iconst 0, 1) := by decide +kernel
theorem d1_59 : decode prog_220_method_4_code 59 = .ok (.ireturn, 1) := by decide +kernel
theorem pn_1 : plainName "com/example/saho/saho/text/XmlChars" = true := by first | (simp [plainName, overriddenIn]; done) | decide +kernel
theorem ef_1 (m : MethodId) (i0 : Int32) : entryFrame m #[(.int i0)] 1 = mkF m 0 #[.val (.int i0)] [] := by first | (simp [entryFrame, mkF, argsToLocals, Value.category]; done) | rfl
def own_f1_42 (i0 : Int32) : Int32 :=
  (if i0 < (65536 : Int32) then (0 : Int32) else (if (1114111 : Int32) < i0 then (0 : Int32) else (1 : Int32)))
def own_f1_12 (i0 : Int32) : Int32 :=
  (if i0 = (9 : Int32) then (1 : Int32) else (if i0 = (10 : Int32) then (1 : Int32) else (if i0 = (13 : Int32) then (1 : Int32) else (if i0 < (57344 : Int32) then (own_f1_42 i0) else (if (65533 : Int32) < i0 then (own_f1_42 i0) else (1 : Int32))))))
def own_f1_0 (i0 : Int32) : Int32 :=
  (if i0 < (32 : Int32) then (own_f1_12 i0) else (if (55295 : Int32) < i0 then (own_f1_12 i0) else (1 : Int32)))
set_option maxRecDepth 65536 in
set_option maxHeartbeats 40000000 in
theorem own_b1_42 {p : Program} {l : Launch} {e : Env} {s : State} {m : MethodId} {args : Array Value} {below : List Frame} {meth : Method} {c : Code} {Z : State} {a0_ : Array Value} (hx : p.tables.exec = Jvm.exec) (hZ : Z.Warmed39 s.vm) (hw : ∀ d ∈ tables_1, d.before a0_ Z = true) (hby : c.code = prog_220_method_4_code) (hml : c.maxLocals = 1) (hown : s.vm.findClass "com/example/saho/saho/text/XmlChars" = some m.cls) (hret : meth.sig.returnType = some .boolean) {T0 : State} {locs : List Loc} {cells slots : Nat} {h0 : Heap} (i0 : Int32)
    (X0 : Stand p l e ({ frames := 0, cells := 0, slots := 0, locals := 0 } : Room) s m args below meth c T0 locs cells slots) (e0 : T0.heap = h0) (hcl : cells ≤ ({ frames := 0, cells := 0, slots := 0, locals := 0 } : Room).cells) (hsl : slots ≤ ({ frames := 0, cells := 0, slots := 0, locals := 0 } : Room).slots)  :
    ∃ T', Stand p l e ({ frames := 0, cells := 0, slots := 0, locals := 0 } : Room) s m args below meth c T' locs cells slots ∧ T'.heap = h0 ∧ ∀ fs, (∀ (f : JFrame) (acts : List Action), f.method = m → f.locked = none → f.entered = [] → (doReturn e (T'.setTop f) acts (some (.int (own_f1_42 i0)))).1 = T'.setFrames fs) → Steps p.tables e below (T0.setTop (mkF m 42 #[.val (.int i0)] [])) (T'.setFrames fs) := by
  have pre1 : ∀ target, Steps p.tables e below (T0.setTop (mkF m 45 #[.val (.int i0)] [(.int (65536 : Int32)), (.int i0)])) target → Steps p.tables e below (T0.setTop (mkF m 42 #[.val (.int i0)] [])) target := by
    intro target kt
    show Steps p.tables e below (T0.setTop (mkF m 42 #[.val (.int i0)] [])) _
    refine XS.iloadN X0.here hx rfl (hb hby d1_42) rfl ?_
    show Steps p.tables e below (T0.setTop (mkF m 43 #[.val (.int i0)] [(.int i0)])) _
    refine X0.ldcInt hx hown (mvT hZ (hw _ (List.mem_of_getElem? (i := 17) rfl))) (g := (mkF m 43 #[.val (.int i0)] [(.int i0)])) rfl (hb hby d1_43) _ ?_
    exact kt
  by_cases hc45 : i0 < (65536 : Int32)
  · refine ⟨T0, X0, e0, fun fs hr => ?_⟩
    have hv : (own_f1_42 i0) = (0 : Int32) := by unfold own_f1_42; rw [if_pos hc45]
    rw [hv] at hr
    refine pre1 _ ?_
    show Steps p.tables e below (T0.setTop (mkF m 45 #[.val (.int i0)] [(.int (65536 : Int32)), (.int i0)])) _
    refine XS.icmpYes X0.here hx rfl (pc0 := 45) (pc' := 58) rfl (hb hby d1_45) rfl (tlt hc45).1 (by decide) (by decide) ?_
    show Steps p.tables e below (T0.setTop (mkF m 58 #[.val (.int i0)] [])) _
    refine XS.iconst X0.here hx rfl (hb hby d1_58) ?_
    show Steps p.tables e below (T0.setTop (mkF m 59 #[.val (.int i0)] [(.int (0 : Int32))])) _
    exact retN X0 hx (t := .boolean) hret (by simp) (hb hby d1_59) hr
  · have pre2 : ∀ target, Steps p.tables e below (T0.setTop (mkF m 51 #[.val (.int i0)] [(.int (1114111 : Int32)), (.int i0)])) target → Steps p.tables e below (T0.setTop (mkF m 42 #[.val (.int i0)] [])) target := by
      intro target kt
      refine pre1 target ?_
      show Steps p.tables e below (T0.setTop (mkF m 45 #[.val (.int i0)] [(.int (65536 : Int32)), (.int i0)])) _
      refine XS.icmpNo X0.here hx rfl (hb hby d1_45) rfl (flt hc45).1 ?_
      show Steps p.tables e below (T0.setTop (mkF m 48 #[.val (.int i0)] [])) _
      refine XS.iloadN X0.here hx rfl (hb hby d1_48) rfl ?_
      show Steps p.tables e below (T0.setTop (mkF m 49 #[.val (.int i0)] [(.int i0)])) _
      refine X0.ldcInt hx hown (mvT hZ (hw _ (List.mem_of_getElem? (i := 24) rfl))) (g := (mkF m 49 #[.val (.int i0)] [(.int i0)])) rfl (hb hby d1_49) _ ?_
      exact kt
    by_cases hc51 : (1114111 : Int32) < i0
    · refine ⟨T0, X0, e0, fun fs hr => ?_⟩
      have hv : (own_f1_42 i0) = (0 : Int32) := by unfold own_f1_42; rw [if_neg hc45, if_pos hc51]
      rw [hv] at hr
      refine pre2 _ ?_
      show Steps p.tables e below (T0.setTop (mkF m 51 #[.val (.int i0)] [(.int (1114111 : Int32)), (.int i0)])) _
      refine XS.icmpYes X0.here hx rfl (pc0 := 51) (pc' := 58) rfl (hb hby d1_51) rfl (tlt hc51).2.2.1 (by decide) (by decide) ?_
      show Steps p.tables e below (T0.setTop (mkF m 58 #[.val (.int i0)] [])) _
      refine XS.iconst X0.here hx rfl (hb hby d1_58) ?_
      show Steps p.tables e below (T0.setTop (mkF m 59 #[.val (.int i0)] [(.int (0 : Int32))])) _
      exact retN X0 hx (t := .boolean) hret (by simp) (hb hby d1_59) hr
    · refine ⟨T0, X0, e0, fun fs hr => ?_⟩
      have hv : (own_f1_42 i0) = (1 : Int32) := by unfold own_f1_42; rw [if_neg hc45, if_neg hc51]
      rw [hv] at hr
      refine pre2 _ ?_
      show Steps p.tables e below (T0.setTop (mkF m 51 #[.val (.int i0)] [(.int (1114111 : Int32)), (.int i0)])) _
      refine XS.icmpNo X0.here hx rfl (hb hby d1_51) rfl (flt hc51).2.2.1 ?_
      show Steps p.tables e below (T0.setTop (mkF m 54 #[.val (.int i0)] [])) _
      refine XS.iconst X0.here hx rfl (hb hby d1_54) ?_
      show Steps p.tables e below (T0.setTop (mkF m 55 #[.val (.int i0)] [(.int (1 : Int32))])) _
      refine XS.goto X0.here hx rfl (pc0 := 55) (pc' := 59) rfl (hb hby d1_55) (by decide) (by decide) ?_
      show Steps p.tables e below (T0.setTop (mkF m 59 #[.val (.int i0)] [(.int (1 : Int32))])) _
      exact retN X0 hx (t := .boolean) hret (by simp) (hb hby d1_59) hr
set_option maxRecDepth 65536 in
set_option maxHeartbeats 40000000 in
theorem own_b1_12 {p : Program} {l : Launch} {e : Env} {s : State} {m : MethodId} {args : Array Value} {below : List Frame} {meth : Method} {c : Code} {Z : State} {a0_ : Array Value} (hx : p.tables.exec = Jvm.exec) (hZ : Z.Warmed39 s.vm) (hw : ∀ d ∈ tables_1, d.before a0_ Z = true) (hby : c.code = prog_220_method_4_code) (hml : c.maxLocals = 1) (hown : s.vm.findClass "com/example/saho/saho/text/XmlChars" = some m.cls) (hret : meth.sig.returnType = some .boolean) {T0 : State} {locs : List Loc} {cells slots : Nat} {h0 : Heap} (i0 : Int32)
    (X0 : Stand p l e ({ frames := 0, cells := 0, slots := 0, locals := 0 } : Room) s m args below meth c T0 locs cells slots) (e0 : T0.heap = h0) (hcl : cells ≤ ({ frames := 0, cells := 0, slots := 0, locals := 0 } : Room).cells) (hsl : slots ≤ ({ frames := 0, cells := 0, slots := 0, locals := 0 } : Room).slots)  :
    ∃ T', Stand p l e ({ frames := 0, cells := 0, slots := 0, locals := 0 } : Room) s m args below meth c T' locs cells slots ∧ T'.heap = h0 ∧ ∀ fs, (∀ (f : JFrame) (acts : List Action), f.method = m → f.locked = none → f.entered = [] → (doReturn e (T'.setTop f) acts (some (.int (own_f1_12 i0)))).1 = T'.setFrames fs) → Steps p.tables e below (T0.setTop (mkF m 12 #[.val (.int i0)] [])) (T'.setFrames fs) := by
  have pre1 : ∀ target, Steps p.tables e below (T0.setTop (mkF m 15 #[.val (.int i0)] [(.int (9 : Int32)), (.int i0)])) target → Steps p.tables e below (T0.setTop (mkF m 12 #[.val (.int i0)] [])) target := by
    intro target kt
    show Steps p.tables e below (T0.setTop (mkF m 12 #[.val (.int i0)] [])) _
    refine XS.iloadN X0.here hx rfl (hb hby d1_12) rfl ?_
    show Steps p.tables e below (T0.setTop (mkF m 13 #[.val (.int i0)] [(.int i0)])) _
    refine XS.bipush X0.here hx rfl (hb hby d1_13) ?_
    exact kt
  by_cases hc15 : i0 = (9 : Int32)
  · refine ⟨T0, X0, e0, fun fs hr => ?_⟩
    have hv : (own_f1_12 i0) = (1 : Int32) := by unfold own_f1_12; rw [if_pos hc15]
    rw [hv] at hr
    refine pre1 _ ?_
    show Steps p.tables e below (T0.setTop (mkF m 15 #[.val (.int i0)] [(.int (9 : Int32)), (.int i0)])) _
    refine XS.icmpYes X0.here hx rfl (pc0 := 15) (pc' := 54) rfl (hb hby d1_15) rfl (teq hc15).1 (by decide) (by decide) ?_
    show Steps p.tables e below (T0.setTop (mkF m 54 #[.val (.int i0)] [])) _
    refine XS.iconst X0.here hx rfl (hb hby d1_54) ?_
    show Steps p.tables e below (T0.setTop (mkF m 55 #[.val (.int i0)] [(.int (1 : Int32))])) _
    refine XS.goto X0.here hx rfl (pc0 := 55) (pc' := 59) rfl (hb hby d1_55) (by decide) (by decide) ?_
    show Steps p.tables e below (T0.setTop (mkF m 59 #[.val (.int i0)] [(.int (1 : Int32))])) _
    exact retN X0 hx (t := .boolean) hret (by simp) (hb hby d1_59) hr
  · have pre2 : ∀ target, Steps p.tables e below (T0.setTop (mkF m 21 #[.val (.int i0)] [(.int (10 : Int32)), (.int i0)])) target → Steps p.tables e below (T0.setTop (mkF m 12 #[.val (.int i0)] [])) target := by
      intro target kt
      refine pre1 target ?_
      show Steps p.tables e below (T0.setTop (mkF m 15 #[.val (.int i0)] [(.int (9 : Int32)), (.int i0)])) _
      refine XS.icmpNo X0.here hx rfl (hb hby d1_15) rfl (feq hc15).1 ?_
      show Steps p.tables e below (T0.setTop (mkF m 18 #[.val (.int i0)] [])) _
      refine XS.iloadN X0.here hx rfl (hb hby d1_18) rfl ?_
      show Steps p.tables e below (T0.setTop (mkF m 19 #[.val (.int i0)] [(.int i0)])) _
      refine XS.bipush X0.here hx rfl (hb hby d1_19) ?_
      exact kt
    by_cases hc21 : i0 = (10 : Int32)
    · refine ⟨T0, X0, e0, fun fs hr => ?_⟩
      have hv : (own_f1_12 i0) = (1 : Int32) := by unfold own_f1_12; rw [if_neg hc15, if_pos hc21]
      rw [hv] at hr
      refine pre2 _ ?_
      show Steps p.tables e below (T0.setTop (mkF m 21 #[.val (.int i0)] [(.int (10 : Int32)), (.int i0)])) _
      refine XS.icmpYes X0.here hx rfl (pc0 := 21) (pc' := 54) rfl (hb hby d1_21) rfl (teq hc21).1 (by decide) (by decide) ?_
      show Steps p.tables e below (T0.setTop (mkF m 54 #[.val (.int i0)] [])) _
      refine XS.iconst X0.here hx rfl (hb hby d1_54) ?_
      show Steps p.tables e below (T0.setTop (mkF m 55 #[.val (.int i0)] [(.int (1 : Int32))])) _
      refine XS.goto X0.here hx rfl (pc0 := 55) (pc' := 59) rfl (hb hby d1_55) (by decide) (by decide) ?_
      show Steps p.tables e below (T0.setTop (mkF m 59 #[.val (.int i0)] [(.int (1 : Int32))])) _
      exact retN X0 hx (t := .boolean) hret (by simp) (hb hby d1_59) hr
    · have pre3 : ∀ target, Steps p.tables e below (T0.setTop (mkF m 27 #[.val (.int i0)] [(.int (13 : Int32)), (.int i0)])) target → Steps p.tables e below (T0.setTop (mkF m 12 #[.val (.int i0)] [])) target := by
        intro target kt
        refine pre2 target ?_
        show Steps p.tables e below (T0.setTop (mkF m 21 #[.val (.int i0)] [(.int (10 : Int32)), (.int i0)])) _
        refine XS.icmpNo X0.here hx rfl (hb hby d1_21) rfl (feq hc21).1 ?_
        show Steps p.tables e below (T0.setTop (mkF m 24 #[.val (.int i0)] [])) _
        refine XS.iloadN X0.here hx rfl (hb hby d1_24) rfl ?_
        show Steps p.tables e below (T0.setTop (mkF m 25 #[.val (.int i0)] [(.int i0)])) _
        refine XS.bipush X0.here hx rfl (hb hby d1_25) ?_
        exact kt
      by_cases hc27 : i0 = (13 : Int32)
      · refine ⟨T0, X0, e0, fun fs hr => ?_⟩
        have hv : (own_f1_12 i0) = (1 : Int32) := by unfold own_f1_12; rw [if_neg hc15, if_neg hc21, if_pos hc27]
        rw [hv] at hr
        refine pre3 _ ?_
        show Steps p.tables e below (T0.setTop (mkF m 27 #[.val (.int i0)] [(.int (13 : Int32)), (.int i0)])) _
        refine XS.icmpYes X0.here hx rfl (pc0 := 27) (pc' := 54) rfl (hb hby d1_27) rfl (teq hc27).1 (by decide) (by decide) ?_
        show Steps p.tables e below (T0.setTop (mkF m 54 #[.val (.int i0)] [])) _
        refine XS.iconst X0.here hx rfl (hb hby d1_54) ?_
        show Steps p.tables e below (T0.setTop (mkF m 55 #[.val (.int i0)] [(.int (1 : Int32))])) _
        refine XS.goto X0.here hx rfl (pc0 := 55) (pc' := 59) rfl (hb hby d1_55) (by decide) (by decide) ?_
        show Steps p.tables e below (T0.setTop (mkF m 59 #[.val (.int i0)] [(.int (1 : Int32))])) _
        exact retN X0 hx (t := .boolean) hret (by simp) (hb hby d1_59) hr
      · have pre4 : ∀ target, Steps p.tables e below (T0.setTop (mkF m 33 #[.val (.int i0)] [(.int (57344 : Int32)), (.int i0)])) target → Steps p.tables e below (T0.setTop (mkF m 12 #[.val (.int i0)] [])) target := by
          intro target kt
          refine pre3 target ?_
          show Steps p.tables e below (T0.setTop (mkF m 27 #[.val (.int i0)] [(.int (13 : Int32)), (.int i0)])) _
          refine XS.icmpNo X0.here hx rfl (hb hby d1_27) rfl (feq hc27).1 ?_
          show Steps p.tables e below (T0.setTop (mkF m 30 #[.val (.int i0)] [])) _
          refine XS.iloadN X0.here hx rfl (hb hby d1_30) rfl ?_
          show Steps p.tables e below (T0.setTop (mkF m 31 #[.val (.int i0)] [(.int i0)])) _
          refine X0.ldcInt hx hown (mvT hZ (hw _ (List.mem_of_getElem? (i := 16) rfl))) (g := (mkF m 31 #[.val (.int i0)] [(.int i0)])) rfl (hb hby d1_31) _ ?_
          exact kt
        by_cases hc33 : i0 < (57344 : Int32)
        · have pre5 : ∀ target, Steps p.tables e below (T0.setTop (mkF m 42 #[.val (.int i0)] [])) target → Steps p.tables e below (T0.setTop (mkF m 12 #[.val (.int i0)] [])) target := by
            intro target kt
            refine pre4 target ?_
            show Steps p.tables e below (T0.setTop (mkF m 33 #[.val (.int i0)] [(.int (57344 : Int32)), (.int i0)])) _
            refine XS.icmpYes X0.here hx rfl (pc0 := 33) (pc' := 42) rfl (hb hby d1_33) rfl (tlt hc33).1 (by decide) (by decide) ?_
            exact kt
          obtain ⟨T6, X6, e6, st6⟩ := own_b1_42 hx hZ hw hby hml hown hret i0  X0 e0 hcl hsl  
          have hv : (own_f1_12 i0) = (own_f1_42 i0) := by unfold own_f1_12; rw [if_neg hc15, if_neg hc21, if_neg hc27, if_pos hc33]
          exact ⟨T6, X6, e6, fun fs hr => pre5 _ (st6 fs (by rw [hv] at hr; exact hr))⟩
        · have pre7 : ∀ target, Steps p.tables e below (T0.setTop (mkF m 39 #[.val (.int i0)] [(.int (65533 : Int32)), (.int i0)])) target → Steps p.tables e below (T0.setTop (mkF m 12 #[.val (.int i0)] [])) target := by
            intro target kt
            refine pre4 target ?_
            show Steps p.tables e below (T0.setTop (mkF m 33 #[.val (.int i0)] [(.int (57344 : Int32)), (.int i0)])) _
            refine XS.icmpNo X0.here hx rfl (hb hby d1_33) rfl (flt hc33).1 ?_
            show Steps p.tables e below (T0.setTop (mkF m 36 #[.val (.int i0)] [])) _
            refine XS.iloadN X0.here hx rfl (hb hby d1_36) rfl ?_
            show Steps p.tables e below (T0.setTop (mkF m 37 #[.val (.int i0)] [(.int i0)])) _
            refine X0.ldcInt hx hown (mvT hZ (hw _ (List.mem_of_getElem? (i := 23) rfl))) (g := (mkF m 37 #[.val (.int i0)] [(.int i0)])) rfl (hb hby d1_37) _ ?_
            exact kt
          by_cases hc39 : (65533 : Int32) < i0
          · have pre8 : ∀ target, Steps p.tables e below (T0.setTop (mkF m 42 #[.val (.int i0)] [])) target → Steps p.tables e below (T0.setTop (mkF m 12 #[.val (.int i0)] [])) target := by
              intro target kt
              refine pre7 target ?_
              show Steps p.tables e below (T0.setTop (mkF m 39 #[.val (.int i0)] [(.int (65533 : Int32)), (.int i0)])) _
              refine XS.icmpNo X0.here hx rfl (hb hby d1_39) rfl (tlt hc39).2.2.2 ?_
              exact kt
            obtain ⟨T9, X9, e9, st9⟩ := own_b1_42 hx hZ hw hby hml hown hret i0  X0 e0 hcl hsl  
            have hv : (own_f1_12 i0) = (own_f1_42 i0) := by unfold own_f1_12; rw [if_neg hc15, if_neg hc21, if_neg hc27, if_neg hc33, if_pos hc39]
            exact ⟨T9, X9, e9, fun fs hr => pre8 _ (st9 fs (by rw [hv] at hr; exact hr))⟩
          · refine ⟨T0, X0, e0, fun fs hr => ?_⟩
            have hv : (own_f1_12 i0) = (1 : Int32) := by unfold own_f1_12; rw [if_neg hc15, if_neg hc21, if_neg hc27, if_neg hc33, if_neg hc39]
            rw [hv] at hr
            refine pre7 _ ?_
            show Steps p.tables e below (T0.setTop (mkF m 39 #[.val (.int i0)] [(.int (65533 : Int32)), (.int i0)])) _
            refine XS.icmpYes X0.here hx rfl (pc0 := 39) (pc' := 54) rfl (hb hby d1_39) rfl (flt hc39).2.2.2 (by decide) (by decide) ?_
            show Steps p.tables e below (T0.setTop (mkF m 54 #[.val (.int i0)] [])) _
            refine XS.iconst X0.here hx rfl (hb hby d1_54) ?_
            show Steps p.tables e below (T0.setTop (mkF m 55 #[.val (.int i0)] [(.int (1 : Int32))])) _
            refine XS.goto X0.here hx rfl (pc0 := 55) (pc' := 59) rfl (hb hby d1_55) (by decide) (by decide) ?_
            show Steps p.tables e below (T0.setTop (mkF m 59 #[.val (.int i0)] [(.int (1 : Int32))])) _
            exact retN X0 hx (t := .boolean) hret (by simp) (hb hby d1_59) hr
set_option maxRecDepth 65536 in
set_option maxHeartbeats 40000000 in
theorem own_b1_0 {p : Program} {l : Launch} {e : Env} {s : State} {m : MethodId} {args : Array Value} {below : List Frame} {meth : Method} {c : Code} {Z : State} {a0_ : Array Value} (hx : p.tables.exec = Jvm.exec) (hZ : Z.Warmed39 s.vm) (hw : ∀ d ∈ tables_1, d.before a0_ Z = true) (hby : c.code = prog_220_method_4_code) (hml : c.maxLocals = 1) (hown : s.vm.findClass "com/example/saho/saho/text/XmlChars" = some m.cls) (hret : meth.sig.returnType = some .boolean) {T0 : State} {locs : List Loc} {cells slots : Nat} {h0 : Heap} (i0 : Int32)
    (X0 : Stand p l e ({ frames := 0, cells := 0, slots := 0, locals := 0 } : Room) s m args below meth c T0 locs cells slots) (e0 : T0.heap = h0) (hcl : cells ≤ ({ frames := 0, cells := 0, slots := 0, locals := 0 } : Room).cells) (hsl : slots ≤ ({ frames := 0, cells := 0, slots := 0, locals := 0 } : Room).slots)  :
    ∃ T', Stand p l e ({ frames := 0, cells := 0, slots := 0, locals := 0 } : Room) s m args below meth c T' locs cells slots ∧ T'.heap = h0 ∧ ∀ fs, (∀ (f : JFrame) (acts : List Action), f.method = m → f.locked = none → f.entered = [] → (doReturn e (T'.setTop f) acts (some (.int (own_f1_0 i0)))).1 = T'.setFrames fs) → Steps p.tables e below (T0.setTop (mkF m 0 #[.val (.int i0)] [])) (T'.setFrames fs) := by
  have pre1 : ∀ target, Steps p.tables e below (T0.setTop (mkF m 3 #[.val (.int i0)] [(.int (32 : Int32)), (.int i0)])) target → Steps p.tables e below (T0.setTop (mkF m 0 #[.val (.int i0)] [])) target := by
    intro target kt
    show Steps p.tables e below (T0.setTop (mkF m 0 #[.val (.int i0)] [])) _
    refine XS.iloadN X0.here hx rfl (hb hby d1_0) rfl ?_
    show Steps p.tables e below (T0.setTop (mkF m 1 #[.val (.int i0)] [(.int i0)])) _
    refine XS.bipush X0.here hx rfl (hb hby d1_1) ?_
    exact kt
  by_cases hc3 : i0 < (32 : Int32)
  · have pre2 : ∀ target, Steps p.tables e below (T0.setTop (mkF m 12 #[.val (.int i0)] [])) target → Steps p.tables e below (T0.setTop (mkF m 0 #[.val (.int i0)] [])) target := by
      intro target kt
      refine pre1 target ?_
      show Steps p.tables e below (T0.setTop (mkF m 3 #[.val (.int i0)] [(.int (32 : Int32)), (.int i0)])) _
      refine XS.icmpYes X0.here hx rfl (pc0 := 3) (pc' := 12) rfl (hb hby d1_3) rfl (tlt hc3).1 (by decide) (by decide) ?_
      exact kt
    obtain ⟨T3, X3, e3, st3⟩ := own_b1_12 hx hZ hw hby hml hown hret i0  X0 e0 hcl hsl  
    have hv : (own_f1_0 i0) = (own_f1_12 i0) := by unfold own_f1_0; rw [if_pos hc3]
    exact ⟨T3, X3, e3, fun fs hr => pre2 _ (st3 fs (by rw [hv] at hr; exact hr))⟩
  · have pre4 : ∀ target, Steps p.tables e below (T0.setTop (mkF m 9 #[.val (.int i0)] [(.int (55295 : Int32)), (.int i0)])) target → Steps p.tables e below (T0.setTop (mkF m 0 #[.val (.int i0)] [])) target := by
      intro target kt
      refine pre1 target ?_
      show Steps p.tables e below (T0.setTop (mkF m 3 #[.val (.int i0)] [(.int (32 : Int32)), (.int i0)])) _
      refine XS.icmpNo X0.here hx rfl (hb hby d1_3) rfl (flt hc3).1 ?_
      show Steps p.tables e below (T0.setTop (mkF m 6 #[.val (.int i0)] [])) _
      refine XS.iloadN X0.here hx rfl (hb hby d1_6) rfl ?_
      show Steps p.tables e below (T0.setTop (mkF m 7 #[.val (.int i0)] [(.int i0)])) _
      refine X0.ldcInt hx hown (mvT hZ (hw _ (List.mem_of_getElem? (i := 22) rfl))) (g := (mkF m 7 #[.val (.int i0)] [(.int i0)])) rfl (hb hby d1_7) _ ?_
      exact kt
    by_cases hc9 : (55295 : Int32) < i0
    · have pre5 : ∀ target, Steps p.tables e below (T0.setTop (mkF m 12 #[.val (.int i0)] [])) target → Steps p.tables e below (T0.setTop (mkF m 0 #[.val (.int i0)] [])) target := by
        intro target kt
        refine pre4 target ?_
        show Steps p.tables e below (T0.setTop (mkF m 9 #[.val (.int i0)] [(.int (55295 : Int32)), (.int i0)])) _
        refine XS.icmpNo X0.here hx rfl (hb hby d1_9) rfl (tlt hc9).2.2.2 ?_
        exact kt
      obtain ⟨T6, X6, e6, st6⟩ := own_b1_12 hx hZ hw hby hml hown hret i0  X0 e0 hcl hsl  
      have hv : (own_f1_0 i0) = (own_f1_12 i0) := by unfold own_f1_0; rw [if_neg hc3, if_pos hc9]
      exact ⟨T6, X6, e6, fun fs hr => pre5 _ (st6 fs (by rw [hv] at hr; exact hr))⟩
    · refine ⟨T0, X0, e0, fun fs hr => ?_⟩
      have hv : (own_f1_0 i0) = (1 : Int32) := by unfold own_f1_0; rw [if_neg hc3, if_neg hc9]
      rw [hv] at hr
      refine pre4 _ ?_
      show Steps p.tables e below (T0.setTop (mkF m 9 #[.val (.int i0)] [(.int (55295 : Int32)), (.int i0)])) _
      refine XS.icmpYes X0.here hx rfl (pc0 := 9) (pc' := 54) rfl (hb hby d1_9) rfl (flt hc9).2.2.2 (by decide) (by decide) ?_
      show Steps p.tables e below (T0.setTop (mkF m 54 #[.val (.int i0)] [])) _
      refine XS.iconst X0.here hx rfl (hb hby d1_54) ?_
      show Steps p.tables e below (T0.setTop (mkF m 55 #[.val (.int i0)] [(.int (1 : Int32))])) _
      refine XS.goto X0.here hx rfl (pc0 := 55) (pc' := 59) rfl (hb hby d1_55) (by decide) (by decide) ?_
      show Steps p.tables e below (T0.setTop (mkF m 59 #[.val (.int i0)] [(.int (1 : Int32))])) _
      exact retN X0 hx (t := .boolean) hret (by simp) (hb hby d1_59) hr
def Q1 (Z : State) (i0 : Int32) (h0 : Heap) (n0 : Nat) (v : Option Value) (h : Heap) (L : List Loc) : Prop := v = some (.int (own_f1_0 i0)) ∧ L = [] ∧ h = h0
set_option maxRecDepth 65536 in
set_option maxHeartbeats 40000000 in
theorem rm1 (l : Launch) (Z : State) (a0_ : Array Value) (hw : ∀ d ∈ tables_1, d.before a0_ Z = true) (ws : List Jvm.Cond) (i0 : Int32) (h0 : Heap) (n0 : Nat) (Z0 : n0 ≤ h0.size)  :
    MetFree l (⟨"com/example/saho/saho/text/XmlChars", "isChar", "(I)Z"⟩ : MethodName) (head1 (Jvm.Cond.code (⟨"com/example/saho/saho/text/XmlChars", "isChar", "(I)Z"⟩ : MethodName) prog_220_method_4_code 1 (some .boolean) :: ws) ({ frames := 0, cells := 0, slots := 0, locals := 0 } : Room)) (fun a U => a = #[(.int i0)] ∧ Z.Warmed39 U.vm ∧ U.heap = h0) (fun _ _ _ _ _ => True) (fun _ U o U' => ∃ v L, o = .returned v ∧ Q1 Z i0 h0 n0 v U'.heap L ∧ FrameEnd U o U' L ({ frames := 0, cells := 0, slots := 0, locals := 0 } : Room).cells ({ frames := 0, cells := 0, slots := 0, locals := 0 } : Room).slots) := by
  refine MetFree.of_bodySF (plainFor_of_name pn_1) hisR ?_
  intro p e s m args below meth c s₁ Bd hml0 hP hK
  obtain ⟨rfl, hZ, hh⟩ := hP
  have hx := Bd.exec
  have hby := Bd.bytes
  have hml : c.maxLocals = 1 := hml0
  have hown : s.vm.findClass "com/example/saho/saho/text/XmlChars" = some m.cls := findClass_of_methodNamed Bd.named
  have X0 : Stand p l e ({ frames := 0, cells := 0, slots := 0, locals := 0 } : Room) s m #[(.int i0)] below meth c s₁ [] 0 0 := Stand.of_body Bd
  have e0 : s₁.heap = h0 := by rw [← hh, Bd.state]; rfl
  obtain ⟨T', X', e', st'⟩ := own_b1_0 hx hZ hw hby hml hown Bd.returns  i0 X0 e0 (by decide) (by decide) 
  obtain ⟨fs, hr, hrun, hended, hW, hsame⟩ := X'.leave (v := some (.int (own_f1_0 i0))) (fun h => by rw [Bd.returns] at h; cases h)
  refine ⟨_, _, castTop (ef_1 m i0) (st' fs hr), hrun, hended, _, _, rfl, ?_, ⟨_, rfl⟩, hW, hsame.mono (by decide) (by decide)⟩
  exact ⟨rfl, rfl, e'⟩
theorem d2_0 : decode method_2_code 0 = .ok (.iload_n 0, 1) := by decide +kernel
theorem d2_1 : decode method_2_code 1 = .ok (.ifCond .lt 9, 3) := by decide +kernel
theorem d2_4 : decode method_2_code 4 = .ok (.iload_n 0, 1) := by decide +kernel
theorem d2_5 : decode method_2_code 5 = .ok (.ldc 7, 2) := by decide +kernel
theorem d2_7 : decode method_2_code 7 = .ok (.if_icmp .le 5, 3) := by decide +kernel
theorem d2_10 : decode method_2_code 10 = .ok (.iconst 0, 1) := by decide +kernel
theorem d2_11 : decode method_2_code 11 = .ok (.ireturn, 1) := by decide +kernel
theorem d2_12 : decode method_2_code 12 = .ok (.iload_n 0, 1) := by decide +kernel
theorem d2_13 : decode method_2_code 13 = .ok (.bipush 32, 2) := by decide +kernel
theorem d2_15 : decode method_2_code 15 = .ok (.if_icmp .ge 27, 3) := by decide +kernel
theorem d2_18 : decode method_2_code 18 = .ok (.iload_n 0, 1) := by decide +kernel
theorem d2_19 : decode method_2_code 19 = .ok (.bipush 9, 2) := by decide +kernel
theorem d2_21 : decode method_2_code 21 = .ok (.if_icmp .eq 15, 3) := by decide +kernel
theorem d2_24 : decode method_2_code 24 = .ok (.iload_n 0, 1) := by decide +kernel
theorem d2_25 : decode method_2_code 25 = .ok (.bipush 10, 2) := by decide +kernel
theorem d2_27 : decode method_2_code 27 = .ok (.if_icmp .eq 9, 3) := by decide +kernel
theorem d2_30 : decode method_2_code 30 = .ok (.iload_n 0, 1) := by decide +kernel
theorem d2_31 : decode method_2_code 31 = .ok (.bipush 13, 2) := by decide +kernel
theorem d2_33 : decode method_2_code 33 = .ok (.if_icmp .ne 7, 3) := by decide +kernel
theorem d2_36 : decode method_2_code 36 = .ok (.iconst 1, 1) := by decide +kernel
theorem d2_37 : decode method_2_code 37 = .ok (.goto 4, 3) := by decide +kernel
theorem d2_40 : decode method_2_code 40 = .ok (.iconst 0, 1) := by decide +kernel
theorem d2_41 : decode method_2_code 41 = .ok (.ireturn, 1) := by decide +kernel
theorem d2_42 : decode method_2_code 42 = .ok (.iload_n 0, 1) := by decide +kernel
theorem d2_43 : decode method_2_code 43 = .ok (.ldc 8, 2) := by decide +kernel
theorem d2_45 : decode method_2_code 45 = .ok (.if_icmp .lt 11, 3) := by decide +kernel
theorem d2_48 : decode method_2_code 48 = .ok (.iload_n 0, 1) := by decide +kernel
theorem d2_49 : decode method_2_code 49 = .ok (.ldc 9, 2) := by decide +kernel
theorem d2_51 : decode method_2_code 51 = .ok (.if_icmp .gt 5, 3) := by decide +kernel
theorem d2_54 : decode method_2_code 54 = .ok (.iconst 0, 1) := by decide +kernel
theorem d2_55 : decode method_2_code 55 = .ok (.ireturn, 1) := by decide +kernel
theorem d2_56 : decode method_2_code 56 = .ok (.iload_n 0, 1) := by decide +kernel
theorem d2_57 : decode method_2_code 57 = .ok (.ldc 10, 2) := by decide +kernel
theorem d2_59 : decode method_2_code 59 = .ok (.if_icmp .eq 13, 3) := by decide +kernel
theorem d2_62 : decode method_2_code 62 = .ok (.iload_n 0, 1) := by decide +kernel
theorem d2_63 : decode method_2_code 63 = .ok (.ldc 11, 2) := by decide +kernel
theorem d2_65 : decode method_2_code 65 = .ok (.if_icmp .eq 7, 3) := by decide +kernel
theorem d2_68 : decode method_2_code 68 = .ok (.iconst 1, 1) := by decide +kernel
theorem d2_69 : decode method_2_code 69 = .ok (.goto 4, 3) := by decide +kernel
theorem d2_72 : decode method_2_code 72 = .ok (.iconst 0, 1) := by decide +kernel
theorem d2_73 : decode method_2_code 73 = .ok (.ireturn, 1) := by decide +kernel
theorem pn_2 : plainName "com/example/saho/saho/text/XmlCharsIsCharPinLaw" = true := by first | (simp [plainName, overriddenIn]; done) | decide +kernel
theorem ef_2 (m : MethodId) (i0 : Int32) : entryFrame m #[(.int i0)] 1 = mkF m 0 #[.val (.int i0)] [] := by first | (simp [entryFrame, mkF, argsToLocals, Value.category]; done) | rfl
def own_f2_56 (i0 : Int32) : Int32 :=
  (if i0 = (65534 : Int32) then (0 : Int32) else (if i0 = (65535 : Int32) then (0 : Int32) else (1 : Int32)))
def own_f2_0 (i0 : Int32) : Int32 :=
  (if i0 < (0 : Int32) then (0 : Int32) else (if (1114111 : Int32) < i0 then (0 : Int32) else (if i0 < (32 : Int32) then (if i0 = (9 : Int32) then (1 : Int32) else (if i0 = (10 : Int32) then (1 : Int32) else (if i0 = (13 : Int32) then (1 : Int32) else (0 : Int32)))) else (if i0 < (55296 : Int32) then (own_f2_56 i0) else (if (57343 : Int32) < i0 then (own_f2_56 i0) else (0 : Int32))))))
set_option maxRecDepth 65536 in
set_option maxHeartbeats 40000000 in
theorem own_b2_56 {p : Program} {l : Launch} {e : Env} {s : State} {m : MethodId} {args : Array Value} {below : List Frame} {meth : Method} {c : Code} {Z : State} {a0_ : Array Value} (hx : p.tables.exec = Jvm.exec) (hZ : Z.Warmed39 s.vm) (hw : ∀ d ∈ tables_1, d.before a0_ Z = true) (hby : c.code = method_2_code) (hml : c.maxLocals = 1) (hown : s.vm.findClass "com/example/saho/saho/text/XmlCharsIsCharPinLaw" = some m.cls) (hret : meth.sig.returnType = some .boolean) {T0 : State} {locs : List Loc} {cells slots : Nat} {h0 : Heap} (i0 : Int32)
    (X0 : Stand p l e ({ frames := 0, cells := 0, slots := 0, locals := 0 } : Room) s m args below meth c T0 locs cells slots) (e0 : T0.heap = h0) (hcl : cells ≤ ({ frames := 0, cells := 0, slots := 0, locals := 0 } : Room).cells) (hsl : slots ≤ ({ frames := 0, cells := 0, slots := 0, locals := 0 } : Room).slots)  :
    ∃ T', Stand p l e ({ frames := 0, cells := 0, slots := 0, locals := 0 } : Room) s m args below meth c T' locs cells slots ∧ T'.heap = h0 ∧ ∀ fs, (∀ (f : JFrame) (acts : List Action), f.method = m → f.locked = none → f.entered = [] → (doReturn e (T'.setTop f) acts (some (.int (own_f2_56 i0)))).1 = T'.setFrames fs) → Steps p.tables e below (T0.setTop (mkF m 56 #[.val (.int i0)] [])) (T'.setFrames fs) := by
  have pre1 : ∀ target, Steps p.tables e below (T0.setTop (mkF m 59 #[.val (.int i0)] [(.int (65534 : Int32)), (.int i0)])) target → Steps p.tables e below (T0.setTop (mkF m 56 #[.val (.int i0)] [])) target := by
    intro target kt
    show Steps p.tables e below (T0.setTop (mkF m 56 #[.val (.int i0)] [])) _
    refine XS.iloadN X0.here hx rfl (hb hby d2_56) rfl ?_
    show Steps p.tables e below (T0.setTop (mkF m 57 #[.val (.int i0)] [(.int i0)])) _
    refine X0.ldcInt hx hown (mvT hZ (hw _ (List.mem_of_getElem? (i := 25) rfl))) (g := (mkF m 57 #[.val (.int i0)] [(.int i0)])) rfl (hb hby d2_57) _ ?_
    exact kt
  by_cases hc59 : i0 = (65534 : Int32)
  · refine ⟨T0, X0, e0, fun fs hr => ?_⟩
    have hv : (own_f2_56 i0) = (0 : Int32) := by unfold own_f2_56; rw [if_pos hc59]
    rw [hv] at hr
    refine pre1 _ ?_
    show Steps p.tables e below (T0.setTop (mkF m 59 #[.val (.int i0)] [(.int (65534 : Int32)), (.int i0)])) _
    refine XS.icmpYes X0.here hx rfl (pc0 := 59) (pc' := 72) rfl (hb hby d2_59) rfl (teq hc59).1 (by decide) (by decide) ?_
    show Steps p.tables e below (T0.setTop (mkF m 72 #[.val (.int i0)] [])) _
    refine XS.iconst X0.here hx rfl (hb hby d2_72) ?_
    show Steps p.tables e below (T0.setTop (mkF m 73 #[.val (.int i0)] [(.int (0 : Int32))])) _
    exact retN X0 hx (t := .boolean) hret (by simp) (hb hby d2_73) hr
  · have pre2 : ∀ target, Steps p.tables e below (T0.setTop (mkF m 65 #[.val (.int i0)] [(.int (65535 : Int32)), (.int i0)])) target → Steps p.tables e below (T0.setTop (mkF m 56 #[.val (.int i0)] [])) target := by
      intro target kt
      refine pre1 target ?_
      show Steps p.tables e below (T0.setTop (mkF m 59 #[.val (.int i0)] [(.int (65534 : Int32)), (.int i0)])) _
      refine XS.icmpNo X0.here hx rfl (hb hby d2_59) rfl (feq hc59).1 ?_
      show Steps p.tables e below (T0.setTop (mkF m 62 #[.val (.int i0)] [])) _
      refine XS.iloadN X0.here hx rfl (hb hby d2_62) rfl ?_
      show Steps p.tables e below (T0.setTop (mkF m 63 #[.val (.int i0)] [(.int i0)])) _
      refine X0.ldcInt hx hown (mvT hZ (hw _ (List.mem_of_getElem? (i := 6) rfl))) (g := (mkF m 63 #[.val (.int i0)] [(.int i0)])) rfl (hb hby d2_63) _ ?_
      exact kt
    by_cases hc65 : i0 = (65535 : Int32)
    · refine ⟨T0, X0, e0, fun fs hr => ?_⟩
      have hv : (own_f2_56 i0) = (0 : Int32) := by unfold own_f2_56; rw [if_neg hc59, if_pos hc65]
      rw [hv] at hr
      refine pre2 _ ?_
      show Steps p.tables e below (T0.setTop (mkF m 65 #[.val (.int i0)] [(.int (65535 : Int32)), (.int i0)])) _
      refine XS.icmpYes X0.here hx rfl (pc0 := 65) (pc' := 72) rfl (hb hby d2_65) rfl (teq hc65).1 (by decide) (by decide) ?_
      show Steps p.tables e below (T0.setTop (mkF m 72 #[.val (.int i0)] [])) _
      refine XS.iconst X0.here hx rfl (hb hby d2_72) ?_
      show Steps p.tables e below (T0.setTop (mkF m 73 #[.val (.int i0)] [(.int (0 : Int32))])) _
      exact retN X0 hx (t := .boolean) hret (by simp) (hb hby d2_73) hr
    · refine ⟨T0, X0, e0, fun fs hr => ?_⟩
      have hv : (own_f2_56 i0) = (1 : Int32) := by unfold own_f2_56; rw [if_neg hc59, if_neg hc65]
      rw [hv] at hr
      refine pre2 _ ?_
      show Steps p.tables e below (T0.setTop (mkF m 65 #[.val (.int i0)] [(.int (65535 : Int32)), (.int i0)])) _
      refine XS.icmpNo X0.here hx rfl (hb hby d2_65) rfl (feq hc65).1 ?_
      show Steps p.tables e below (T0.setTop (mkF m 68 #[.val (.int i0)] [])) _
      refine XS.iconst X0.here hx rfl (hb hby d2_68) ?_
      show Steps p.tables e below (T0.setTop (mkF m 69 #[.val (.int i0)] [(.int (1 : Int32))])) _
      refine XS.goto X0.here hx rfl (pc0 := 69) (pc' := 73) rfl (hb hby d2_69) (by decide) (by decide) ?_
      show Steps p.tables e below (T0.setTop (mkF m 73 #[.val (.int i0)] [(.int (1 : Int32))])) _
      exact retN X0 hx (t := .boolean) hret (by simp) (hb hby d2_73) hr
set_option maxRecDepth 65536 in
set_option maxHeartbeats 40000000 in
theorem own_b2_0 {p : Program} {l : Launch} {e : Env} {s : State} {m : MethodId} {args : Array Value} {below : List Frame} {meth : Method} {c : Code} {Z : State} {a0_ : Array Value} (hx : p.tables.exec = Jvm.exec) (hZ : Z.Warmed39 s.vm) (hw : ∀ d ∈ tables_1, d.before a0_ Z = true) (hby : c.code = method_2_code) (hml : c.maxLocals = 1) (hown : s.vm.findClass "com/example/saho/saho/text/XmlCharsIsCharPinLaw" = some m.cls) (hret : meth.sig.returnType = some .boolean) {T0 : State} {locs : List Loc} {cells slots : Nat} {h0 : Heap} (i0 : Int32)
    (X0 : Stand p l e ({ frames := 0, cells := 0, slots := 0, locals := 0 } : Room) s m args below meth c T0 locs cells slots) (e0 : T0.heap = h0) (hcl : cells ≤ ({ frames := 0, cells := 0, slots := 0, locals := 0 } : Room).cells) (hsl : slots ≤ ({ frames := 0, cells := 0, slots := 0, locals := 0 } : Room).slots)  :
    ∃ T', Stand p l e ({ frames := 0, cells := 0, slots := 0, locals := 0 } : Room) s m args below meth c T' locs cells slots ∧ T'.heap = h0 ∧ ∀ fs, (∀ (f : JFrame) (acts : List Action), f.method = m → f.locked = none → f.entered = [] → (doReturn e (T'.setTop f) acts (some (.int (own_f2_0 i0)))).1 = T'.setFrames fs) → Steps p.tables e below (T0.setTop (mkF m 0 #[.val (.int i0)] [])) (T'.setFrames fs) := by
  have pre1 : ∀ target, Steps p.tables e below (T0.setTop (mkF m 1 #[.val (.int i0)] [(.int i0)])) target → Steps p.tables e below (T0.setTop (mkF m 0 #[.val (.int i0)] [])) target := by
    intro target kt
    show Steps p.tables e below (T0.setTop (mkF m 0 #[.val (.int i0)] [])) _
    refine XS.iloadN X0.here hx rfl (hb hby d2_0) rfl ?_
    exact kt
  by_cases hc1 : i0 < (0 : Int32)
  · refine ⟨T0, X0, e0, fun fs hr => ?_⟩
    have hv : (own_f2_0 i0) = (0 : Int32) := by unfold own_f2_0; rw [if_pos hc1]
    rw [hv] at hr
    refine pre1 _ ?_
    show Steps p.tables e below (T0.setTop (mkF m 1 #[.val (.int i0)] [(.int i0)])) _
    refine XS.ifYes X0.here hx rfl (pc0 := 1) (pc' := 10) rfl (hb hby d2_1) rfl ((if0 _ _).trans (tlt hc1).1) (by decide) (by decide) ?_
    show Steps p.tables e below (T0.setTop (mkF m 10 #[.val (.int i0)] [])) _
    refine XS.iconst X0.here hx rfl (hb hby d2_10) ?_
    show Steps p.tables e below (T0.setTop (mkF m 11 #[.val (.int i0)] [(.int (0 : Int32))])) _
    exact retN X0 hx (t := .boolean) hret (by simp) (hb hby d2_11) hr
  · have pre2 : ∀ target, Steps p.tables e below (T0.setTop (mkF m 7 #[.val (.int i0)] [(.int (1114111 : Int32)), (.int i0)])) target → Steps p.tables e below (T0.setTop (mkF m 0 #[.val (.int i0)] [])) target := by
      intro target kt
      refine pre1 target ?_
      show Steps p.tables e below (T0.setTop (mkF m 1 #[.val (.int i0)] [(.int i0)])) _
      refine XS.ifNo X0.here hx rfl (hb hby d2_1) rfl ((if0 _ _).trans (flt hc1).1) ?_
      show Steps p.tables e below (T0.setTop (mkF m 4 #[.val (.int i0)] [])) _
      refine XS.iloadN X0.here hx rfl (hb hby d2_4) rfl ?_
      show Steps p.tables e below (T0.setTop (mkF m 5 #[.val (.int i0)] [(.int i0)])) _
      refine X0.ldcInt hx hown (mvT hZ (hw _ (List.mem_of_getElem? (i := 8) rfl))) (g := (mkF m 5 #[.val (.int i0)] [(.int i0)])) rfl (hb hby d2_5) _ ?_
      exact kt
    by_cases hc7 : (1114111 : Int32) < i0
    · refine ⟨T0, X0, e0, fun fs hr => ?_⟩
      have hv : (own_f2_0 i0) = (0 : Int32) := by unfold own_f2_0; rw [if_neg hc1, if_pos hc7]
      rw [hv] at hr
      refine pre2 _ ?_
      show Steps p.tables e below (T0.setTop (mkF m 7 #[.val (.int i0)] [(.int (1114111 : Int32)), (.int i0)])) _
      refine XS.icmpNo X0.here hx rfl (hb hby d2_7) rfl (tlt hc7).2.2.2 ?_
      show Steps p.tables e below (T0.setTop (mkF m 10 #[.val (.int i0)] [])) _
      refine XS.iconst X0.here hx rfl (hb hby d2_10) ?_
      show Steps p.tables e below (T0.setTop (mkF m 11 #[.val (.int i0)] [(.int (0 : Int32))])) _
      exact retN X0 hx (t := .boolean) hret (by simp) (hb hby d2_11) hr
    · have pre3 : ∀ target, Steps p.tables e below (T0.setTop (mkF m 15 #[.val (.int i0)] [(.int (32 : Int32)), (.int i0)])) target → Steps p.tables e below (T0.setTop (mkF m 0 #[.val (.int i0)] [])) target := by
        intro target kt
        refine pre2 target ?_
        show Steps p.tables e below (T0.setTop (mkF m 7 #[.val (.int i0)] [(.int (1114111 : Int32)), (.int i0)])) _
        refine XS.icmpYes X0.here hx rfl (pc0 := 7) (pc' := 12) rfl (hb hby d2_7) rfl (flt hc7).2.2.2 (by decide) (by decide) ?_
        show Steps p.tables e below (T0.setTop (mkF m 12 #[.val (.int i0)] [])) _
        refine XS.iloadN X0.here hx rfl (hb hby d2_12) rfl ?_
        show Steps p.tables e below (T0.setTop (mkF m 13 #[.val (.int i0)] [(.int i0)])) _
        refine XS.bipush X0.here hx rfl (hb hby d2_13) ?_
        exact kt
      by_cases hc15 : i0 < (32 : Int32)
      · have pre4 : ∀ target, Steps p.tables e below (T0.setTop (mkF m 21 #[.val (.int i0)] [(.int (9 : Int32)), (.int i0)])) target → Steps p.tables e below (T0.setTop (mkF m 0 #[.val (.int i0)] [])) target := by
          intro target kt
          refine pre3 target ?_
          show Steps p.tables e below (T0.setTop (mkF m 15 #[.val (.int i0)] [(.int (32 : Int32)), (.int i0)])) _
          refine XS.icmpNo X0.here hx rfl (hb hby d2_15) rfl (tlt hc15).2.1 ?_
          show Steps p.tables e below (T0.setTop (mkF m 18 #[.val (.int i0)] [])) _
          refine XS.iloadN X0.here hx rfl (hb hby d2_18) rfl ?_
          show Steps p.tables e below (T0.setTop (mkF m 19 #[.val (.int i0)] [(.int i0)])) _
          refine XS.bipush X0.here hx rfl (hb hby d2_19) ?_
          exact kt
        by_cases hc21 : i0 = (9 : Int32)
        · refine ⟨T0, X0, e0, fun fs hr => ?_⟩
          have hv : (own_f2_0 i0) = (1 : Int32) := by unfold own_f2_0; rw [if_neg hc1, if_neg hc7, if_pos hc15, if_pos hc21]
          rw [hv] at hr
          refine pre4 _ ?_
          show Steps p.tables e below (T0.setTop (mkF m 21 #[.val (.int i0)] [(.int (9 : Int32)), (.int i0)])) _
          refine XS.icmpYes X0.here hx rfl (pc0 := 21) (pc' := 36) rfl (hb hby d2_21) rfl (teq hc21).1 (by decide) (by decide) ?_
          show Steps p.tables e below (T0.setTop (mkF m 36 #[.val (.int i0)] [])) _
          refine XS.iconst X0.here hx rfl (hb hby d2_36) ?_
          show Steps p.tables e below (T0.setTop (mkF m 37 #[.val (.int i0)] [(.int (1 : Int32))])) _
          refine XS.goto X0.here hx rfl (pc0 := 37) (pc' := 41) rfl (hb hby d2_37) (by decide) (by decide) ?_
          show Steps p.tables e below (T0.setTop (mkF m 41 #[.val (.int i0)] [(.int (1 : Int32))])) _
          exact retN X0 hx (t := .boolean) hret (by simp) (hb hby d2_41) hr
        · have pre5 : ∀ target, Steps p.tables e below (T0.setTop (mkF m 27 #[.val (.int i0)] [(.int (10 : Int32)), (.int i0)])) target → Steps p.tables e below (T0.setTop (mkF m 0 #[.val (.int i0)] [])) target := by
            intro target kt
            refine pre4 target ?_
            show Steps p.tables e below (T0.setTop (mkF m 21 #[.val (.int i0)] [(.int (9 : Int32)), (.int i0)])) _
            refine XS.icmpNo X0.here hx rfl (hb hby d2_21) rfl (feq hc21).1 ?_
            show Steps p.tables e below (T0.setTop (mkF m 24 #[.val (.int i0)] [])) _
            refine XS.iloadN X0.here hx rfl (hb hby d2_24) rfl ?_
            show Steps p.tables e below (T0.setTop (mkF m 25 #[.val (.int i0)] [(.int i0)])) _
            refine XS.bipush X0.here hx rfl (hb hby d2_25) ?_
            exact kt
          by_cases hc27 : i0 = (10 : Int32)
          · refine ⟨T0, X0, e0, fun fs hr => ?_⟩
            have hv : (own_f2_0 i0) = (1 : Int32) := by unfold own_f2_0; rw [if_neg hc1, if_neg hc7, if_pos hc15, if_neg hc21, if_pos hc27]
            rw [hv] at hr
            refine pre5 _ ?_
            show Steps p.tables e below (T0.setTop (mkF m 27 #[.val (.int i0)] [(.int (10 : Int32)), (.int i0)])) _
            refine XS.icmpYes X0.here hx rfl (pc0 := 27) (pc' := 36) rfl (hb hby d2_27) rfl (teq hc27).1 (by decide) (by decide) ?_
            show Steps p.tables e below (T0.setTop (mkF m 36 #[.val (.int i0)] [])) _
            refine XS.iconst X0.here hx rfl (hb hby d2_36) ?_
            show Steps p.tables e below (T0.setTop (mkF m 37 #[.val (.int i0)] [(.int (1 : Int32))])) _
            refine XS.goto X0.here hx rfl (pc0 := 37) (pc' := 41) rfl (hb hby d2_37) (by decide) (by decide) ?_
            show Steps p.tables e below (T0.setTop (mkF m 41 #[.val (.int i0)] [(.int (1 : Int32))])) _
            exact retN X0 hx (t := .boolean) hret (by simp) (hb hby d2_41) hr
          · have pre6 : ∀ target, Steps p.tables e below (T0.setTop (mkF m 33 #[.val (.int i0)] [(.int (13 : Int32)), (.int i0)])) target → Steps p.tables e below (T0.setTop (mkF m 0 #[.val (.int i0)] [])) target := by
              intro target kt
              refine pre5 target ?_
              show Steps p.tables e below (T0.setTop (mkF m 27 #[.val (.int i0)] [(.int (10 : Int32)), (.int i0)])) _
              refine XS.icmpNo X0.here hx rfl (hb hby d2_27) rfl (feq hc27).1 ?_
              show Steps p.tables e below (T0.setTop (mkF m 30 #[.val (.int i0)] [])) _
              refine XS.iloadN X0.here hx rfl (hb hby d2_30) rfl ?_
              show Steps p.tables e below (T0.setTop (mkF m 31 #[.val (.int i0)] [(.int i0)])) _
              refine XS.bipush X0.here hx rfl (hb hby d2_31) ?_
              exact kt
            by_cases hc33 : i0 = (13 : Int32)
            · refine ⟨T0, X0, e0, fun fs hr => ?_⟩
              have hv : (own_f2_0 i0) = (1 : Int32) := by unfold own_f2_0; rw [if_neg hc1, if_neg hc7, if_pos hc15, if_neg hc21, if_neg hc27, if_pos hc33]
              rw [hv] at hr
              refine pre6 _ ?_
              show Steps p.tables e below (T0.setTop (mkF m 33 #[.val (.int i0)] [(.int (13 : Int32)), (.int i0)])) _
              refine XS.icmpNo X0.here hx rfl (hb hby d2_33) rfl (teq hc33).2 ?_
              show Steps p.tables e below (T0.setTop (mkF m 36 #[.val (.int i0)] [])) _
              refine XS.iconst X0.here hx rfl (hb hby d2_36) ?_
              show Steps p.tables e below (T0.setTop (mkF m 37 #[.val (.int i0)] [(.int (1 : Int32))])) _
              refine XS.goto X0.here hx rfl (pc0 := 37) (pc' := 41) rfl (hb hby d2_37) (by decide) (by decide) ?_
              show Steps p.tables e below (T0.setTop (mkF m 41 #[.val (.int i0)] [(.int (1 : Int32))])) _
              exact retN X0 hx (t := .boolean) hret (by simp) (hb hby d2_41) hr
            · refine ⟨T0, X0, e0, fun fs hr => ?_⟩
              have hv : (own_f2_0 i0) = (0 : Int32) := by unfold own_f2_0; rw [if_neg hc1, if_neg hc7, if_pos hc15, if_neg hc21, if_neg hc27, if_neg hc33]
              rw [hv] at hr
              refine pre6 _ ?_
              show Steps p.tables e below (T0.setTop (mkF m 33 #[.val (.int i0)] [(.int (13 : Int32)), (.int i0)])) _
              refine XS.icmpYes X0.here hx rfl (pc0 := 33) (pc' := 40) rfl (hb hby d2_33) rfl (feq hc33).2 (by decide) (by decide) ?_
              show Steps p.tables e below (T0.setTop (mkF m 40 #[.val (.int i0)] [])) _
              refine XS.iconst X0.here hx rfl (hb hby d2_40) ?_
              show Steps p.tables e below (T0.setTop (mkF m 41 #[.val (.int i0)] [(.int (0 : Int32))])) _
              exact retN X0 hx (t := .boolean) hret (by simp) (hb hby d2_41) hr
      · have pre7 : ∀ target, Steps p.tables e below (T0.setTop (mkF m 45 #[.val (.int i0)] [(.int (55296 : Int32)), (.int i0)])) target → Steps p.tables e below (T0.setTop (mkF m 0 #[.val (.int i0)] [])) target := by
          intro target kt
          refine pre3 target ?_
          show Steps p.tables e below (T0.setTop (mkF m 15 #[.val (.int i0)] [(.int (32 : Int32)), (.int i0)])) _
          refine XS.icmpYes X0.here hx rfl (pc0 := 15) (pc' := 42) rfl (hb hby d2_15) rfl (flt hc15).2.1 (by decide) (by decide) ?_
          show Steps p.tables e below (T0.setTop (mkF m 42 #[.val (.int i0)] [])) _
          refine XS.iloadN X0.here hx rfl (hb hby d2_42) rfl ?_
          show Steps p.tables e below (T0.setTop (mkF m 43 #[.val (.int i0)] [(.int i0)])) _
          refine X0.ldcInt hx hown (mvT hZ (hw _ (List.mem_of_getElem? (i := 2) rfl))) (g := (mkF m 43 #[.val (.int i0)] [(.int i0)])) rfl (hb hby d2_43) _ ?_
          exact kt
        by_cases hc45 : i0 < (55296 : Int32)
        · have pre8 : ∀ target, Steps p.tables e below (T0.setTop (mkF m 56 #[.val (.int i0)] [])) target → Steps p.tables e below (T0.setTop (mkF m 0 #[.val (.int i0)] [])) target := by
            intro target kt
            refine pre7 target ?_
            show Steps p.tables e below (T0.setTop (mkF m 45 #[.val (.int i0)] [(.int (55296 : Int32)), (.int i0)])) _
            refine XS.icmpYes X0.here hx rfl (pc0 := 45) (pc' := 56) rfl (hb hby d2_45) rfl (tlt hc45).1 (by decide) (by decide) ?_
            exact kt
          obtain ⟨T9, X9, e9, st9⟩ := own_b2_56 hx hZ hw hby hml hown hret i0  X0 e0 hcl hsl  
          have hv : (own_f2_0 i0) = (own_f2_56 i0) := by unfold own_f2_0; rw [if_neg hc1, if_neg hc7, if_neg hc15, if_pos hc45]
          exact ⟨T9, X9, e9, fun fs hr => pre8 _ (st9 fs (by rw [hv] at hr; exact hr))⟩
        · have pre10 : ∀ target, Steps p.tables e below (T0.setTop (mkF m 51 #[.val (.int i0)] [(.int (57343 : Int32)), (.int i0)])) target → Steps p.tables e below (T0.setTop (mkF m 0 #[.val (.int i0)] [])) target := by
            intro target kt
            refine pre7 target ?_
            show Steps p.tables e below (T0.setTop (mkF m 45 #[.val (.int i0)] [(.int (55296 : Int32)), (.int i0)])) _
            refine XS.icmpNo X0.here hx rfl (hb hby d2_45) rfl (flt hc45).1 ?_
            show Steps p.tables e below (T0.setTop (mkF m 48 #[.val (.int i0)] [])) _
            refine XS.iloadN X0.here hx rfl (hb hby d2_48) rfl ?_
            show Steps p.tables e below (T0.setTop (mkF m 49 #[.val (.int i0)] [(.int i0)])) _
            refine X0.ldcInt hx hown (mvT hZ (hw _ (List.mem_of_getElem? (i := 3) rfl))) (g := (mkF m 49 #[.val (.int i0)] [(.int i0)])) rfl (hb hby d2_49) _ ?_
            exact kt
          by_cases hc51 : (57343 : Int32) < i0
          · have pre11 : ∀ target, Steps p.tables e below (T0.setTop (mkF m 56 #[.val (.int i0)] [])) target → Steps p.tables e below (T0.setTop (mkF m 0 #[.val (.int i0)] [])) target := by
              intro target kt
              refine pre10 target ?_
              show Steps p.tables e below (T0.setTop (mkF m 51 #[.val (.int i0)] [(.int (57343 : Int32)), (.int i0)])) _
              refine XS.icmpYes X0.here hx rfl (pc0 := 51) (pc' := 56) rfl (hb hby d2_51) rfl (tlt hc51).2.2.1 (by decide) (by decide) ?_
              exact kt
            obtain ⟨T12, X12, e12, st12⟩ := own_b2_56 hx hZ hw hby hml hown hret i0  X0 e0 hcl hsl  
            have hv : (own_f2_0 i0) = (own_f2_56 i0) := by unfold own_f2_0; rw [if_neg hc1, if_neg hc7, if_neg hc15, if_neg hc45, if_pos hc51]
            exact ⟨T12, X12, e12, fun fs hr => pre11 _ (st12 fs (by rw [hv] at hr; exact hr))⟩
          · refine ⟨T0, X0, e0, fun fs hr => ?_⟩
            have hv : (own_f2_0 i0) = (0 : Int32) := by unfold own_f2_0; rw [if_neg hc1, if_neg hc7, if_neg hc15, if_neg hc45, if_neg hc51]
            rw [hv] at hr
            refine pre10 _ ?_
            show Steps p.tables e below (T0.setTop (mkF m 51 #[.val (.int i0)] [(.int (57343 : Int32)), (.int i0)])) _
            refine XS.icmpNo X0.here hx rfl (hb hby d2_51) rfl (flt hc51).2.2.1 ?_
            show Steps p.tables e below (T0.setTop (mkF m 54 #[.val (.int i0)] [])) _
            refine XS.iconst X0.here hx rfl (hb hby d2_54) ?_
            show Steps p.tables e below (T0.setTop (mkF m 55 #[.val (.int i0)] [(.int (0 : Int32))])) _
            exact retN X0 hx (t := .boolean) hret (by simp) (hb hby d2_55) hr
def Q2 (Z : State) (i0 : Int32) (h0 : Heap) (n0 : Nat) (v : Option Value) (h : Heap) (L : List Loc) : Prop := v = some (.int (own_f2_0 i0)) ∧ L = [] ∧ h = h0
set_option maxRecDepth 65536 in
set_option maxHeartbeats 40000000 in
theorem rm2 (l : Launch) (Z : State) (a0_ : Array Value) (hw : ∀ d ∈ tables_1, d.before a0_ Z = true) (ws : List Jvm.Cond) (i0 : Int32) (h0 : Heap) (n0 : Nat) (Z0 : n0 ≤ h0.size)  :
    MetFree l (⟨"com/example/saho/saho/text/XmlCharsIsCharPinLaw", "ref", "(I)Z"⟩ : MethodName) (head1 (Jvm.Cond.code (⟨"com/example/saho/saho/text/XmlCharsIsCharPinLaw", "ref", "(I)Z"⟩ : MethodName) method_2_code 1 (some .boolean) :: ws) ({ frames := 0, cells := 0, slots := 0, locals := 0 } : Room)) (fun a U => a = #[(.int i0)] ∧ Z.Warmed39 U.vm ∧ U.heap = h0) (fun _ _ _ _ _ => True) (fun _ U o U' => ∃ v L, o = .returned v ∧ Q2 Z i0 h0 n0 v U'.heap L ∧ FrameEnd U o U' L ({ frames := 0, cells := 0, slots := 0, locals := 0 } : Room).cells ({ frames := 0, cells := 0, slots := 0, locals := 0 } : Room).slots) := by
  refine MetFree.of_bodySF (plainFor_of_name pn_2) hisR ?_
  intro p e s m args below meth c s₁ Bd hml0 hP hK
  obtain ⟨rfl, hZ, hh⟩ := hP
  have hx := Bd.exec
  have hby := Bd.bytes
  have hml : c.maxLocals = 1 := hml0
  have hown : s.vm.findClass "com/example/saho/saho/text/XmlCharsIsCharPinLaw" = some m.cls := findClass_of_methodNamed Bd.named
  have X0 : Stand p l e ({ frames := 0, cells := 0, slots := 0, locals := 0 } : Room) s m #[(.int i0)] below meth c s₁ [] 0 0 := Stand.of_body Bd
  have e0 : s₁.heap = h0 := by rw [← hh, Bd.state]; rfl
  obtain ⟨T', X', e', st'⟩ := own_b2_0 hx hZ hw hby hml hown Bd.returns  i0 X0 e0 (by decide) (by decide) 
  obtain ⟨fs, hr, hrun, hended, hW, hsame⟩ := X'.leave (v := some (.int (own_f2_0 i0))) (fun h => by rw [Bd.returns] at h; cases h)
  refine ⟨_, _, castTop (ef_2 m i0) (st' fs hr), hrun, hended, _, _, rfl, ?_, ⟨_, rfl⟩, hW, hsame.mono (by decide) (by decide)⟩
  exact ⟨rfl, rfl, e'⟩
theorem pn_0 : plainName "com/example/saho/saho/text/XmlCharsIsCharPinLaw" = true := by first | (simp [plainName, overriddenIn]; done) | decide +kernel
theorem pd_0_0 : parseMethodDescriptor "(I)Z" = some ⟨[.int], some .boolean⟩ := by decide +kernel
theorem ef_0 (m : MethodId) (i0 : Int32) (i1 : Int32) (i2 : Int32) : entryFrame m #[(.int i0), (.int i1), (.int i2)] maxLocals = mkF m 0 #[.val (.int i0), .val (.int i1), .val (.int i2), .unset, .unset, .unset] [] := by first | (simp [entryFrame, mkF, argsToLocals, Value.category, maxLocals]; done) | rfl
def own_f0_0 (i0 : Int32) (i1 : Int32) (i2 : Int32) : Int32 :=
  (if (own_f1_0 i0) = (own_f2_0 i0) then (if (own_f1_0 (((own_up (own_up (own_up (own_up (own_up (own_up (own_up (own_up (own_up (own_up (own_up (own_up (own_up (own_up (own_up (own_up (fun _ => 0) (0 : Int32).toNatClampNeg (0 : Int32)) (1 : Int32).toNatClampNeg (9 : Int32)) (2 : Int32).toNatClampNeg (10 : Int32)) (3 : Int32).toNatClampNeg (13 : Int32)) (4 : Int32).toNatClampNeg (32 : Int32)) (5 : Int32).toNatClampNeg (55295 : Int32)) (6 : Int32).toNatClampNeg (55296 : Int32)) (7 : Int32).toNatClampNeg (57343 : Int32)) (8 : Int32).toNatClampNeg (57344 : Int32)) (9 : Int32).toNatClampNeg (65533 : Int32)) (10 : Int32).toNatClampNeg (65535 : Int32)) (11 : Int32).toNatClampNeg (65536 : Int32)) (12 : Int32).toNatClampNeg (1114111 : Int32)) (13 : Int32).toNatClampNeg (1114112 : Int32)) (14 : Int32).toNatClampNeg (-2147483648 : Int32)) (15 : Int32).toNatClampNeg (2147483647 : Int32)) ((i1 &&& (2147483647 : Int32)) - ((i1 &&& (2147483647 : Int32)) / (16 : Int32)) * (16 : Int32)).toNatClampNeg) + (i2 - (i2 / (3 : Int32)) * (3 : Int32)))) = (own_f2_0 (((own_up (own_up (own_up (own_up (own_up (own_up (own_up (own_up (own_up (own_up (own_up (own_up (own_up (own_up (own_up (own_up (fun _ => 0) (0 : Int32).toNatClampNeg (0 : Int32)) (1 : Int32).toNatClampNeg (9 : Int32)) (2 : Int32).toNatClampNeg (10 : Int32)) (3 : Int32).toNatClampNeg (13 : Int32)) (4 : Int32).toNatClampNeg (32 : Int32)) (5 : Int32).toNatClampNeg (55295 : Int32)) (6 : Int32).toNatClampNeg (55296 : Int32)) (7 : Int32).toNatClampNeg (57343 : Int32)) (8 : Int32).toNatClampNeg (57344 : Int32)) (9 : Int32).toNatClampNeg (65533 : Int32)) (10 : Int32).toNatClampNeg (65535 : Int32)) (11 : Int32).toNatClampNeg (65536 : Int32)) (12 : Int32).toNatClampNeg (1114111 : Int32)) (13 : Int32).toNatClampNeg (1114112 : Int32)) (14 : Int32).toNatClampNeg (-2147483648 : Int32)) (15 : Int32).toNatClampNeg (2147483647 : Int32)) ((i1 &&& (2147483647 : Int32)) - ((i1 &&& (2147483647 : Int32)) / (16 : Int32)) * (16 : Int32)).toNatClampNeg) + (i2 - (i2 / (3 : Int32)) * (3 : Int32)))) then (1 : Int32) else (0 : Int32)) else (0 : Int32))
set_option maxRecDepth 65536 in
set_option maxHeartbeats 40000000 in
theorem own_b0_0 {p : Program} {l : Launch} {e : Env} {s : State} {m : MethodId} {args : Array Value} {below : List Frame} {meth : Method} {c : Code} {Z : State} {a0_ : Array Value} {n0 : Nat} (hx : p.tables.exec = Jvm.exec) (hZ : Z.Warmed39 s.vm) (hw : ∀ d ∈ tables_1, d.before a0_ Z = true) (hby : c.code = code) (hml : c.maxLocals = 6) (hown : s.vm.findClass "com/example/saho/saho/text/XmlCharsIsCharPinLaw" = some m.cls) (hret : meth.sig.returnType = some .boolean) {T0 : State} {locs : List Loc} {h0 : Heap} (i0 : Int32) (i1 : Int32) (i2 : Int32)
    (X0 : Stand p l e room_1 s m args below meth c T0 locs 0 0) (e0 : T0.heap = h0) (N0 : Fr n0 locs) (Z0 : n0 ≤ h0.size)  :
    ∃ T' locs' cells' slots', Stand p l e room_1 s m args below meth c T' locs' cells' slots' ∧ Fr n0 locs' ∧ cells' ≤ room_1.cells ∧ slots' ≤ room_1.slots ∧ ∀ fs, (∀ (f : JFrame) (acts : List Action), f.method = m → f.locked = none → f.entered = [] → (doReturn e (T'.setTop f) acts (some (.int (own_f0_0 i0 i1 i2)))).1 = T'.setFrames fs) → Steps p.tables e below (T0.setTop (mkF m 0 #[.val (.int i0), .val (.int i1), .val (.int i2), .unset, .unset, .unset] [])) (T'.setFrames fs) := by
  obtain ⟨T1, h1, k1, X1, e1, E1, A1, st1⟩ := newP X0 hx hZ (hw _ (List.mem_of_getElem? (i := 0) rfl)) e0 (g := (mkF m 2 #[.val (.int i0), .val (.int i1), .val (.int i2), .unset, .unset, .unset] [(.int (16 : Int32))])) rfl (hb hby at_2) rfl (by decide) (cap := 16) (by decide) (by decide) (by decide) (by decide)
  obtain ⟨b1, g1⟩ : ∃ z, z = h0.size := ⟨_, rfl⟩
  rw [← g1] at A1 st1
  have g_b1 : n0 ≤ b1 := Nat.le_trans Z0 (Nat.le_of_eq g1.symm)
  have Z1 : n0 ≤ h1.size := Nat.le_trans Z0 E1.1
  have V_b1 : own_Ar Z h1 b1 .int (16 : Int32) (fun _ => 0) := own_Ar.new A1 (by decide) rfl
  obtain ⟨T2, h2, X2, e2, W2, V2, st2⟩ := own_stI X1 hx hZ e1 V_b1 ⟨by decide, by decide⟩ (g := (mkF m 7 #[.val (.int i0), .val (.int i1), .val (.int i2), .unset, .unset, .unset] [(.int (0 : Int32)), (.int (0 : Int32)), (.ref b1), (.ref b1)])) rfl rfl (hb hby at_7)
  have N2 := Fr.snoc X2 N0 g_b1
  have Z2 : n0 ≤ h2.size := Nat.le_trans Z1 (Keep.of_wr W2).1
  have V_b1_k2 := V2
  obtain ⟨T3, h3, X3, e3, W3, V3, st3⟩ := own_stI X2 hx hZ e2 V_b1_k2 ⟨by decide, by decide⟩ (g := (mkF m 12 #[.val (.int i0), .val (.int i1), .val (.int i2), .unset, .unset, .unset] [(.int (9 : Int32)), (.int (1 : Int32)), (.ref b1), (.ref b1)])) rfl rfl (hb hby at_12)
  have N3 := Fr.snoc X3 N2 g_b1
  have Z3 : n0 ≤ h3.size := Nat.le_trans Z2 (Keep.of_wr W3).1
  have V_b1_k3 := V3
  obtain ⟨T4, h4, X4, e4, W4, V4, st4⟩ := own_stI X3 hx hZ e3 V_b1_k3 ⟨by decide, by decide⟩ (g := (mkF m 17 #[.val (.int i0), .val (.int i1), .val (.int i2), .unset, .unset, .unset] [(.int (10 : Int32)), (.int (2 : Int32)), (.ref b1), (.ref b1)])) rfl rfl (hb hby at_17)
  have N4 := Fr.snoc X4 N3 g_b1
  have Z4 : n0 ≤ h4.size := Nat.le_trans Z3 (Keep.of_wr W4).1
  have V_b1_k4 := V4
  obtain ⟨T5, h5, X5, e5, W5, V5, st5⟩ := own_stI X4 hx hZ e4 V_b1_k4 ⟨by decide, by decide⟩ (g := (mkF m 22 #[.val (.int i0), .val (.int i1), .val (.int i2), .unset, .unset, .unset] [(.int (13 : Int32)), (.int (3 : Int32)), (.ref b1), (.ref b1)])) rfl rfl (hb hby at_22)
  have N5 := Fr.snoc X5 N4 g_b1
  have Z5 : n0 ≤ h5.size := Nat.le_trans Z4 (Keep.of_wr W5).1
  have V_b1_k5 := V5
  obtain ⟨T6, h6, X6, e6, W6, V6, st6⟩ := own_stI X5 hx hZ e5 V_b1_k5 ⟨by decide, by decide⟩ (g := (mkF m 27 #[.val (.int i0), .val (.int i1), .val (.int i2), .unset, .unset, .unset] [(.int (32 : Int32)), (.int (4 : Int32)), (.ref b1), (.ref b1)])) rfl rfl (hb hby at_27)
  have N6 := Fr.snoc X6 N5 g_b1
  have Z6 : n0 ≤ h6.size := Nat.le_trans Z5 (Keep.of_wr W6).1
  have V_b1_k6 := V6
  obtain ⟨T7, h7, X7, e7, W7, V7, st7⟩ := own_stI X6 hx hZ e6 V_b1_k6 ⟨by decide, by decide⟩ (g := (mkF m 32 #[.val (.int i0), .val (.int i1), .val (.int i2), .unset, .unset, .unset] [(.int (55295 : Int32)), (.int (5 : Int32)), (.ref b1), (.ref b1)])) rfl rfl (hb hby at_32)
  have N7 := Fr.snoc X7 N6 g_b1
  have Z7 : n0 ≤ h7.size := Nat.le_trans Z6 (Keep.of_wr W7).1
  have V_b1_k7 := V7
  obtain ⟨T8, h8, X8, e8, W8, V8, st8⟩ := own_stI X7 hx hZ e7 V_b1_k7 ⟨by decide, by decide⟩ (g := (mkF m 38 #[.val (.int i0), .val (.int i1), .val (.int i2), .unset, .unset, .unset] [(.int (55296 : Int32)), (.int (6 : Int32)), (.ref b1), (.ref b1)])) rfl rfl (hb hby at_38)
  have N8 := Fr.snoc X8 N7 g_b1
  have Z8 : n0 ≤ h8.size := Nat.le_trans Z7 (Keep.of_wr W8).1
  have V_b1_k8 := V8
  obtain ⟨T9, h9, X9, e9, W9, V9, st9⟩ := own_stI X8 hx hZ e8 V_b1_k8 ⟨by decide, by decide⟩ (g := (mkF m 44 #[.val (.int i0), .val (.int i1), .val (.int i2), .unset, .unset, .unset] [(.int (57343 : Int32)), (.int (7 : Int32)), (.ref b1), (.ref b1)])) rfl rfl (hb hby at_44)
  have N9 := Fr.snoc X9 N8 g_b1
  have Z9 : n0 ≤ h9.size := Nat.le_trans Z8 (Keep.of_wr W9).1
  have V_b1_k9 := V9
  obtain ⟨T10, h10, X10, e10, W10, V10, st10⟩ := own_stI X9 hx hZ e9 V_b1_k9 ⟨by decide, by decide⟩ (g := (mkF m 50 #[.val (.int i0), .val (.int i1), .val (.int i2), .unset, .unset, .unset] [(.int (57344 : Int32)), (.int (8 : Int32)), (.ref b1), (.ref b1)])) rfl rfl (hb hby at_50)
  have N10 := Fr.snoc X10 N9 g_b1
  have Z10 : n0 ≤ h10.size := Nat.le_trans Z9 (Keep.of_wr W10).1
  have V_b1_k10 := V10
  obtain ⟨T11, h11, X11, e11, W11, V11, st11⟩ := own_stI X10 hx hZ e10 V_b1_k10 ⟨by decide, by decide⟩ (g := (mkF m 56 #[.val (.int i0), .val (.int i1), .val (.int i2), .unset, .unset, .unset] [(.int (65533 : Int32)), (.int (9 : Int32)), (.ref b1), (.ref b1)])) rfl rfl (hb hby at_56)
  have N11 := Fr.snoc X11 N10 g_b1
  have Z11 : n0 ≤ h11.size := Nat.le_trans Z10 (Keep.of_wr W11).1
  have V_b1_k11 := V11
  obtain ⟨T12, h12, X12, e12, W12, V12, st12⟩ := own_stI X11 hx hZ e11 V_b1_k11 ⟨by decide, by decide⟩ (g := (mkF m 62 #[.val (.int i0), .val (.int i1), .val (.int i2), .unset, .unset, .unset] [(.int (65535 : Int32)), (.int (10 : Int32)), (.ref b1), (.ref b1)])) rfl rfl (hb hby at_62)
  have N12 := Fr.snoc X12 N11 g_b1
  have Z12 : n0 ≤ h12.size := Nat.le_trans Z11 (Keep.of_wr W12).1
  have V_b1_k12 := V12
  obtain ⟨T13, h13, X13, e13, W13, V13, st13⟩ := own_stI X12 hx hZ e12 V_b1_k12 ⟨by decide, by decide⟩ (g := (mkF m 68 #[.val (.int i0), .val (.int i1), .val (.int i2), .unset, .unset, .unset] [(.int (65536 : Int32)), (.int (11 : Int32)), (.ref b1), (.ref b1)])) rfl rfl (hb hby at_68)
  have N13 := Fr.snoc X13 N12 g_b1
  have Z13 : n0 ≤ h13.size := Nat.le_trans Z12 (Keep.of_wr W13).1
  have V_b1_k13 := V13
  obtain ⟨T14, h14, X14, e14, W14, V14, st14⟩ := own_stI X13 hx hZ e13 V_b1_k13 ⟨by decide, by decide⟩ (g := (mkF m 74 #[.val (.int i0), .val (.int i1), .val (.int i2), .unset, .unset, .unset] [(.int (1114111 : Int32)), (.int (12 : Int32)), (.ref b1), (.ref b1)])) rfl rfl (hb hby at_74)
  have N14 := Fr.snoc X14 N13 g_b1
  have Z14 : n0 ≤ h14.size := Nat.le_trans Z13 (Keep.of_wr W14).1
  have V_b1_k14 := V14
  obtain ⟨T15, h15, X15, e15, W15, V15, st15⟩ := own_stI X14 hx hZ e14 V_b1_k14 ⟨by decide, by decide⟩ (g := (mkF m 80 #[.val (.int i0), .val (.int i1), .val (.int i2), .unset, .unset, .unset] [(.int (1114112 : Int32)), (.int (13 : Int32)), (.ref b1), (.ref b1)])) rfl rfl (hb hby at_80)
  have N15 := Fr.snoc X15 N14 g_b1
  have Z15 : n0 ≤ h15.size := Nat.le_trans Z14 (Keep.of_wr W15).1
  have V_b1_k15 := V15
  obtain ⟨T16, h16, X16, e16, W16, V16, st16⟩ := own_stI X15 hx hZ e15 V_b1_k15 ⟨by decide, by decide⟩ (g := (mkF m 86 #[.val (.int i0), .val (.int i1), .val (.int i2), .unset, .unset, .unset] [(.int (-2147483648 : Int32)), (.int (14 : Int32)), (.ref b1), (.ref b1)])) rfl rfl (hb hby at_86)
  have N16 := Fr.snoc X16 N15 g_b1
  have Z16 : n0 ≤ h16.size := Nat.le_trans Z15 (Keep.of_wr W16).1
  have V_b1_k16 := V16
  obtain ⟨T17, h17, X17, e17, W17, V17, st17⟩ := own_stI X16 hx hZ e16 V_b1_k16 ⟨by decide, by decide⟩ (g := (mkF m 92 #[.val (.int i0), .val (.int i1), .val (.int i2), .unset, .unset, .unset] [(.int (2147483647 : Int32)), (.int (15 : Int32)), (.ref b1), (.ref b1)])) rfl rfl (hb hby at_92)
  have N17 := Fr.snoc X17 N16 g_b1
  have Z17 : n0 ≤ h17.size := Nat.le_trans Z16 (Keep.of_wr W17).1
  have V_b1_k17 := V17
  have hix102 : ¬ ((i1 &&& (2147483647 : Int32)) - ((i1 &&& (2147483647 : Int32)) / (16 : Int32)) * (16 : Int32)) < 0 ∧ ((i1 &&& (2147483647 : Int32)) - ((i1 &&& (2147483647 : Int32)) / (16 : Int32)) * (16 : Int32)) < (16 : Int32) := by exact own_ix _
  obtain ⟨_, _, ⟨T18, L18, k18, n18⟩, -, X18, ⟨Lc18, hQ18, l18, y18, z18⟩, st18⟩ := Jvm.LawKit.callS X17 hx (y := (⟨"com/example/saho/saho/text/XmlChars", "isChar", "(I)Z"⟩ : MethodName)) hown (mvT hZ (hw _ (List.mem_of_getElem? (i := 12) rfl))) (mvT hZ (hw _ (List.mem_of_getElem? (i := 13) rfl))) (mvT hZ (hw _ (List.mem_of_getElem? (i := 14) rfl))) (mvT hZ (hw _ (List.mem_of_getElem? (i := 15) rfl))) (by decide) (backOf (W := 0) (rm1 l Z a0_ hw [] i0  h17 n0 Z17 ) hZ (hw _ (List.mem_of_getElem? (i := 15) rfl)) (hw _ (List.mem_of_getElem? (i := 14) rfl)) (by decide) (by decide)) (g := (mkF m 114 #[.val (.int i0), .val (.int i1), .val (.int i2), .val (.ref b1), .val (.int ((own_up (own_up (own_up (own_up (own_up (own_up (own_up (own_up (own_up (own_up (own_up (own_up (own_up (own_up (own_up (own_up (fun _ => 0) (0 : Int32).toNatClampNeg (0 : Int32)) (1 : Int32).toNatClampNeg (9 : Int32)) (2 : Int32).toNatClampNeg (10 : Int32)) (3 : Int32).toNatClampNeg (13 : Int32)) (4 : Int32).toNatClampNeg (32 : Int32)) (5 : Int32).toNatClampNeg (55295 : Int32)) (6 : Int32).toNatClampNeg (55296 : Int32)) (7 : Int32).toNatClampNeg (57343 : Int32)) (8 : Int32).toNatClampNeg (57344 : Int32)) (9 : Int32).toNatClampNeg (65533 : Int32)) (10 : Int32).toNatClampNeg (65535 : Int32)) (11 : Int32).toNatClampNeg (65536 : Int32)) (12 : Int32).toNatClampNeg (1114111 : Int32)) (13 : Int32).toNatClampNeg (1114112 : Int32)) (14 : Int32).toNatClampNeg (-2147483648 : Int32)) (15 : Int32).toNatClampNeg (2147483647 : Int32)) ((i1 &&& (2147483647 : Int32)) - ((i1 &&& (2147483647 : Int32)) / (16 : Int32)) * (16 : Int32)).toNatClampNeg)), .val (.int (((own_up (own_up (own_up (own_up (own_up (own_up (own_up (own_up (own_up (own_up (own_up (own_up (own_up (own_up (own_up (own_up (fun _ => 0) (0 : Int32).toNatClampNeg (0 : Int32)) (1 : Int32).toNatClampNeg (9 : Int32)) (2 : Int32).toNatClampNeg (10 : Int32)) (3 : Int32).toNatClampNeg (13 : Int32)) (4 : Int32).toNatClampNeg (32 : Int32)) (5 : Int32).toNatClampNeg (55295 : Int32)) (6 : Int32).toNatClampNeg (55296 : Int32)) (7 : Int32).toNatClampNeg (57343 : Int32)) (8 : Int32).toNatClampNeg (57344 : Int32)) (9 : Int32).toNatClampNeg (65533 : Int32)) (10 : Int32).toNatClampNeg (65535 : Int32)) (11 : Int32).toNatClampNeg (65536 : Int32)) (12 : Int32).toNatClampNeg (1114111 : Int32)) (13 : Int32).toNatClampNeg (1114112 : Int32)) (14 : Int32).toNatClampNeg (-2147483648 : Int32)) (15 : Int32).toNatClampNeg (2147483647 : Int32)) ((i1 &&& (2147483647 : Int32)) - ((i1 &&& (2147483647 : Int32)) / (16 : Int32)) * (16 : Int32)).toNatClampNeg) + (i2 - (i2 / (3 : Int32)) * (3 : Int32))))] [(.int i0)])) rfl (by rw [hml]; rfl) (argsL := [(.int i0)]) (rest := []) (lenOf pd_0_0 rfl) rfl (by show 2 * 0 + _ ≤ _; exact Nat.le_of_eq rfl) (hb hby at_114) (fun _ _ => ⟨rfl, e17, (by decide : 1 + 0 ≤ room_1.cells), (by decide : 16 + 0 ≤ room_1.slots)⟩)
  dsimp only [Pt.U, Pt.locs, Pt.cells, Pt.slots] at X18 l18 y18 z18 st18 hQ18
  subst l18 y18 z18
  obtain ⟨rfl, rfl, e18⟩ := hQ18
  rw [List.append_nil] at X18
  obtain ⟨_, _, ⟨T19, L19, k19, n19⟩, -, X19, ⟨Lc19, hQ19, l19, y19, z19⟩, st19⟩ := Jvm.LawKit.callS X18 hx (y := (⟨"com/example/saho/saho/text/XmlCharsIsCharPinLaw", "ref", "(I)Z"⟩ : MethodName)) hown (mvT hZ (hw _ (List.mem_of_getElem? (i := 18) rfl))) (mvT hZ (hw _ (List.mem_of_getElem? (i := 19) rfl))) (mvT hZ (hw _ (List.mem_of_getElem? (i := 20) rfl))) (mvT hZ (hw _ (List.mem_of_getElem? (i := 21) rfl))) (by decide) (backOf (W := 1) (rm2 l Z a0_ hw [] i0  h17 n0 Z17 ) hZ (hw _ (List.mem_of_getElem? (i := 21) rfl)) (hw _ (List.mem_of_getElem? (i := 20) rfl)) (by decide) (by decide)) (g := (mkF m 118 #[.val (.int i0), .val (.int i1), .val (.int i2), .val (.ref b1), .val (.int ((own_up (own_up (own_up (own_up (own_up (own_up (own_up (own_up (own_up (own_up (own_up (own_up (own_up (own_up (own_up (own_up (fun _ => 0) (0 : Int32).toNatClampNeg (0 : Int32)) (1 : Int32).toNatClampNeg (9 : Int32)) (2 : Int32).toNatClampNeg (10 : Int32)) (3 : Int32).toNatClampNeg (13 : Int32)) (4 : Int32).toNatClampNeg (32 : Int32)) (5 : Int32).toNatClampNeg (55295 : Int32)) (6 : Int32).toNatClampNeg (55296 : Int32)) (7 : Int32).toNatClampNeg (57343 : Int32)) (8 : Int32).toNatClampNeg (57344 : Int32)) (9 : Int32).toNatClampNeg (65533 : Int32)) (10 : Int32).toNatClampNeg (65535 : Int32)) (11 : Int32).toNatClampNeg (65536 : Int32)) (12 : Int32).toNatClampNeg (1114111 : Int32)) (13 : Int32).toNatClampNeg (1114112 : Int32)) (14 : Int32).toNatClampNeg (-2147483648 : Int32)) (15 : Int32).toNatClampNeg (2147483647 : Int32)) ((i1 &&& (2147483647 : Int32)) - ((i1 &&& (2147483647 : Int32)) / (16 : Int32)) * (16 : Int32)).toNatClampNeg)), .val (.int (((own_up (own_up (own_up (own_up (own_up (own_up (own_up (own_up (own_up (own_up (own_up (own_up (own_up (own_up (own_up (own_up (fun _ => 0) (0 : Int32).toNatClampNeg (0 : Int32)) (1 : Int32).toNatClampNeg (9 : Int32)) (2 : Int32).toNatClampNeg (10 : Int32)) (3 : Int32).toNatClampNeg (13 : Int32)) (4 : Int32).toNatClampNeg (32 : Int32)) (5 : Int32).toNatClampNeg (55295 : Int32)) (6 : Int32).toNatClampNeg (55296 : Int32)) (7 : Int32).toNatClampNeg (57343 : Int32)) (8 : Int32).toNatClampNeg (57344 : Int32)) (9 : Int32).toNatClampNeg (65533 : Int32)) (10 : Int32).toNatClampNeg (65535 : Int32)) (11 : Int32).toNatClampNeg (65536 : Int32)) (12 : Int32).toNatClampNeg (1114111 : Int32)) (13 : Int32).toNatClampNeg (1114112 : Int32)) (14 : Int32).toNatClampNeg (-2147483648 : Int32)) (15 : Int32).toNatClampNeg (2147483647 : Int32)) ((i1 &&& (2147483647 : Int32)) - ((i1 &&& (2147483647 : Int32)) / (16 : Int32)) * (16 : Int32)).toNatClampNeg) + (i2 - (i2 / (3 : Int32)) * (3 : Int32))))] [(.int i0), (.int (own_f1_0 i0))])) rfl (by rw [hml]; rfl) (argsL := [(.int i0)]) (rest := [(.int (own_f1_0 i0))]) (lenOf pd_0_0 rfl) rfl (by show 2 * 0 + _ ≤ _; exact Nat.le_of_eq rfl) (hb hby at_118) (fun _ _ => ⟨rfl, e18, (by decide : 1 + 0 ≤ room_1.cells), (by decide : 16 + 0 ≤ room_1.slots)⟩)
  dsimp only [Pt.U, Pt.locs, Pt.cells, Pt.slots] at X19 l19 y19 z19 st19 hQ19
  subst l19 y19 z19
  obtain ⟨rfl, rfl, e19⟩ := hQ19
  rw [List.append_nil] at X19
  have pre20 : ∀ target, Steps p.tables e below (T19.setTop (mkF m 121 #[.val (.int i0), .val (.int i1), .val (.int i2), .val (.ref b1), .val (.int ((own_up (own_up (own_up (own_up (own_up (own_up (own_up (own_up (own_up (own_up (own_up (own_up (own_up (own_up (own_up (own_up (fun _ => 0) (0 : Int32).toNatClampNeg (0 : Int32)) (1 : Int32).toNatClampNeg (9 : Int32)) (2 : Int32).toNatClampNeg (10 : Int32)) (3 : Int32).toNatClampNeg (13 : Int32)) (4 : Int32).toNatClampNeg (32 : Int32)) (5 : Int32).toNatClampNeg (55295 : Int32)) (6 : Int32).toNatClampNeg (55296 : Int32)) (7 : Int32).toNatClampNeg (57343 : Int32)) (8 : Int32).toNatClampNeg (57344 : Int32)) (9 : Int32).toNatClampNeg (65533 : Int32)) (10 : Int32).toNatClampNeg (65535 : Int32)) (11 : Int32).toNatClampNeg (65536 : Int32)) (12 : Int32).toNatClampNeg (1114111 : Int32)) (13 : Int32).toNatClampNeg (1114112 : Int32)) (14 : Int32).toNatClampNeg (-2147483648 : Int32)) (15 : Int32).toNatClampNeg (2147483647 : Int32)) ((i1 &&& (2147483647 : Int32)) - ((i1 &&& (2147483647 : Int32)) / (16 : Int32)) * (16 : Int32)).toNatClampNeg)), .val (.int (((own_up (own_up (own_up (own_up (own_up (own_up (own_up (own_up (own_up (own_up (own_up (own_up (own_up (own_up (own_up (own_up (fun _ => 0) (0 : Int32).toNatClampNeg (0 : Int32)) (1 : Int32).toNatClampNeg (9 : Int32)) (2 : Int32).toNatClampNeg (10 : Int32)) (3 : Int32).toNatClampNeg (13 : Int32)) (4 : Int32).toNatClampNeg (32 : Int32)) (5 : Int32).toNatClampNeg (55295 : Int32)) (6 : Int32).toNatClampNeg (55296 : Int32)) (7 : Int32).toNatClampNeg (57343 : Int32)) (8 : Int32).toNatClampNeg (57344 : Int32)) (9 : Int32).toNatClampNeg (65533 : Int32)) (10 : Int32).toNatClampNeg (65535 : Int32)) (11 : Int32).toNatClampNeg (65536 : Int32)) (12 : Int32).toNatClampNeg (1114111 : Int32)) (13 : Int32).toNatClampNeg (1114112 : Int32)) (14 : Int32).toNatClampNeg (-2147483648 : Int32)) (15 : Int32).toNatClampNeg (2147483647 : Int32)) ((i1 &&& (2147483647 : Int32)) - ((i1 &&& (2147483647 : Int32)) / (16 : Int32)) * (16 : Int32)).toNatClampNeg) + (i2 - (i2 / (3 : Int32)) * (3 : Int32))))] [(.int (own_f2_0 i0)), (.int (own_f1_0 i0))])) target → Steps p.tables e below (T0.setTop (mkF m 0 #[.val (.int i0), .val (.int i1), .val (.int i2), .unset, .unset, .unset] [])) target := by
    intro target kt
    show Steps p.tables e below (T0.setTop (mkF m 0 #[.val (.int i0), .val (.int i1), .val (.int i2), .unset, .unset, .unset] [])) _
    refine XS.bipush X0.here hx rfl (hb hby at_0) ?_
    show Steps p.tables e below (T0.setTop (mkF m 2 #[.val (.int i0), .val (.int i1), .val (.int i2), .unset, .unset, .unset] [(.int (16 : Int32))])) _
    refine st1 _ ?_
    show Steps p.tables e below (T1.setTop (mkF m 4 #[.val (.int i0), .val (.int i1), .val (.int i2), .unset, .unset, .unset] [(.ref b1)])) _
    refine XS.dup X1.here hx rfl (hb hby at_4) rfl rfl ?_
    show Steps p.tables e below (T1.setTop (mkF m 5 #[.val (.int i0), .val (.int i1), .val (.int i2), .unset, .unset, .unset] [(.ref b1), (.ref b1)])) _
    refine XS.iconst X1.here hx rfl (hb hby at_5) ?_
    show Steps p.tables e below (T1.setTop (mkF m 6 #[.val (.int i0), .val (.int i1), .val (.int i2), .unset, .unset, .unset] [(.int (0 : Int32)), (.ref b1), (.ref b1)])) _
    refine XS.iconst X1.here hx rfl (hb hby at_6) ?_
    show Steps p.tables e below (T1.setTop (mkF m 7 #[.val (.int i0), .val (.int i1), .val (.int i2), .unset, .unset, .unset] [(.int (0 : Int32)), (.int (0 : Int32)), (.ref b1), (.ref b1)])) _
    refine st2 _ ?_
    show Steps p.tables e below (T2.setTop (mkF m 8 #[.val (.int i0), .val (.int i1), .val (.int i2), .unset, .unset, .unset] [(.ref b1)])) _
    refine XS.dup X2.here hx rfl (hb hby at_8) rfl rfl ?_
    show Steps p.tables e below (T2.setTop (mkF m 9 #[.val (.int i0), .val (.int i1), .val (.int i2), .unset, .unset, .unset] [(.ref b1), (.ref b1)])) _
    refine XS.iconst X2.here hx rfl (hb hby at_9) ?_
    show Steps p.tables e below (T2.setTop (mkF m 10 #[.val (.int i0), .val (.int i1), .val (.int i2), .unset, .unset, .unset] [(.int (1 : Int32)), (.ref b1), (.ref b1)])) _
    refine XS.bipush X2.here hx rfl (hb hby at_10) ?_
    show Steps p.tables e below (T2.setTop (mkF m 12 #[.val (.int i0), .val (.int i1), .val (.int i2), .unset, .unset, .unset] [(.int (9 : Int32)), (.int (1 : Int32)), (.ref b1), (.ref b1)])) _
    refine st3 _ ?_
    show Steps p.tables e below (T3.setTop (mkF m 13 #[.val (.int i0), .val (.int i1), .val (.int i2), .unset, .unset, .unset] [(.ref b1)])) _
    refine XS.dup X3.here hx rfl (hb hby at_13) rfl rfl ?_
    show Steps p.tables e below (T3.setTop (mkF m 14 #[.val (.int i0), .val (.int i1), .val (.int i2), .unset, .unset, .unset] [(.ref b1), (.ref b1)])) _
    refine XS.iconst X3.here hx rfl (hb hby at_14) ?_
    show Steps p.tables e below (T3.setTop (mkF m 15 #[.val (.int i0), .val (.int i1), .val (.int i2), .unset, .unset, .unset] [(.int (2 : Int32)), (.ref b1), (.ref b1)])) _
    refine XS.bipush X3.here hx rfl (hb hby at_15) ?_
    show Steps p.tables e below (T3.setTop (mkF m 17 #[.val (.int i0), .val (.int i1), .val (.int i2), .unset, .unset, .unset] [(.int (10 : Int32)), (.int (2 : Int32)), (.ref b1), (.ref b1)])) _
    refine st4 _ ?_
    show Steps p.tables e below (T4.setTop (mkF m 18 #[.val (.int i0), .val (.int i1), .val (.int i2), .unset, .unset, .unset] [(.ref b1)])) _
    refine XS.dup X4.here hx rfl (hb hby at_18) rfl rfl ?_
    show Steps p.tables e below (T4.setTop (mkF m 19 #[.val (.int i0), .val (.int i1), .val (.int i2), .unset, .unset, .unset] [(.ref b1), (.ref b1)])) _
    refine XS.iconst X4.here hx rfl (hb hby at_19) ?_
    show Steps p.tables e below (T4.setTop (mkF m 20 #[.val (.int i0), .val (.int i1), .val (.int i2), .unset, .unset, .unset] [(.int (3 : Int32)), (.ref b1), (.ref b1)])) _
    refine XS.bipush X4.here hx rfl (hb hby at_20) ?_
    show Steps p.tables e below (T4.setTop (mkF m 22 #[.val (.int i0), .val (.int i1), .val (.int i2), .unset, .unset, .unset] [(.int (13 : Int32)), (.int (3 : Int32)), (.ref b1), (.ref b1)])) _
    refine st5 _ ?_
    show Steps p.tables e below (T5.setTop (mkF m 23 #[.val (.int i0), .val (.int i1), .val (.int i2), .unset, .unset, .unset] [(.ref b1)])) _
    refine XS.dup X5.here hx rfl (hb hby at_23) rfl rfl ?_
    show Steps p.tables e below (T5.setTop (mkF m 24 #[.val (.int i0), .val (.int i1), .val (.int i2), .unset, .unset, .unset] [(.ref b1), (.ref b1)])) _
    refine XS.iconst X5.here hx rfl (hb hby at_24) ?_
    show Steps p.tables e below (T5.setTop (mkF m 25 #[.val (.int i0), .val (.int i1), .val (.int i2), .unset, .unset, .unset] [(.int (4 : Int32)), (.ref b1), (.ref b1)])) _
    refine XS.bipush X5.here hx rfl (hb hby at_25) ?_
    show Steps p.tables e below (T5.setTop (mkF m 27 #[.val (.int i0), .val (.int i1), .val (.int i2), .unset, .unset, .unset] [(.int (32 : Int32)), (.int (4 : Int32)), (.ref b1), (.ref b1)])) _
    refine st6 _ ?_
    show Steps p.tables e below (T6.setTop (mkF m 28 #[.val (.int i0), .val (.int i1), .val (.int i2), .unset, .unset, .unset] [(.ref b1)])) _
    refine XS.dup X6.here hx rfl (hb hby at_28) rfl rfl ?_
    show Steps p.tables e below (T6.setTop (mkF m 29 #[.val (.int i0), .val (.int i1), .val (.int i2), .unset, .unset, .unset] [(.ref b1), (.ref b1)])) _
    refine XS.iconst X6.here hx rfl (hb hby at_29) ?_
    show Steps p.tables e below (T6.setTop (mkF m 30 #[.val (.int i0), .val (.int i1), .val (.int i2), .unset, .unset, .unset] [(.int (5 : Int32)), (.ref b1), (.ref b1)])) _
    refine X6.ldcInt hx hown (mvT hZ (hw _ (List.mem_of_getElem? (i := 1) rfl))) (g := (mkF m 30 #[.val (.int i0), .val (.int i1), .val (.int i2), .unset, .unset, .unset] [(.int (5 : Int32)), (.ref b1), (.ref b1)])) rfl (hb hby at_30) _ ?_
    show Steps p.tables e below (T6.setTop (mkF m 32 #[.val (.int i0), .val (.int i1), .val (.int i2), .unset, .unset, .unset] [(.int (55295 : Int32)), (.int (5 : Int32)), (.ref b1), (.ref b1)])) _
    refine st7 _ ?_
    show Steps p.tables e below (T7.setTop (mkF m 33 #[.val (.int i0), .val (.int i1), .val (.int i2), .unset, .unset, .unset] [(.ref b1)])) _
    refine XS.dup X7.here hx rfl (hb hby at_33) rfl rfl ?_
    show Steps p.tables e below (T7.setTop (mkF m 34 #[.val (.int i0), .val (.int i1), .val (.int i2), .unset, .unset, .unset] [(.ref b1), (.ref b1)])) _
    refine XS.bipush X7.here hx rfl (hb hby at_34) ?_
    show Steps p.tables e below (T7.setTop (mkF m 36 #[.val (.int i0), .val (.int i1), .val (.int i2), .unset, .unset, .unset] [(.int (6 : Int32)), (.ref b1), (.ref b1)])) _
    refine X7.ldcInt hx hown (mvT hZ (hw _ (List.mem_of_getElem? (i := 2) rfl))) (g := (mkF m 36 #[.val (.int i0), .val (.int i1), .val (.int i2), .unset, .unset, .unset] [(.int (6 : Int32)), (.ref b1), (.ref b1)])) rfl (hb hby at_36) _ ?_
    show Steps p.tables e below (T7.setTop (mkF m 38 #[.val (.int i0), .val (.int i1), .val (.int i2), .unset, .unset, .unset] [(.int (55296 : Int32)), (.int (6 : Int32)), (.ref b1), (.ref b1)])) _
    refine st8 _ ?_
    show Steps p.tables e below (T8.setTop (mkF m 39 #[.val (.int i0), .val (.int i1), .val (.int i2), .unset, .unset, .unset] [(.ref b1)])) _
    refine XS.dup X8.here hx rfl (hb hby at_39) rfl rfl ?_
    show Steps p.tables e below (T8.setTop (mkF m 40 #[.val (.int i0), .val (.int i1), .val (.int i2), .unset, .unset, .unset] [(.ref b1), (.ref b1)])) _
    refine XS.bipush X8.here hx rfl (hb hby at_40) ?_
    show Steps p.tables e below (T8.setTop (mkF m 42 #[.val (.int i0), .val (.int i1), .val (.int i2), .unset, .unset, .unset] [(.int (7 : Int32)), (.ref b1), (.ref b1)])) _
    refine X8.ldcInt hx hown (mvT hZ (hw _ (List.mem_of_getElem? (i := 3) rfl))) (g := (mkF m 42 #[.val (.int i0), .val (.int i1), .val (.int i2), .unset, .unset, .unset] [(.int (7 : Int32)), (.ref b1), (.ref b1)])) rfl (hb hby at_42) _ ?_
    show Steps p.tables e below (T8.setTop (mkF m 44 #[.val (.int i0), .val (.int i1), .val (.int i2), .unset, .unset, .unset] [(.int (57343 : Int32)), (.int (7 : Int32)), (.ref b1), (.ref b1)])) _
    refine st9 _ ?_
    show Steps p.tables e below (T9.setTop (mkF m 45 #[.val (.int i0), .val (.int i1), .val (.int i2), .unset, .unset, .unset] [(.ref b1)])) _
    refine XS.dup X9.here hx rfl (hb hby at_45) rfl rfl ?_
    show Steps p.tables e below (T9.setTop (mkF m 46 #[.val (.int i0), .val (.int i1), .val (.int i2), .unset, .unset, .unset] [(.ref b1), (.ref b1)])) _
    refine XS.bipush X9.here hx rfl (hb hby at_46) ?_
    show Steps p.tables e below (T9.setTop (mkF m 48 #[.val (.int i0), .val (.int i1), .val (.int i2), .unset, .unset, .unset] [(.int (8 : Int32)), (.ref b1), (.ref b1)])) _
    refine X9.ldcInt hx hown (mvT hZ (hw _ (List.mem_of_getElem? (i := 4) rfl))) (g := (mkF m 48 #[.val (.int i0), .val (.int i1), .val (.int i2), .unset, .unset, .unset] [(.int (8 : Int32)), (.ref b1), (.ref b1)])) rfl (hb hby at_48) _ ?_
    show Steps p.tables e below (T9.setTop (mkF m 50 #[.val (.int i0), .val (.int i1), .val (.int i2), .unset, .unset, .unset] [(.int (57344 : Int32)), (.int (8 : Int32)), (.ref b1), (.ref b1)])) _
    refine st10 _ ?_
    show Steps p.tables e below (T10.setTop (mkF m 51 #[.val (.int i0), .val (.int i1), .val (.int i2), .unset, .unset, .unset] [(.ref b1)])) _
    refine XS.dup X10.here hx rfl (hb hby at_51) rfl rfl ?_
    show Steps p.tables e below (T10.setTop (mkF m 52 #[.val (.int i0), .val (.int i1), .val (.int i2), .unset, .unset, .unset] [(.ref b1), (.ref b1)])) _
    refine XS.bipush X10.here hx rfl (hb hby at_52) ?_
    show Steps p.tables e below (T10.setTop (mkF m 54 #[.val (.int i0), .val (.int i1), .val (.int i2), .unset, .unset, .unset] [(.int (9 : Int32)), (.ref b1), (.ref b1)])) _
    refine X10.ldcInt hx hown (mvT hZ (hw _ (List.mem_of_getElem? (i := 5) rfl))) (g := (mkF m 54 #[.val (.int i0), .val (.int i1), .val (.int i2), .unset, .unset, .unset] [(.int (9 : Int32)), (.ref b1), (.ref b1)])) rfl (hb hby at_54) _ ?_
    show Steps p.tables e below (T10.setTop (mkF m 56 #[.val (.int i0), .val (.int i1), .val (.int i2), .unset, .unset, .unset] [(.int (65533 : Int32)), (.int (9 : Int32)), (.ref b1), (.ref b1)])) _
    refine st11 _ ?_
    show Steps p.tables e below (T11.setTop (mkF m 57 #[.val (.int i0), .val (.int i1), .val (.int i2), .unset, .unset, .unset] [(.ref b1)])) _
    refine XS.dup X11.here hx rfl (hb hby at_57) rfl rfl ?_
    show Steps p.tables e below (T11.setTop (mkF m 58 #[.val (.int i0), .val (.int i1), .val (.int i2), .unset, .unset, .unset] [(.ref b1), (.ref b1)])) _
    refine XS.bipush X11.here hx rfl (hb hby at_58) ?_
    show Steps p.tables e below (T11.setTop (mkF m 60 #[.val (.int i0), .val (.int i1), .val (.int i2), .unset, .unset, .unset] [(.int (10 : Int32)), (.ref b1), (.ref b1)])) _
    refine X11.ldcInt hx hown (mvT hZ (hw _ (List.mem_of_getElem? (i := 6) rfl))) (g := (mkF m 60 #[.val (.int i0), .val (.int i1), .val (.int i2), .unset, .unset, .unset] [(.int (10 : Int32)), (.ref b1), (.ref b1)])) rfl (hb hby at_60) _ ?_
    show Steps p.tables e below (T11.setTop (mkF m 62 #[.val (.int i0), .val (.int i1), .val (.int i2), .unset, .unset, .unset] [(.int (65535 : Int32)), (.int (10 : Int32)), (.ref b1), (.ref b1)])) _
    refine st12 _ ?_
    show Steps p.tables e below (T12.setTop (mkF m 63 #[.val (.int i0), .val (.int i1), .val (.int i2), .unset, .unset, .unset] [(.ref b1)])) _
    refine XS.dup X12.here hx rfl (hb hby at_63) rfl rfl ?_
    show Steps p.tables e below (T12.setTop (mkF m 64 #[.val (.int i0), .val (.int i1), .val (.int i2), .unset, .unset, .unset] [(.ref b1), (.ref b1)])) _
    refine XS.bipush X12.here hx rfl (hb hby at_64) ?_
    show Steps p.tables e below (T12.setTop (mkF m 66 #[.val (.int i0), .val (.int i1), .val (.int i2), .unset, .unset, .unset] [(.int (11 : Int32)), (.ref b1), (.ref b1)])) _
    refine X12.ldcInt hx hown (mvT hZ (hw _ (List.mem_of_getElem? (i := 7) rfl))) (g := (mkF m 66 #[.val (.int i0), .val (.int i1), .val (.int i2), .unset, .unset, .unset] [(.int (11 : Int32)), (.ref b1), (.ref b1)])) rfl (hb hby at_66) _ ?_
    show Steps p.tables e below (T12.setTop (mkF m 68 #[.val (.int i0), .val (.int i1), .val (.int i2), .unset, .unset, .unset] [(.int (65536 : Int32)), (.int (11 : Int32)), (.ref b1), (.ref b1)])) _
    refine st13 _ ?_
    show Steps p.tables e below (T13.setTop (mkF m 69 #[.val (.int i0), .val (.int i1), .val (.int i2), .unset, .unset, .unset] [(.ref b1)])) _
    refine XS.dup X13.here hx rfl (hb hby at_69) rfl rfl ?_
    show Steps p.tables e below (T13.setTop (mkF m 70 #[.val (.int i0), .val (.int i1), .val (.int i2), .unset, .unset, .unset] [(.ref b1), (.ref b1)])) _
    refine XS.bipush X13.here hx rfl (hb hby at_70) ?_
    show Steps p.tables e below (T13.setTop (mkF m 72 #[.val (.int i0), .val (.int i1), .val (.int i2), .unset, .unset, .unset] [(.int (12 : Int32)), (.ref b1), (.ref b1)])) _
    refine X13.ldcInt hx hown (mvT hZ (hw _ (List.mem_of_getElem? (i := 8) rfl))) (g := (mkF m 72 #[.val (.int i0), .val (.int i1), .val (.int i2), .unset, .unset, .unset] [(.int (12 : Int32)), (.ref b1), (.ref b1)])) rfl (hb hby at_72) _ ?_
    show Steps p.tables e below (T13.setTop (mkF m 74 #[.val (.int i0), .val (.int i1), .val (.int i2), .unset, .unset, .unset] [(.int (1114111 : Int32)), (.int (12 : Int32)), (.ref b1), (.ref b1)])) _
    refine st14 _ ?_
    show Steps p.tables e below (T14.setTop (mkF m 75 #[.val (.int i0), .val (.int i1), .val (.int i2), .unset, .unset, .unset] [(.ref b1)])) _
    refine XS.dup X14.here hx rfl (hb hby at_75) rfl rfl ?_
    show Steps p.tables e below (T14.setTop (mkF m 76 #[.val (.int i0), .val (.int i1), .val (.int i2), .unset, .unset, .unset] [(.ref b1), (.ref b1)])) _
    refine XS.bipush X14.here hx rfl (hb hby at_76) ?_
    show Steps p.tables e below (T14.setTop (mkF m 78 #[.val (.int i0), .val (.int i1), .val (.int i2), .unset, .unset, .unset] [(.int (13 : Int32)), (.ref b1), (.ref b1)])) _
    refine X14.ldcInt hx hown (mvT hZ (hw _ (List.mem_of_getElem? (i := 9) rfl))) (g := (mkF m 78 #[.val (.int i0), .val (.int i1), .val (.int i2), .unset, .unset, .unset] [(.int (13 : Int32)), (.ref b1), (.ref b1)])) rfl (hb hby at_78) _ ?_
    show Steps p.tables e below (T14.setTop (mkF m 80 #[.val (.int i0), .val (.int i1), .val (.int i2), .unset, .unset, .unset] [(.int (1114112 : Int32)), (.int (13 : Int32)), (.ref b1), (.ref b1)])) _
    refine st15 _ ?_
    show Steps p.tables e below (T15.setTop (mkF m 81 #[.val (.int i0), .val (.int i1), .val (.int i2), .unset, .unset, .unset] [(.ref b1)])) _
    refine XS.dup X15.here hx rfl (hb hby at_81) rfl rfl ?_
    show Steps p.tables e below (T15.setTop (mkF m 82 #[.val (.int i0), .val (.int i1), .val (.int i2), .unset, .unset, .unset] [(.ref b1), (.ref b1)])) _
    refine XS.bipush X15.here hx rfl (hb hby at_82) ?_
    show Steps p.tables e below (T15.setTop (mkF m 84 #[.val (.int i0), .val (.int i1), .val (.int i2), .unset, .unset, .unset] [(.int (14 : Int32)), (.ref b1), (.ref b1)])) _
    refine X15.ldcInt hx hown (mvT hZ (hw _ (List.mem_of_getElem? (i := 10) rfl))) (g := (mkF m 84 #[.val (.int i0), .val (.int i1), .val (.int i2), .unset, .unset, .unset] [(.int (14 : Int32)), (.ref b1), (.ref b1)])) rfl (hb hby at_84) _ ?_
    show Steps p.tables e below (T15.setTop (mkF m 86 #[.val (.int i0), .val (.int i1), .val (.int i2), .unset, .unset, .unset] [(.int (-2147483648 : Int32)), (.int (14 : Int32)), (.ref b1), (.ref b1)])) _
    refine st16 _ ?_
    show Steps p.tables e below (T16.setTop (mkF m 87 #[.val (.int i0), .val (.int i1), .val (.int i2), .unset, .unset, .unset] [(.ref b1)])) _
    refine XS.dup X16.here hx rfl (hb hby at_87) rfl rfl ?_
    show Steps p.tables e below (T16.setTop (mkF m 88 #[.val (.int i0), .val (.int i1), .val (.int i2), .unset, .unset, .unset] [(.ref b1), (.ref b1)])) _
    refine XS.bipush X16.here hx rfl (hb hby at_88) ?_
    show Steps p.tables e below (T16.setTop (mkF m 90 #[.val (.int i0), .val (.int i1), .val (.int i2), .unset, .unset, .unset] [(.int (15 : Int32)), (.ref b1), (.ref b1)])) _
    refine X16.ldcInt hx hown (mvT hZ (hw _ (List.mem_of_getElem? (i := 11) rfl))) (g := (mkF m 90 #[.val (.int i0), .val (.int i1), .val (.int i2), .unset, .unset, .unset] [(.int (15 : Int32)), (.ref b1), (.ref b1)])) rfl (hb hby at_90) _ ?_
    show Steps p.tables e below (T16.setTop (mkF m 92 #[.val (.int i0), .val (.int i1), .val (.int i2), .unset, .unset, .unset] [(.int (2147483647 : Int32)), (.int (15 : Int32)), (.ref b1), (.ref b1)])) _
    refine st17 _ ?_
    show Steps p.tables e below (T17.setTop (mkF m 93 #[.val (.int i0), .val (.int i1), .val (.int i2), .unset, .unset, .unset] [(.ref b1)])) _
    refine XS.astoreN X17.here hx rfl (hb hby at_93) rfl rfl (l' := #[.val (.int i0), .val (.int i1), .val (.int i2), .val (.ref b1), .unset, .unset]) rfl ?_
    show Steps p.tables e below (T17.setTop (mkF m 94 #[.val (.int i0), .val (.int i1), .val (.int i2), .val (.ref b1), .unset, .unset] [])) _
    refine XS.aloadN X17.here hx rfl (hb hby at_94) rfl rfl ?_
    show Steps p.tables e below (T17.setTop (mkF m 95 #[.val (.int i0), .val (.int i1), .val (.int i2), .val (.ref b1), .unset, .unset] [(.ref b1)])) _
    refine XS.iloadN X17.here hx rfl (hb hby at_95) rfl ?_
    show Steps p.tables e below (T17.setTop (mkF m 96 #[.val (.int i0), .val (.int i1), .val (.int i2), .val (.ref b1), .unset, .unset] [(.int i1), (.ref b1)])) _
    refine X17.ldcInt hx hown (mvT hZ (hw _ (List.mem_of_getElem? (i := 11) rfl))) (g := (mkF m 96 #[.val (.int i0), .val (.int i1), .val (.int i2), .val (.ref b1), .unset, .unset] [(.int i1), (.ref b1)])) rfl (hb hby at_96) _ ?_
    show Steps p.tables e below (T17.setTop (mkF m 98 #[.val (.int i0), .val (.int i1), .val (.int i2), .val (.ref b1), .unset, .unset] [(.int (2147483647 : Int32)), (.int i1), (.ref b1)])) _
    refine XS.iand X17.here hx rfl (hb hby at_98) rfl ?_
    show Steps p.tables e below (T17.setTop (mkF m 99 #[.val (.int i0), .val (.int i1), .val (.int i2), .val (.ref b1), .unset, .unset] [(.int (i1 &&& (2147483647 : Int32))), (.ref b1)])) _
    refine XS.bipush X17.here hx rfl (hb hby at_99) ?_
    show Steps p.tables e below (T17.setTop (mkF m 101 #[.val (.int i0), .val (.int i1), .val (.int i2), .val (.ref b1), .unset, .unset] [(.int (16 : Int32)), (.int (i1 &&& (2147483647 : Int32))), (.ref b1)])) _
    refine XS.irem X17.here hx rfl (hb hby at_101) rfl (by decide) ?_
    show Steps p.tables e below (T17.setTop (mkF m 102 #[.val (.int i0), .val (.int i1), .val (.int i2), .val (.ref b1), .unset, .unset] [(.int ((i1 &&& (2147483647 : Int32)) - ((i1 &&& (2147483647 : Int32)) / (16 : Int32)) * (16 : Int32))), (.ref b1)])) _
    refine own_ldI X17 hx hZ e17 V_b1_k17 hix102 (g := (mkF m 102 #[.val (.int i0), .val (.int i1), .val (.int i2), .val (.ref b1), .unset, .unset] [(.int ((i1 &&& (2147483647 : Int32)) - ((i1 &&& (2147483647 : Int32)) / (16 : Int32)) * (16 : Int32))), (.ref b1)])) rfl rfl (hb hby at_102) _ ?_
    show Steps p.tables e below (T17.setTop (mkF m 103 #[.val (.int i0), .val (.int i1), .val (.int i2), .val (.ref b1), .unset, .unset] [(.int ((own_up (own_up (own_up (own_up (own_up (own_up (own_up (own_up (own_up (own_up (own_up (own_up (own_up (own_up (own_up (own_up (fun _ => 0) (0 : Int32).toNatClampNeg (0 : Int32)) (1 : Int32).toNatClampNeg (9 : Int32)) (2 : Int32).toNatClampNeg (10 : Int32)) (3 : Int32).toNatClampNeg (13 : Int32)) (4 : Int32).toNatClampNeg (32 : Int32)) (5 : Int32).toNatClampNeg (55295 : Int32)) (6 : Int32).toNatClampNeg (55296 : Int32)) (7 : Int32).toNatClampNeg (57343 : Int32)) (8 : Int32).toNatClampNeg (57344 : Int32)) (9 : Int32).toNatClampNeg (65533 : Int32)) (10 : Int32).toNatClampNeg (65535 : Int32)) (11 : Int32).toNatClampNeg (65536 : Int32)) (12 : Int32).toNatClampNeg (1114111 : Int32)) (13 : Int32).toNatClampNeg (1114112 : Int32)) (14 : Int32).toNatClampNeg (-2147483648 : Int32)) (15 : Int32).toNatClampNeg (2147483647 : Int32)) ((i1 &&& (2147483647 : Int32)) - ((i1 &&& (2147483647 : Int32)) / (16 : Int32)) * (16 : Int32)).toNatClampNeg))])) _
    refine XS.istore X17.here hx rfl (hb hby at_103) rfl (l' := #[.val (.int i0), .val (.int i1), .val (.int i2), .val (.ref b1), .val (.int ((own_up (own_up (own_up (own_up (own_up (own_up (own_up (own_up (own_up (own_up (own_up (own_up (own_up (own_up (own_up (own_up (fun _ => 0) (0 : Int32).toNatClampNeg (0 : Int32)) (1 : Int32).toNatClampNeg (9 : Int32)) (2 : Int32).toNatClampNeg (10 : Int32)) (3 : Int32).toNatClampNeg (13 : Int32)) (4 : Int32).toNatClampNeg (32 : Int32)) (5 : Int32).toNatClampNeg (55295 : Int32)) (6 : Int32).toNatClampNeg (55296 : Int32)) (7 : Int32).toNatClampNeg (57343 : Int32)) (8 : Int32).toNatClampNeg (57344 : Int32)) (9 : Int32).toNatClampNeg (65533 : Int32)) (10 : Int32).toNatClampNeg (65535 : Int32)) (11 : Int32).toNatClampNeg (65536 : Int32)) (12 : Int32).toNatClampNeg (1114111 : Int32)) (13 : Int32).toNatClampNeg (1114112 : Int32)) (14 : Int32).toNatClampNeg (-2147483648 : Int32)) (15 : Int32).toNatClampNeg (2147483647 : Int32)) ((i1 &&& (2147483647 : Int32)) - ((i1 &&& (2147483647 : Int32)) / (16 : Int32)) * (16 : Int32)).toNatClampNeg)), .unset]) rfl ?_
    show Steps p.tables e below (T17.setTop (mkF m 105 #[.val (.int i0), .val (.int i1), .val (.int i2), .val (.ref b1), .val (.int ((own_up (own_up (own_up (own_up (own_up (own_up (own_up (own_up (own_up (own_up (own_up (own_up (own_up (own_up (own_up (own_up (fun _ => 0) (0 : Int32).toNatClampNeg (0 : Int32)) (1 : Int32).toNatClampNeg (9 : Int32)) (2 : Int32).toNatClampNeg (10 : Int32)) (3 : Int32).toNatClampNeg (13 : Int32)) (4 : Int32).toNatClampNeg (32 : Int32)) (5 : Int32).toNatClampNeg (55295 : Int32)) (6 : Int32).toNatClampNeg (55296 : Int32)) (7 : Int32).toNatClampNeg (57343 : Int32)) (8 : Int32).toNatClampNeg (57344 : Int32)) (9 : Int32).toNatClampNeg (65533 : Int32)) (10 : Int32).toNatClampNeg (65535 : Int32)) (11 : Int32).toNatClampNeg (65536 : Int32)) (12 : Int32).toNatClampNeg (1114111 : Int32)) (13 : Int32).toNatClampNeg (1114112 : Int32)) (14 : Int32).toNatClampNeg (-2147483648 : Int32)) (15 : Int32).toNatClampNeg (2147483647 : Int32)) ((i1 &&& (2147483647 : Int32)) - ((i1 &&& (2147483647 : Int32)) / (16 : Int32)) * (16 : Int32)).toNatClampNeg)), .unset] [])) _
    refine XS.iload X17.here hx rfl (hb hby at_105) rfl ?_
    show Steps p.tables e below (T17.setTop (mkF m 107 #[.val (.int i0), .val (.int i1), .val (.int i2), .val (.ref b1), .val (.int ((own_up (own_up (own_up (own_up (own_up (own_up (own_up (own_up (own_up (own_up (own_up (own_up (own_up (own_up (own_up (own_up (fun _ => 0) (0 : Int32).toNatClampNeg (0 : Int32)) (1 : Int32).toNatClampNeg (9 : Int32)) (2 : Int32).toNatClampNeg (10 : Int32)) (3 : Int32).toNatClampNeg (13 : Int32)) (4 : Int32).toNatClampNeg (32 : Int32)) (5 : Int32).toNatClampNeg (55295 : Int32)) (6 : Int32).toNatClampNeg (55296 : Int32)) (7 : Int32).toNatClampNeg (57343 : Int32)) (8 : Int32).toNatClampNeg (57344 : Int32)) (9 : Int32).toNatClampNeg (65533 : Int32)) (10 : Int32).toNatClampNeg (65535 : Int32)) (11 : Int32).toNatClampNeg (65536 : Int32)) (12 : Int32).toNatClampNeg (1114111 : Int32)) (13 : Int32).toNatClampNeg (1114112 : Int32)) (14 : Int32).toNatClampNeg (-2147483648 : Int32)) (15 : Int32).toNatClampNeg (2147483647 : Int32)) ((i1 &&& (2147483647 : Int32)) - ((i1 &&& (2147483647 : Int32)) / (16 : Int32)) * (16 : Int32)).toNatClampNeg)), .unset] [(.int ((own_up (own_up (own_up (own_up (own_up (own_up (own_up (own_up (own_up (own_up (own_up (own_up (own_up (own_up (own_up (own_up (fun _ => 0) (0 : Int32).toNatClampNeg (0 : Int32)) (1 : Int32).toNatClampNeg (9 : Int32)) (2 : Int32).toNatClampNeg (10 : Int32)) (3 : Int32).toNatClampNeg (13 : Int32)) (4 : Int32).toNatClampNeg (32 : Int32)) (5 : Int32).toNatClampNeg (55295 : Int32)) (6 : Int32).toNatClampNeg (55296 : Int32)) (7 : Int32).toNatClampNeg (57343 : Int32)) (8 : Int32).toNatClampNeg (57344 : Int32)) (9 : Int32).toNatClampNeg (65533 : Int32)) (10 : Int32).toNatClampNeg (65535 : Int32)) (11 : Int32).toNatClampNeg (65536 : Int32)) (12 : Int32).toNatClampNeg (1114111 : Int32)) (13 : Int32).toNatClampNeg (1114112 : Int32)) (14 : Int32).toNatClampNeg (-2147483648 : Int32)) (15 : Int32).toNatClampNeg (2147483647 : Int32)) ((i1 &&& (2147483647 : Int32)) - ((i1 &&& (2147483647 : Int32)) / (16 : Int32)) * (16 : Int32)).toNatClampNeg))])) _
    refine XS.iloadN X17.here hx rfl (hb hby at_107) rfl ?_
    show Steps p.tables e below (T17.setTop (mkF m 108 #[.val (.int i0), .val (.int i1), .val (.int i2), .val (.ref b1), .val (.int ((own_up (own_up (own_up (own_up (own_up (own_up (own_up (own_up (own_up (own_up (own_up (own_up (own_up (own_up (own_up (own_up (fun _ => 0) (0 : Int32).toNatClampNeg (0 : Int32)) (1 : Int32).toNatClampNeg (9 : Int32)) (2 : Int32).toNatClampNeg (10 : Int32)) (3 : Int32).toNatClampNeg (13 : Int32)) (4 : Int32).toNatClampNeg (32 : Int32)) (5 : Int32).toNatClampNeg (55295 : Int32)) (6 : Int32).toNatClampNeg (55296 : Int32)) (7 : Int32).toNatClampNeg (57343 : Int32)) (8 : Int32).toNatClampNeg (57344 : Int32)) (9 : Int32).toNatClampNeg (65533 : Int32)) (10 : Int32).toNatClampNeg (65535 : Int32)) (11 : Int32).toNatClampNeg (65536 : Int32)) (12 : Int32).toNatClampNeg (1114111 : Int32)) (13 : Int32).toNatClampNeg (1114112 : Int32)) (14 : Int32).toNatClampNeg (-2147483648 : Int32)) (15 : Int32).toNatClampNeg (2147483647 : Int32)) ((i1 &&& (2147483647 : Int32)) - ((i1 &&& (2147483647 : Int32)) / (16 : Int32)) * (16 : Int32)).toNatClampNeg)), .unset] [(.int i2), (.int ((own_up (own_up (own_up (own_up (own_up (own_up (own_up (own_up (own_up (own_up (own_up (own_up (own_up (own_up (own_up (own_up (fun _ => 0) (0 : Int32).toNatClampNeg (0 : Int32)) (1 : Int32).toNatClampNeg (9 : Int32)) (2 : Int32).toNatClampNeg (10 : Int32)) (3 : Int32).toNatClampNeg (13 : Int32)) (4 : Int32).toNatClampNeg (32 : Int32)) (5 : Int32).toNatClampNeg (55295 : Int32)) (6 : Int32).toNatClampNeg (55296 : Int32)) (7 : Int32).toNatClampNeg (57343 : Int32)) (8 : Int32).toNatClampNeg (57344 : Int32)) (9 : Int32).toNatClampNeg (65533 : Int32)) (10 : Int32).toNatClampNeg (65535 : Int32)) (11 : Int32).toNatClampNeg (65536 : Int32)) (12 : Int32).toNatClampNeg (1114111 : Int32)) (13 : Int32).toNatClampNeg (1114112 : Int32)) (14 : Int32).toNatClampNeg (-2147483648 : Int32)) (15 : Int32).toNatClampNeg (2147483647 : Int32)) ((i1 &&& (2147483647 : Int32)) - ((i1 &&& (2147483647 : Int32)) / (16 : Int32)) * (16 : Int32)).toNatClampNeg))])) _
    refine XS.iconst X17.here hx rfl (hb hby at_108) ?_
    show Steps p.tables e below (T17.setTop (mkF m 109 #[.val (.int i0), .val (.int i1), .val (.int i2), .val (.ref b1), .val (.int ((own_up (own_up (own_up (own_up (own_up (own_up (own_up (own_up (own_up (own_up (own_up (own_up (own_up (own_up (own_up (own_up (fun _ => 0) (0 : Int32).toNatClampNeg (0 : Int32)) (1 : Int32).toNatClampNeg (9 : Int32)) (2 : Int32).toNatClampNeg (10 : Int32)) (3 : Int32).toNatClampNeg (13 : Int32)) (4 : Int32).toNatClampNeg (32 : Int32)) (5 : Int32).toNatClampNeg (55295 : Int32)) (6 : Int32).toNatClampNeg (55296 : Int32)) (7 : Int32).toNatClampNeg (57343 : Int32)) (8 : Int32).toNatClampNeg (57344 : Int32)) (9 : Int32).toNatClampNeg (65533 : Int32)) (10 : Int32).toNatClampNeg (65535 : Int32)) (11 : Int32).toNatClampNeg (65536 : Int32)) (12 : Int32).toNatClampNeg (1114111 : Int32)) (13 : Int32).toNatClampNeg (1114112 : Int32)) (14 : Int32).toNatClampNeg (-2147483648 : Int32)) (15 : Int32).toNatClampNeg (2147483647 : Int32)) ((i1 &&& (2147483647 : Int32)) - ((i1 &&& (2147483647 : Int32)) / (16 : Int32)) * (16 : Int32)).toNatClampNeg)), .unset] [(.int (3 : Int32)), (.int i2), (.int ((own_up (own_up (own_up (own_up (own_up (own_up (own_up (own_up (own_up (own_up (own_up (own_up (own_up (own_up (own_up (own_up (fun _ => 0) (0 : Int32).toNatClampNeg (0 : Int32)) (1 : Int32).toNatClampNeg (9 : Int32)) (2 : Int32).toNatClampNeg (10 : Int32)) (3 : Int32).toNatClampNeg (13 : Int32)) (4 : Int32).toNatClampNeg (32 : Int32)) (5 : Int32).toNatClampNeg (55295 : Int32)) (6 : Int32).toNatClampNeg (55296 : Int32)) (7 : Int32).toNatClampNeg (57343 : Int32)) (8 : Int32).toNatClampNeg (57344 : Int32)) (9 : Int32).toNatClampNeg (65533 : Int32)) (10 : Int32).toNatClampNeg (65535 : Int32)) (11 : Int32).toNatClampNeg (65536 : Int32)) (12 : Int32).toNatClampNeg (1114111 : Int32)) (13 : Int32).toNatClampNeg (1114112 : Int32)) (14 : Int32).toNatClampNeg (-2147483648 : Int32)) (15 : Int32).toNatClampNeg (2147483647 : Int32)) ((i1 &&& (2147483647 : Int32)) - ((i1 &&& (2147483647 : Int32)) / (16 : Int32)) * (16 : Int32)).toNatClampNeg))])) _
    refine XS.irem X17.here hx rfl (hb hby at_109) rfl (by decide) ?_
    show Steps p.tables e below (T17.setTop (mkF m 110 #[.val (.int i0), .val (.int i1), .val (.int i2), .val (.ref b1), .val (.int ((own_up (own_up (own_up (own_up (own_up (own_up (own_up (own_up (own_up (own_up (own_up (own_up (own_up (own_up (own_up (own_up (fun _ => 0) (0 : Int32).toNatClampNeg (0 : Int32)) (1 : Int32).toNatClampNeg (9 : Int32)) (2 : Int32).toNatClampNeg (10 : Int32)) (3 : Int32).toNatClampNeg (13 : Int32)) (4 : Int32).toNatClampNeg (32 : Int32)) (5 : Int32).toNatClampNeg (55295 : Int32)) (6 : Int32).toNatClampNeg (55296 : Int32)) (7 : Int32).toNatClampNeg (57343 : Int32)) (8 : Int32).toNatClampNeg (57344 : Int32)) (9 : Int32).toNatClampNeg (65533 : Int32)) (10 : Int32).toNatClampNeg (65535 : Int32)) (11 : Int32).toNatClampNeg (65536 : Int32)) (12 : Int32).toNatClampNeg (1114111 : Int32)) (13 : Int32).toNatClampNeg (1114112 : Int32)) (14 : Int32).toNatClampNeg (-2147483648 : Int32)) (15 : Int32).toNatClampNeg (2147483647 : Int32)) ((i1 &&& (2147483647 : Int32)) - ((i1 &&& (2147483647 : Int32)) / (16 : Int32)) * (16 : Int32)).toNatClampNeg)), .unset] [(.int (i2 - (i2 / (3 : Int32)) * (3 : Int32))), (.int ((own_up (own_up (own_up (own_up (own_up (own_up (own_up (own_up (own_up (own_up (own_up (own_up (own_up (own_up (own_up (own_up (fun _ => 0) (0 : Int32).toNatClampNeg (0 : Int32)) (1 : Int32).toNatClampNeg (9 : Int32)) (2 : Int32).toNatClampNeg (10 : Int32)) (3 : Int32).toNatClampNeg (13 : Int32)) (4 : Int32).toNatClampNeg (32 : Int32)) (5 : Int32).toNatClampNeg (55295 : Int32)) (6 : Int32).toNatClampNeg (55296 : Int32)) (7 : Int32).toNatClampNeg (57343 : Int32)) (8 : Int32).toNatClampNeg (57344 : Int32)) (9 : Int32).toNatClampNeg (65533 : Int32)) (10 : Int32).toNatClampNeg (65535 : Int32)) (11 : Int32).toNatClampNeg (65536 : Int32)) (12 : Int32).toNatClampNeg (1114111 : Int32)) (13 : Int32).toNatClampNeg (1114112 : Int32)) (14 : Int32).toNatClampNeg (-2147483648 : Int32)) (15 : Int32).toNatClampNeg (2147483647 : Int32)) ((i1 &&& (2147483647 : Int32)) - ((i1 &&& (2147483647 : Int32)) / (16 : Int32)) * (16 : Int32)).toNatClampNeg))])) _
    refine XS.iadd X17.here hx rfl (hb hby at_110) rfl ?_
    show Steps p.tables e below (T17.setTop (mkF m 111 #[.val (.int i0), .val (.int i1), .val (.int i2), .val (.ref b1), .val (.int ((own_up (own_up (own_up (own_up (own_up (own_up (own_up (own_up (own_up (own_up (own_up (own_up (own_up (own_up (own_up (own_up (fun _ => 0) (0 : Int32).toNatClampNeg (0 : Int32)) (1 : Int32).toNatClampNeg (9 : Int32)) (2 : Int32).toNatClampNeg (10 : Int32)) (3 : Int32).toNatClampNeg (13 : Int32)) (4 : Int32).toNatClampNeg (32 : Int32)) (5 : Int32).toNatClampNeg (55295 : Int32)) (6 : Int32).toNatClampNeg (55296 : Int32)) (7 : Int32).toNatClampNeg (57343 : Int32)) (8 : Int32).toNatClampNeg (57344 : Int32)) (9 : Int32).toNatClampNeg (65533 : Int32)) (10 : Int32).toNatClampNeg (65535 : Int32)) (11 : Int32).toNatClampNeg (65536 : Int32)) (12 : Int32).toNatClampNeg (1114111 : Int32)) (13 : Int32).toNatClampNeg (1114112 : Int32)) (14 : Int32).toNatClampNeg (-2147483648 : Int32)) (15 : Int32).toNatClampNeg (2147483647 : Int32)) ((i1 &&& (2147483647 : Int32)) - ((i1 &&& (2147483647 : Int32)) / (16 : Int32)) * (16 : Int32)).toNatClampNeg)), .unset] [(.int (((own_up (own_up (own_up (own_up (own_up (own_up (own_up (own_up (own_up (own_up (own_up (own_up (own_up (own_up (own_up (own_up (fun _ => 0) (0 : Int32).toNatClampNeg (0 : Int32)) (1 : Int32).toNatClampNeg (9 : Int32)) (2 : Int32).toNatClampNeg (10 : Int32)) (3 : Int32).toNatClampNeg (13 : Int32)) (4 : Int32).toNatClampNeg (32 : Int32)) (5 : Int32).toNatClampNeg (55295 : Int32)) (6 : Int32).toNatClampNeg (55296 : Int32)) (7 : Int32).toNatClampNeg (57343 : Int32)) (8 : Int32).toNatClampNeg (57344 : Int32)) (9 : Int32).toNatClampNeg (65533 : Int32)) (10 : Int32).toNatClampNeg (65535 : Int32)) (11 : Int32).toNatClampNeg (65536 : Int32)) (12 : Int32).toNatClampNeg (1114111 : Int32)) (13 : Int32).toNatClampNeg (1114112 : Int32)) (14 : Int32).toNatClampNeg (-2147483648 : Int32)) (15 : Int32).toNatClampNeg (2147483647 : Int32)) ((i1 &&& (2147483647 : Int32)) - ((i1 &&& (2147483647 : Int32)) / (16 : Int32)) * (16 : Int32)).toNatClampNeg) + (i2 - (i2 / (3 : Int32)) * (3 : Int32))))])) _
    refine XS.istore X17.here hx rfl (hb hby at_111) rfl (l' := #[.val (.int i0), .val (.int i1), .val (.int i2), .val (.ref b1), .val (.int ((own_up (own_up (own_up (own_up (own_up (own_up (own_up (own_up (own_up (own_up (own_up (own_up (own_up (own_up (own_up (own_up (fun _ => 0) (0 : Int32).toNatClampNeg (0 : Int32)) (1 : Int32).toNatClampNeg (9 : Int32)) (2 : Int32).toNatClampNeg (10 : Int32)) (3 : Int32).toNatClampNeg (13 : Int32)) (4 : Int32).toNatClampNeg (32 : Int32)) (5 : Int32).toNatClampNeg (55295 : Int32)) (6 : Int32).toNatClampNeg (55296 : Int32)) (7 : Int32).toNatClampNeg (57343 : Int32)) (8 : Int32).toNatClampNeg (57344 : Int32)) (9 : Int32).toNatClampNeg (65533 : Int32)) (10 : Int32).toNatClampNeg (65535 : Int32)) (11 : Int32).toNatClampNeg (65536 : Int32)) (12 : Int32).toNatClampNeg (1114111 : Int32)) (13 : Int32).toNatClampNeg (1114112 : Int32)) (14 : Int32).toNatClampNeg (-2147483648 : Int32)) (15 : Int32).toNatClampNeg (2147483647 : Int32)) ((i1 &&& (2147483647 : Int32)) - ((i1 &&& (2147483647 : Int32)) / (16 : Int32)) * (16 : Int32)).toNatClampNeg)), .val (.int (((own_up (own_up (own_up (own_up (own_up (own_up (own_up (own_up (own_up (own_up (own_up (own_up (own_up (own_up (own_up (own_up (fun _ => 0) (0 : Int32).toNatClampNeg (0 : Int32)) (1 : Int32).toNatClampNeg (9 : Int32)) (2 : Int32).toNatClampNeg (10 : Int32)) (3 : Int32).toNatClampNeg (13 : Int32)) (4 : Int32).toNatClampNeg (32 : Int32)) (5 : Int32).toNatClampNeg (55295 : Int32)) (6 : Int32).toNatClampNeg (55296 : Int32)) (7 : Int32).toNatClampNeg (57343 : Int32)) (8 : Int32).toNatClampNeg (57344 : Int32)) (9 : Int32).toNatClampNeg (65533 : Int32)) (10 : Int32).toNatClampNeg (65535 : Int32)) (11 : Int32).toNatClampNeg (65536 : Int32)) (12 : Int32).toNatClampNeg (1114111 : Int32)) (13 : Int32).toNatClampNeg (1114112 : Int32)) (14 : Int32).toNatClampNeg (-2147483648 : Int32)) (15 : Int32).toNatClampNeg (2147483647 : Int32)) ((i1 &&& (2147483647 : Int32)) - ((i1 &&& (2147483647 : Int32)) / (16 : Int32)) * (16 : Int32)).toNatClampNeg) + (i2 - (i2 / (3 : Int32)) * (3 : Int32))))]) rfl ?_
    show Steps p.tables e below (T17.setTop (mkF m 113 #[.val (.int i0), .val (.int i1), .val (.int i2), .val (.ref b1), .val (.int ((own_up (own_up (own_up (own_up (own_up (own_up (own_up (own_up (own_up (own_up (own_up (own_up (own_up (own_up (own_up (own_up (fun _ => 0) (0 : Int32).toNatClampNeg (0 : Int32)) (1 : Int32).toNatClampNeg (9 : Int32)) (2 : Int32).toNatClampNeg (10 : Int32)) (3 : Int32).toNatClampNeg (13 : Int32)) (4 : Int32).toNatClampNeg (32 : Int32)) (5 : Int32).toNatClampNeg (55295 : Int32)) (6 : Int32).toNatClampNeg (55296 : Int32)) (7 : Int32).toNatClampNeg (57343 : Int32)) (8 : Int32).toNatClampNeg (57344 : Int32)) (9 : Int32).toNatClampNeg (65533 : Int32)) (10 : Int32).toNatClampNeg (65535 : Int32)) (11 : Int32).toNatClampNeg (65536 : Int32)) (12 : Int32).toNatClampNeg (1114111 : Int32)) (13 : Int32).toNatClampNeg (1114112 : Int32)) (14 : Int32).toNatClampNeg (-2147483648 : Int32)) (15 : Int32).toNatClampNeg (2147483647 : Int32)) ((i1 &&& (2147483647 : Int32)) - ((i1 &&& (2147483647 : Int32)) / (16 : Int32)) * (16 : Int32)).toNatClampNeg)), .val (.int (((own_up (own_up (own_up (own_up (own_up (own_up (own_up (own_up (own_up (own_up (own_up (own_up (own_up (own_up (own_up (own_up (fun _ => 0) (0 : Int32).toNatClampNeg (0 : Int32)) (1 : Int32).toNatClampNeg (9 : Int32)) (2 : Int32).toNatClampNeg (10 : Int32)) (3 : Int32).toNatClampNeg (13 : Int32)) (4 : Int32).toNatClampNeg (32 : Int32)) (5 : Int32).toNatClampNeg (55295 : Int32)) (6 : Int32).toNatClampNeg (55296 : Int32)) (7 : Int32).toNatClampNeg (57343 : Int32)) (8 : Int32).toNatClampNeg (57344 : Int32)) (9 : Int32).toNatClampNeg (65533 : Int32)) (10 : Int32).toNatClampNeg (65535 : Int32)) (11 : Int32).toNatClampNeg (65536 : Int32)) (12 : Int32).toNatClampNeg (1114111 : Int32)) (13 : Int32).toNatClampNeg (1114112 : Int32)) (14 : Int32).toNatClampNeg (-2147483648 : Int32)) (15 : Int32).toNatClampNeg (2147483647 : Int32)) ((i1 &&& (2147483647 : Int32)) - ((i1 &&& (2147483647 : Int32)) / (16 : Int32)) * (16 : Int32)).toNatClampNeg) + (i2 - (i2 / (3 : Int32)) * (3 : Int32))))] [])) _
    refine XS.iloadN X17.here hx rfl (hb hby at_113) rfl ?_
    show Steps p.tables e below (T17.setTop (mkF m 114 #[.val (.int i0), .val (.int i1), .val (.int i2), .val (.ref b1), .val (.int ((own_up (own_up (own_up (own_up (own_up (own_up (own_up (own_up (own_up (own_up (own_up (own_up (own_up (own_up (own_up (own_up (fun _ => 0) (0 : Int32).toNatClampNeg (0 : Int32)) (1 : Int32).toNatClampNeg (9 : Int32)) (2 : Int32).toNatClampNeg (10 : Int32)) (3 : Int32).toNatClampNeg (13 : Int32)) (4 : Int32).toNatClampNeg (32 : Int32)) (5 : Int32).toNatClampNeg (55295 : Int32)) (6 : Int32).toNatClampNeg (55296 : Int32)) (7 : Int32).toNatClampNeg (57343 : Int32)) (8 : Int32).toNatClampNeg (57344 : Int32)) (9 : Int32).toNatClampNeg (65533 : Int32)) (10 : Int32).toNatClampNeg (65535 : Int32)) (11 : Int32).toNatClampNeg (65536 : Int32)) (12 : Int32).toNatClampNeg (1114111 : Int32)) (13 : Int32).toNatClampNeg (1114112 : Int32)) (14 : Int32).toNatClampNeg (-2147483648 : Int32)) (15 : Int32).toNatClampNeg (2147483647 : Int32)) ((i1 &&& (2147483647 : Int32)) - ((i1 &&& (2147483647 : Int32)) / (16 : Int32)) * (16 : Int32)).toNatClampNeg)), .val (.int (((own_up (own_up (own_up (own_up (own_up (own_up (own_up (own_up (own_up (own_up (own_up (own_up (own_up (own_up (own_up (own_up (fun _ => 0) (0 : Int32).toNatClampNeg (0 : Int32)) (1 : Int32).toNatClampNeg (9 : Int32)) (2 : Int32).toNatClampNeg (10 : Int32)) (3 : Int32).toNatClampNeg (13 : Int32)) (4 : Int32).toNatClampNeg (32 : Int32)) (5 : Int32).toNatClampNeg (55295 : Int32)) (6 : Int32).toNatClampNeg (55296 : Int32)) (7 : Int32).toNatClampNeg (57343 : Int32)) (8 : Int32).toNatClampNeg (57344 : Int32)) (9 : Int32).toNatClampNeg (65533 : Int32)) (10 : Int32).toNatClampNeg (65535 : Int32)) (11 : Int32).toNatClampNeg (65536 : Int32)) (12 : Int32).toNatClampNeg (1114111 : Int32)) (13 : Int32).toNatClampNeg (1114112 : Int32)) (14 : Int32).toNatClampNeg (-2147483648 : Int32)) (15 : Int32).toNatClampNeg (2147483647 : Int32)) ((i1 &&& (2147483647 : Int32)) - ((i1 &&& (2147483647 : Int32)) / (16 : Int32)) * (16 : Int32)).toNatClampNeg) + (i2 - (i2 / (3 : Int32)) * (3 : Int32))))] [(.int i0)])) _
    refine st18 _ ?_
    show Steps p.tables e below (T18.setTop (mkF m 117 #[.val (.int i0), .val (.int i1), .val (.int i2), .val (.ref b1), .val (.int ((own_up (own_up (own_up (own_up (own_up (own_up (own_up (own_up (own_up (own_up (own_up (own_up (own_up (own_up (own_up (own_up (fun _ => 0) (0 : Int32).toNatClampNeg (0 : Int32)) (1 : Int32).toNatClampNeg (9 : Int32)) (2 : Int32).toNatClampNeg (10 : Int32)) (3 : Int32).toNatClampNeg (13 : Int32)) (4 : Int32).toNatClampNeg (32 : Int32)) (5 : Int32).toNatClampNeg (55295 : Int32)) (6 : Int32).toNatClampNeg (55296 : Int32)) (7 : Int32).toNatClampNeg (57343 : Int32)) (8 : Int32).toNatClampNeg (57344 : Int32)) (9 : Int32).toNatClampNeg (65533 : Int32)) (10 : Int32).toNatClampNeg (65535 : Int32)) (11 : Int32).toNatClampNeg (65536 : Int32)) (12 : Int32).toNatClampNeg (1114111 : Int32)) (13 : Int32).toNatClampNeg (1114112 : Int32)) (14 : Int32).toNatClampNeg (-2147483648 : Int32)) (15 : Int32).toNatClampNeg (2147483647 : Int32)) ((i1 &&& (2147483647 : Int32)) - ((i1 &&& (2147483647 : Int32)) / (16 : Int32)) * (16 : Int32)).toNatClampNeg)), .val (.int (((own_up (own_up (own_up (own_up (own_up (own_up (own_up (own_up (own_up (own_up (own_up (own_up (own_up (own_up (own_up (own_up (fun _ => 0) (0 : Int32).toNatClampNeg (0 : Int32)) (1 : Int32).toNatClampNeg (9 : Int32)) (2 : Int32).toNatClampNeg (10 : Int32)) (3 : Int32).toNatClampNeg (13 : Int32)) (4 : Int32).toNatClampNeg (32 : Int32)) (5 : Int32).toNatClampNeg (55295 : Int32)) (6 : Int32).toNatClampNeg (55296 : Int32)) (7 : Int32).toNatClampNeg (57343 : Int32)) (8 : Int32).toNatClampNeg (57344 : Int32)) (9 : Int32).toNatClampNeg (65533 : Int32)) (10 : Int32).toNatClampNeg (65535 : Int32)) (11 : Int32).toNatClampNeg (65536 : Int32)) (12 : Int32).toNatClampNeg (1114111 : Int32)) (13 : Int32).toNatClampNeg (1114112 : Int32)) (14 : Int32).toNatClampNeg (-2147483648 : Int32)) (15 : Int32).toNatClampNeg (2147483647 : Int32)) ((i1 &&& (2147483647 : Int32)) - ((i1 &&& (2147483647 : Int32)) / (16 : Int32)) * (16 : Int32)).toNatClampNeg) + (i2 - (i2 / (3 : Int32)) * (3 : Int32))))] [(.int (own_f1_0 i0))])) _
    refine XS.iloadN X18.here hx rfl (hb hby at_117) rfl ?_
    show Steps p.tables e below (T18.setTop (mkF m 118 #[.val (.int i0), .val (.int i1), .val (.int i2), .val (.ref b1), .val (.int ((own_up (own_up (own_up (own_up (own_up (own_up (own_up (own_up (own_up (own_up (own_up (own_up (own_up (own_up (own_up (own_up (fun _ => 0) (0 : Int32).toNatClampNeg (0 : Int32)) (1 : Int32).toNatClampNeg (9 : Int32)) (2 : Int32).toNatClampNeg (10 : Int32)) (3 : Int32).toNatClampNeg (13 : Int32)) (4 : Int32).toNatClampNeg (32 : Int32)) (5 : Int32).toNatClampNeg (55295 : Int32)) (6 : Int32).toNatClampNeg (55296 : Int32)) (7 : Int32).toNatClampNeg (57343 : Int32)) (8 : Int32).toNatClampNeg (57344 : Int32)) (9 : Int32).toNatClampNeg (65533 : Int32)) (10 : Int32).toNatClampNeg (65535 : Int32)) (11 : Int32).toNatClampNeg (65536 : Int32)) (12 : Int32).toNatClampNeg (1114111 : Int32)) (13 : Int32).toNatClampNeg (1114112 : Int32)) (14 : Int32).toNatClampNeg (-2147483648 : Int32)) (15 : Int32).toNatClampNeg (2147483647 : Int32)) ((i1 &&& (2147483647 : Int32)) - ((i1 &&& (2147483647 : Int32)) / (16 : Int32)) * (16 : Int32)).toNatClampNeg)), .val (.int (((own_up (own_up (own_up (own_up (own_up (own_up (own_up (own_up (own_up (own_up (own_up (own_up (own_up (own_up (own_up (own_up (fun _ => 0) (0 : Int32).toNatClampNeg (0 : Int32)) (1 : Int32).toNatClampNeg (9 : Int32)) (2 : Int32).toNatClampNeg (10 : Int32)) (3 : Int32).toNatClampNeg (13 : Int32)) (4 : Int32).toNatClampNeg (32 : Int32)) (5 : Int32).toNatClampNeg (55295 : Int32)) (6 : Int32).toNatClampNeg (55296 : Int32)) (7 : Int32).toNatClampNeg (57343 : Int32)) (8 : Int32).toNatClampNeg (57344 : Int32)) (9 : Int32).toNatClampNeg (65533 : Int32)) (10 : Int32).toNatClampNeg (65535 : Int32)) (11 : Int32).toNatClampNeg (65536 : Int32)) (12 : Int32).toNatClampNeg (1114111 : Int32)) (13 : Int32).toNatClampNeg (1114112 : Int32)) (14 : Int32).toNatClampNeg (-2147483648 : Int32)) (15 : Int32).toNatClampNeg (2147483647 : Int32)) ((i1 &&& (2147483647 : Int32)) - ((i1 &&& (2147483647 : Int32)) / (16 : Int32)) * (16 : Int32)).toNatClampNeg) + (i2 - (i2 / (3 : Int32)) * (3 : Int32))))] [(.int i0), (.int (own_f1_0 i0))])) _
    refine st19 _ ?_
    exact kt
  by_cases hc121 : (own_f1_0 i0) = (own_f2_0 i0)
  · obtain ⟨_, _, ⟨T21, L21, k21, n21⟩, -, X21, ⟨Lc21, hQ21, l21, y21, z21⟩, st21⟩ := Jvm.LawKit.callS X19 hx (y := (⟨"com/example/saho/saho/text/XmlChars", "isChar", "(I)Z"⟩ : MethodName)) hown (mvT hZ (hw _ (List.mem_of_getElem? (i := 12) rfl))) (mvT hZ (hw _ (List.mem_of_getElem? (i := 13) rfl))) (mvT hZ (hw _ (List.mem_of_getElem? (i := 14) rfl))) (mvT hZ (hw _ (List.mem_of_getElem? (i := 15) rfl))) (by decide) (backOf (W := 0) (rm1 l Z a0_ hw [] (((own_up (own_up (own_up (own_up (own_up (own_up (own_up (own_up (own_up (own_up (own_up (own_up (own_up (own_up (own_up (own_up (fun _ => 0) (0 : Int32).toNatClampNeg (0 : Int32)) (1 : Int32).toNatClampNeg (9 : Int32)) (2 : Int32).toNatClampNeg (10 : Int32)) (3 : Int32).toNatClampNeg (13 : Int32)) (4 : Int32).toNatClampNeg (32 : Int32)) (5 : Int32).toNatClampNeg (55295 : Int32)) (6 : Int32).toNatClampNeg (55296 : Int32)) (7 : Int32).toNatClampNeg (57343 : Int32)) (8 : Int32).toNatClampNeg (57344 : Int32)) (9 : Int32).toNatClampNeg (65533 : Int32)) (10 : Int32).toNatClampNeg (65535 : Int32)) (11 : Int32).toNatClampNeg (65536 : Int32)) (12 : Int32).toNatClampNeg (1114111 : Int32)) (13 : Int32).toNatClampNeg (1114112 : Int32)) (14 : Int32).toNatClampNeg (-2147483648 : Int32)) (15 : Int32).toNatClampNeg (2147483647 : Int32)) ((i1 &&& (2147483647 : Int32)) - ((i1 &&& (2147483647 : Int32)) / (16 : Int32)) * (16 : Int32)).toNatClampNeg) + (i2 - (i2 / (3 : Int32)) * (3 : Int32)))  h17 n0 Z17 ) hZ (hw _ (List.mem_of_getElem? (i := 15) rfl)) (hw _ (List.mem_of_getElem? (i := 14) rfl)) (by decide) (by decide)) (g := (mkF m 126 #[.val (.int i0), .val (.int i1), .val (.int i2), .val (.ref b1), .val (.int ((own_up (own_up (own_up (own_up (own_up (own_up (own_up (own_up (own_up (own_up (own_up (own_up (own_up (own_up (own_up (own_up (fun _ => 0) (0 : Int32).toNatClampNeg (0 : Int32)) (1 : Int32).toNatClampNeg (9 : Int32)) (2 : Int32).toNatClampNeg (10 : Int32)) (3 : Int32).toNatClampNeg (13 : Int32)) (4 : Int32).toNatClampNeg (32 : Int32)) (5 : Int32).toNatClampNeg (55295 : Int32)) (6 : Int32).toNatClampNeg (55296 : Int32)) (7 : Int32).toNatClampNeg (57343 : Int32)) (8 : Int32).toNatClampNeg (57344 : Int32)) (9 : Int32).toNatClampNeg (65533 : Int32)) (10 : Int32).toNatClampNeg (65535 : Int32)) (11 : Int32).toNatClampNeg (65536 : Int32)) (12 : Int32).toNatClampNeg (1114111 : Int32)) (13 : Int32).toNatClampNeg (1114112 : Int32)) (14 : Int32).toNatClampNeg (-2147483648 : Int32)) (15 : Int32).toNatClampNeg (2147483647 : Int32)) ((i1 &&& (2147483647 : Int32)) - ((i1 &&& (2147483647 : Int32)) / (16 : Int32)) * (16 : Int32)).toNatClampNeg)), .val (.int (((own_up (own_up (own_up (own_up (own_up (own_up (own_up (own_up (own_up (own_up (own_up (own_up (own_up (own_up (own_up (own_up (fun _ => 0) (0 : Int32).toNatClampNeg (0 : Int32)) (1 : Int32).toNatClampNeg (9 : Int32)) (2 : Int32).toNatClampNeg (10 : Int32)) (3 : Int32).toNatClampNeg (13 : Int32)) (4 : Int32).toNatClampNeg (32 : Int32)) (5 : Int32).toNatClampNeg (55295 : Int32)) (6 : Int32).toNatClampNeg (55296 : Int32)) (7 : Int32).toNatClampNeg (57343 : Int32)) (8 : Int32).toNatClampNeg (57344 : Int32)) (9 : Int32).toNatClampNeg (65533 : Int32)) (10 : Int32).toNatClampNeg (65535 : Int32)) (11 : Int32).toNatClampNeg (65536 : Int32)) (12 : Int32).toNatClampNeg (1114111 : Int32)) (13 : Int32).toNatClampNeg (1114112 : Int32)) (14 : Int32).toNatClampNeg (-2147483648 : Int32)) (15 : Int32).toNatClampNeg (2147483647 : Int32)) ((i1 &&& (2147483647 : Int32)) - ((i1 &&& (2147483647 : Int32)) / (16 : Int32)) * (16 : Int32)).toNatClampNeg) + (i2 - (i2 / (3 : Int32)) * (3 : Int32))))] [(.int (((own_up (own_up (own_up (own_up (own_up (own_up (own_up (own_up (own_up (own_up (own_up (own_up (own_up (own_up (own_up (own_up (fun _ => 0) (0 : Int32).toNatClampNeg (0 : Int32)) (1 : Int32).toNatClampNeg (9 : Int32)) (2 : Int32).toNatClampNeg (10 : Int32)) (3 : Int32).toNatClampNeg (13 : Int32)) (4 : Int32).toNatClampNeg (32 : Int32)) (5 : Int32).toNatClampNeg (55295 : Int32)) (6 : Int32).toNatClampNeg (55296 : Int32)) (7 : Int32).toNatClampNeg (57343 : Int32)) (8 : Int32).toNatClampNeg (57344 : Int32)) (9 : Int32).toNatClampNeg (65533 : Int32)) (10 : Int32).toNatClampNeg (65535 : Int32)) (11 : Int32).toNatClampNeg (65536 : Int32)) (12 : Int32).toNatClampNeg (1114111 : Int32)) (13 : Int32).toNatClampNeg (1114112 : Int32)) (14 : Int32).toNatClampNeg (-2147483648 : Int32)) (15 : Int32).toNatClampNeg (2147483647 : Int32)) ((i1 &&& (2147483647 : Int32)) - ((i1 &&& (2147483647 : Int32)) / (16 : Int32)) * (16 : Int32)).toNatClampNeg) + (i2 - (i2 / (3 : Int32)) * (3 : Int32))))])) rfl (by rw [hml]; rfl) (argsL := [(.int (((own_up (own_up (own_up (own_up (own_up (own_up (own_up (own_up (own_up (own_up (own_up (own_up (own_up (own_up (own_up (own_up (fun _ => 0) (0 : Int32).toNatClampNeg (0 : Int32)) (1 : Int32).toNatClampNeg (9 : Int32)) (2 : Int32).toNatClampNeg (10 : Int32)) (3 : Int32).toNatClampNeg (13 : Int32)) (4 : Int32).toNatClampNeg (32 : Int32)) (5 : Int32).toNatClampNeg (55295 : Int32)) (6 : Int32).toNatClampNeg (55296 : Int32)) (7 : Int32).toNatClampNeg (57343 : Int32)) (8 : Int32).toNatClampNeg (57344 : Int32)) (9 : Int32).toNatClampNeg (65533 : Int32)) (10 : Int32).toNatClampNeg (65535 : Int32)) (11 : Int32).toNatClampNeg (65536 : Int32)) (12 : Int32).toNatClampNeg (1114111 : Int32)) (13 : Int32).toNatClampNeg (1114112 : Int32)) (14 : Int32).toNatClampNeg (-2147483648 : Int32)) (15 : Int32).toNatClampNeg (2147483647 : Int32)) ((i1 &&& (2147483647 : Int32)) - ((i1 &&& (2147483647 : Int32)) / (16 : Int32)) * (16 : Int32)).toNatClampNeg) + (i2 - (i2 / (3 : Int32)) * (3 : Int32))))]) (rest := []) (lenOf pd_0_0 rfl) rfl (by show 2 * 0 + _ ≤ _; exact Nat.le_of_eq rfl) (hb hby at_126) (fun _ _ => ⟨rfl, e19, (by decide : 1 + 0 ≤ room_1.cells), (by decide : 16 + 0 ≤ room_1.slots)⟩)
    dsimp only [Pt.U, Pt.locs, Pt.cells, Pt.slots] at X21 l21 y21 z21 st21 hQ21
    subst l21 y21 z21
    obtain ⟨rfl, rfl, e21⟩ := hQ21
    rw [List.append_nil] at X21
    obtain ⟨_, _, ⟨T22, L22, k22, n22⟩, -, X22, ⟨Lc22, hQ22, l22, y22, z22⟩, st22⟩ := Jvm.LawKit.callS X21 hx (y := (⟨"com/example/saho/saho/text/XmlCharsIsCharPinLaw", "ref", "(I)Z"⟩ : MethodName)) hown (mvT hZ (hw _ (List.mem_of_getElem? (i := 18) rfl))) (mvT hZ (hw _ (List.mem_of_getElem? (i := 19) rfl))) (mvT hZ (hw _ (List.mem_of_getElem? (i := 20) rfl))) (mvT hZ (hw _ (List.mem_of_getElem? (i := 21) rfl))) (by decide) (backOf (W := 1) (rm2 l Z a0_ hw [] (((own_up (own_up (own_up (own_up (own_up (own_up (own_up (own_up (own_up (own_up (own_up (own_up (own_up (own_up (own_up (own_up (fun _ => 0) (0 : Int32).toNatClampNeg (0 : Int32)) (1 : Int32).toNatClampNeg (9 : Int32)) (2 : Int32).toNatClampNeg (10 : Int32)) (3 : Int32).toNatClampNeg (13 : Int32)) (4 : Int32).toNatClampNeg (32 : Int32)) (5 : Int32).toNatClampNeg (55295 : Int32)) (6 : Int32).toNatClampNeg (55296 : Int32)) (7 : Int32).toNatClampNeg (57343 : Int32)) (8 : Int32).toNatClampNeg (57344 : Int32)) (9 : Int32).toNatClampNeg (65533 : Int32)) (10 : Int32).toNatClampNeg (65535 : Int32)) (11 : Int32).toNatClampNeg (65536 : Int32)) (12 : Int32).toNatClampNeg (1114111 : Int32)) (13 : Int32).toNatClampNeg (1114112 : Int32)) (14 : Int32).toNatClampNeg (-2147483648 : Int32)) (15 : Int32).toNatClampNeg (2147483647 : Int32)) ((i1 &&& (2147483647 : Int32)) - ((i1 &&& (2147483647 : Int32)) / (16 : Int32)) * (16 : Int32)).toNatClampNeg) + (i2 - (i2 / (3 : Int32)) * (3 : Int32)))  h17 n0 Z17 ) hZ (hw _ (List.mem_of_getElem? (i := 21) rfl)) (hw _ (List.mem_of_getElem? (i := 20) rfl)) (by decide) (by decide)) (g := (mkF m 131 #[.val (.int i0), .val (.int i1), .val (.int i2), .val (.ref b1), .val (.int ((own_up (own_up (own_up (own_up (own_up (own_up (own_up (own_up (own_up (own_up (own_up (own_up (own_up (own_up (own_up (own_up (fun _ => 0) (0 : Int32).toNatClampNeg (0 : Int32)) (1 : Int32).toNatClampNeg (9 : Int32)) (2 : Int32).toNatClampNeg (10 : Int32)) (3 : Int32).toNatClampNeg (13 : Int32)) (4 : Int32).toNatClampNeg (32 : Int32)) (5 : Int32).toNatClampNeg (55295 : Int32)) (6 : Int32).toNatClampNeg (55296 : Int32)) (7 : Int32).toNatClampNeg (57343 : Int32)) (8 : Int32).toNatClampNeg (57344 : Int32)) (9 : Int32).toNatClampNeg (65533 : Int32)) (10 : Int32).toNatClampNeg (65535 : Int32)) (11 : Int32).toNatClampNeg (65536 : Int32)) (12 : Int32).toNatClampNeg (1114111 : Int32)) (13 : Int32).toNatClampNeg (1114112 : Int32)) (14 : Int32).toNatClampNeg (-2147483648 : Int32)) (15 : Int32).toNatClampNeg (2147483647 : Int32)) ((i1 &&& (2147483647 : Int32)) - ((i1 &&& (2147483647 : Int32)) / (16 : Int32)) * (16 : Int32)).toNatClampNeg)), .val (.int (((own_up (own_up (own_up (own_up (own_up (own_up (own_up (own_up (own_up (own_up (own_up (own_up (own_up (own_up (own_up (own_up (fun _ => 0) (0 : Int32).toNatClampNeg (0 : Int32)) (1 : Int32).toNatClampNeg (9 : Int32)) (2 : Int32).toNatClampNeg (10 : Int32)) (3 : Int32).toNatClampNeg (13 : Int32)) (4 : Int32).toNatClampNeg (32 : Int32)) (5 : Int32).toNatClampNeg (55295 : Int32)) (6 : Int32).toNatClampNeg (55296 : Int32)) (7 : Int32).toNatClampNeg (57343 : Int32)) (8 : Int32).toNatClampNeg (57344 : Int32)) (9 : Int32).toNatClampNeg (65533 : Int32)) (10 : Int32).toNatClampNeg (65535 : Int32)) (11 : Int32).toNatClampNeg (65536 : Int32)) (12 : Int32).toNatClampNeg (1114111 : Int32)) (13 : Int32).toNatClampNeg (1114112 : Int32)) (14 : Int32).toNatClampNeg (-2147483648 : Int32)) (15 : Int32).toNatClampNeg (2147483647 : Int32)) ((i1 &&& (2147483647 : Int32)) - ((i1 &&& (2147483647 : Int32)) / (16 : Int32)) * (16 : Int32)).toNatClampNeg) + (i2 - (i2 / (3 : Int32)) * (3 : Int32))))] [(.int (((own_up (own_up (own_up (own_up (own_up (own_up (own_up (own_up (own_up (own_up (own_up (own_up (own_up (own_up (own_up (own_up (fun _ => 0) (0 : Int32).toNatClampNeg (0 : Int32)) (1 : Int32).toNatClampNeg (9 : Int32)) (2 : Int32).toNatClampNeg (10 : Int32)) (3 : Int32).toNatClampNeg (13 : Int32)) (4 : Int32).toNatClampNeg (32 : Int32)) (5 : Int32).toNatClampNeg (55295 : Int32)) (6 : Int32).toNatClampNeg (55296 : Int32)) (7 : Int32).toNatClampNeg (57343 : Int32)) (8 : Int32).toNatClampNeg (57344 : Int32)) (9 : Int32).toNatClampNeg (65533 : Int32)) (10 : Int32).toNatClampNeg (65535 : Int32)) (11 : Int32).toNatClampNeg (65536 : Int32)) (12 : Int32).toNatClampNeg (1114111 : Int32)) (13 : Int32).toNatClampNeg (1114112 : Int32)) (14 : Int32).toNatClampNeg (-2147483648 : Int32)) (15 : Int32).toNatClampNeg (2147483647 : Int32)) ((i1 &&& (2147483647 : Int32)) - ((i1 &&& (2147483647 : Int32)) / (16 : Int32)) * (16 : Int32)).toNatClampNeg) + (i2 - (i2 / (3 : Int32)) * (3 : Int32)))), (.int (own_f1_0 (((own_up (own_up (own_up (own_up (own_up (own_up (own_up (own_up (own_up (own_up (own_up (own_up (own_up (own_up (own_up (own_up (fun _ => 0) (0 : Int32).toNatClampNeg (0 : Int32)) (1 : Int32).toNatClampNeg (9 : Int32)) (2 : Int32).toNatClampNeg (10 : Int32)) (3 : Int32).toNatClampNeg (13 : Int32)) (4 : Int32).toNatClampNeg (32 : Int32)) (5 : Int32).toNatClampNeg (55295 : Int32)) (6 : Int32).toNatClampNeg (55296 : Int32)) (7 : Int32).toNatClampNeg (57343 : Int32)) (8 : Int32).toNatClampNeg (57344 : Int32)) (9 : Int32).toNatClampNeg (65533 : Int32)) (10 : Int32).toNatClampNeg (65535 : Int32)) (11 : Int32).toNatClampNeg (65536 : Int32)) (12 : Int32).toNatClampNeg (1114111 : Int32)) (13 : Int32).toNatClampNeg (1114112 : Int32)) (14 : Int32).toNatClampNeg (-2147483648 : Int32)) (15 : Int32).toNatClampNeg (2147483647 : Int32)) ((i1 &&& (2147483647 : Int32)) - ((i1 &&& (2147483647 : Int32)) / (16 : Int32)) * (16 : Int32)).toNatClampNeg) + (i2 - (i2 / (3 : Int32)) * (3 : Int32)))))])) rfl (by rw [hml]; rfl) (argsL := [(.int (((own_up (own_up (own_up (own_up (own_up (own_up (own_up (own_up (own_up (own_up (own_up (own_up (own_up (own_up (own_up (own_up (fun _ => 0) (0 : Int32).toNatClampNeg (0 : Int32)) (1 : Int32).toNatClampNeg (9 : Int32)) (2 : Int32).toNatClampNeg (10 : Int32)) (3 : Int32).toNatClampNeg (13 : Int32)) (4 : Int32).toNatClampNeg (32 : Int32)) (5 : Int32).toNatClampNeg (55295 : Int32)) (6 : Int32).toNatClampNeg (55296 : Int32)) (7 : Int32).toNatClampNeg (57343 : Int32)) (8 : Int32).toNatClampNeg (57344 : Int32)) (9 : Int32).toNatClampNeg (65533 : Int32)) (10 : Int32).toNatClampNeg (65535 : Int32)) (11 : Int32).toNatClampNeg (65536 : Int32)) (12 : Int32).toNatClampNeg (1114111 : Int32)) (13 : Int32).toNatClampNeg (1114112 : Int32)) (14 : Int32).toNatClampNeg (-2147483648 : Int32)) (15 : Int32).toNatClampNeg (2147483647 : Int32)) ((i1 &&& (2147483647 : Int32)) - ((i1 &&& (2147483647 : Int32)) / (16 : Int32)) * (16 : Int32)).toNatClampNeg) + (i2 - (i2 / (3 : Int32)) * (3 : Int32))))]) (rest := [(.int (own_f1_0 (((own_up (own_up (own_up (own_up (own_up (own_up (own_up (own_up (own_up (own_up (own_up (own_up (own_up (own_up (own_up (own_up (fun _ => 0) (0 : Int32).toNatClampNeg (0 : Int32)) (1 : Int32).toNatClampNeg (9 : Int32)) (2 : Int32).toNatClampNeg (10 : Int32)) (3 : Int32).toNatClampNeg (13 : Int32)) (4 : Int32).toNatClampNeg (32 : Int32)) (5 : Int32).toNatClampNeg (55295 : Int32)) (6 : Int32).toNatClampNeg (55296 : Int32)) (7 : Int32).toNatClampNeg (57343 : Int32)) (8 : Int32).toNatClampNeg (57344 : Int32)) (9 : Int32).toNatClampNeg (65533 : Int32)) (10 : Int32).toNatClampNeg (65535 : Int32)) (11 : Int32).toNatClampNeg (65536 : Int32)) (12 : Int32).toNatClampNeg (1114111 : Int32)) (13 : Int32).toNatClampNeg (1114112 : Int32)) (14 : Int32).toNatClampNeg (-2147483648 : Int32)) (15 : Int32).toNatClampNeg (2147483647 : Int32)) ((i1 &&& (2147483647 : Int32)) - ((i1 &&& (2147483647 : Int32)) / (16 : Int32)) * (16 : Int32)).toNatClampNeg) + (i2 - (i2 / (3 : Int32)) * (3 : Int32)))))]) (lenOf pd_0_0 rfl) rfl (by show 2 * 0 + _ ≤ _; exact Nat.le_of_eq rfl) (hb hby at_131) (fun _ _ => ⟨rfl, e21, (by decide : 1 + 0 ≤ room_1.cells), (by decide : 16 + 0 ≤ room_1.slots)⟩)
    dsimp only [Pt.U, Pt.locs, Pt.cells, Pt.slots] at X22 l22 y22 z22 st22 hQ22
    subst l22 y22 z22
    obtain ⟨rfl, rfl, e22⟩ := hQ22
    rw [List.append_nil] at X22
    have pre23 : ∀ target, Steps p.tables e below (T22.setTop (mkF m 134 #[.val (.int i0), .val (.int i1), .val (.int i2), .val (.ref b1), .val (.int ((own_up (own_up (own_up (own_up (own_up (own_up (own_up (own_up (own_up (own_up (own_up (own_up (own_up (own_up (own_up (own_up (fun _ => 0) (0 : Int32).toNatClampNeg (0 : Int32)) (1 : Int32).toNatClampNeg (9 : Int32)) (2 : Int32).toNatClampNeg (10 : Int32)) (3 : Int32).toNatClampNeg (13 : Int32)) (4 : Int32).toNatClampNeg (32 : Int32)) (5 : Int32).toNatClampNeg (55295 : Int32)) (6 : Int32).toNatClampNeg (55296 : Int32)) (7 : Int32).toNatClampNeg (57343 : Int32)) (8 : Int32).toNatClampNeg (57344 : Int32)) (9 : Int32).toNatClampNeg (65533 : Int32)) (10 : Int32).toNatClampNeg (65535 : Int32)) (11 : Int32).toNatClampNeg (65536 : Int32)) (12 : Int32).toNatClampNeg (1114111 : Int32)) (13 : Int32).toNatClampNeg (1114112 : Int32)) (14 : Int32).toNatClampNeg (-2147483648 : Int32)) (15 : Int32).toNatClampNeg (2147483647 : Int32)) ((i1 &&& (2147483647 : Int32)) - ((i1 &&& (2147483647 : Int32)) / (16 : Int32)) * (16 : Int32)).toNatClampNeg)), .val (.int (((own_up (own_up (own_up (own_up (own_up (own_up (own_up (own_up (own_up (own_up (own_up (own_up (own_up (own_up (own_up (own_up (fun _ => 0) (0 : Int32).toNatClampNeg (0 : Int32)) (1 : Int32).toNatClampNeg (9 : Int32)) (2 : Int32).toNatClampNeg (10 : Int32)) (3 : Int32).toNatClampNeg (13 : Int32)) (4 : Int32).toNatClampNeg (32 : Int32)) (5 : Int32).toNatClampNeg (55295 : Int32)) (6 : Int32).toNatClampNeg (55296 : Int32)) (7 : Int32).toNatClampNeg (57343 : Int32)) (8 : Int32).toNatClampNeg (57344 : Int32)) (9 : Int32).toNatClampNeg (65533 : Int32)) (10 : Int32).toNatClampNeg (65535 : Int32)) (11 : Int32).toNatClampNeg (65536 : Int32)) (12 : Int32).toNatClampNeg (1114111 : Int32)) (13 : Int32).toNatClampNeg (1114112 : Int32)) (14 : Int32).toNatClampNeg (-2147483648 : Int32)) (15 : Int32).toNatClampNeg (2147483647 : Int32)) ((i1 &&& (2147483647 : Int32)) - ((i1 &&& (2147483647 : Int32)) / (16 : Int32)) * (16 : Int32)).toNatClampNeg) + (i2 - (i2 / (3 : Int32)) * (3 : Int32))))] [(.int (own_f2_0 (((own_up (own_up (own_up (own_up (own_up (own_up (own_up (own_up (own_up (own_up (own_up (own_up (own_up (own_up (own_up (own_up (fun _ => 0) (0 : Int32).toNatClampNeg (0 : Int32)) (1 : Int32).toNatClampNeg (9 : Int32)) (2 : Int32).toNatClampNeg (10 : Int32)) (3 : Int32).toNatClampNeg (13 : Int32)) (4 : Int32).toNatClampNeg (32 : Int32)) (5 : Int32).toNatClampNeg (55295 : Int32)) (6 : Int32).toNatClampNeg (55296 : Int32)) (7 : Int32).toNatClampNeg (57343 : Int32)) (8 : Int32).toNatClampNeg (57344 : Int32)) (9 : Int32).toNatClampNeg (65533 : Int32)) (10 : Int32).toNatClampNeg (65535 : Int32)) (11 : Int32).toNatClampNeg (65536 : Int32)) (12 : Int32).toNatClampNeg (1114111 : Int32)) (13 : Int32).toNatClampNeg (1114112 : Int32)) (14 : Int32).toNatClampNeg (-2147483648 : Int32)) (15 : Int32).toNatClampNeg (2147483647 : Int32)) ((i1 &&& (2147483647 : Int32)) - ((i1 &&& (2147483647 : Int32)) / (16 : Int32)) * (16 : Int32)).toNatClampNeg) + (i2 - (i2 / (3 : Int32)) * (3 : Int32))))), (.int (own_f1_0 (((own_up (own_up (own_up (own_up (own_up (own_up (own_up (own_up (own_up (own_up (own_up (own_up (own_up (own_up (own_up (own_up (fun _ => 0) (0 : Int32).toNatClampNeg (0 : Int32)) (1 : Int32).toNatClampNeg (9 : Int32)) (2 : Int32).toNatClampNeg (10 : Int32)) (3 : Int32).toNatClampNeg (13 : Int32)) (4 : Int32).toNatClampNeg (32 : Int32)) (5 : Int32).toNatClampNeg (55295 : Int32)) (6 : Int32).toNatClampNeg (55296 : Int32)) (7 : Int32).toNatClampNeg (57343 : Int32)) (8 : Int32).toNatClampNeg (57344 : Int32)) (9 : Int32).toNatClampNeg (65533 : Int32)) (10 : Int32).toNatClampNeg (65535 : Int32)) (11 : Int32).toNatClampNeg (65536 : Int32)) (12 : Int32).toNatClampNeg (1114111 : Int32)) (13 : Int32).toNatClampNeg (1114112 : Int32)) (14 : Int32).toNatClampNeg (-2147483648 : Int32)) (15 : Int32).toNatClampNeg (2147483647 : Int32)) ((i1 &&& (2147483647 : Int32)) - ((i1 &&& (2147483647 : Int32)) / (16 : Int32)) * (16 : Int32)).toNatClampNeg) + (i2 - (i2 / (3 : Int32)) * (3 : Int32)))))])) target → Steps p.tables e below (T0.setTop (mkF m 0 #[.val (.int i0), .val (.int i1), .val (.int i2), .unset, .unset, .unset] [])) target := by
      intro target kt
      refine pre20 target ?_
      show Steps p.tables e below (T19.setTop (mkF m 121 #[.val (.int i0), .val (.int i1), .val (.int i2), .val (.ref b1), .val (.int ((own_up (own_up (own_up (own_up (own_up (own_up (own_up (own_up (own_up (own_up (own_up (own_up (own_up (own_up (own_up (own_up (fun _ => 0) (0 : Int32).toNatClampNeg (0 : Int32)) (1 : Int32).toNatClampNeg (9 : Int32)) (2 : Int32).toNatClampNeg (10 : Int32)) (3 : Int32).toNatClampNeg (13 : Int32)) (4 : Int32).toNatClampNeg (32 : Int32)) (5 : Int32).toNatClampNeg (55295 : Int32)) (6 : Int32).toNatClampNeg (55296 : Int32)) (7 : Int32).toNatClampNeg (57343 : Int32)) (8 : Int32).toNatClampNeg (57344 : Int32)) (9 : Int32).toNatClampNeg (65533 : Int32)) (10 : Int32).toNatClampNeg (65535 : Int32)) (11 : Int32).toNatClampNeg (65536 : Int32)) (12 : Int32).toNatClampNeg (1114111 : Int32)) (13 : Int32).toNatClampNeg (1114112 : Int32)) (14 : Int32).toNatClampNeg (-2147483648 : Int32)) (15 : Int32).toNatClampNeg (2147483647 : Int32)) ((i1 &&& (2147483647 : Int32)) - ((i1 &&& (2147483647 : Int32)) / (16 : Int32)) * (16 : Int32)).toNatClampNeg)), .val (.int (((own_up (own_up (own_up (own_up (own_up (own_up (own_up (own_up (own_up (own_up (own_up (own_up (own_up (own_up (own_up (own_up (fun _ => 0) (0 : Int32).toNatClampNeg (0 : Int32)) (1 : Int32).toNatClampNeg (9 : Int32)) (2 : Int32).toNatClampNeg (10 : Int32)) (3 : Int32).toNatClampNeg (13 : Int32)) (4 : Int32).toNatClampNeg (32 : Int32)) (5 : Int32).toNatClampNeg (55295 : Int32)) (6 : Int32).toNatClampNeg (55296 : Int32)) (7 : Int32).toNatClampNeg (57343 : Int32)) (8 : Int32).toNatClampNeg (57344 : Int32)) (9 : Int32).toNatClampNeg (65533 : Int32)) (10 : Int32).toNatClampNeg (65535 : Int32)) (11 : Int32).toNatClampNeg (65536 : Int32)) (12 : Int32).toNatClampNeg (1114111 : Int32)) (13 : Int32).toNatClampNeg (1114112 : Int32)) (14 : Int32).toNatClampNeg (-2147483648 : Int32)) (15 : Int32).toNatClampNeg (2147483647 : Int32)) ((i1 &&& (2147483647 : Int32)) - ((i1 &&& (2147483647 : Int32)) / (16 : Int32)) * (16 : Int32)).toNatClampNeg) + (i2 - (i2 / (3 : Int32)) * (3 : Int32))))] [(.int (own_f2_0 i0)), (.int (own_f1_0 i0))])) _
      refine XS.icmpNo X19.here hx rfl (hb hby at_121) rfl (teq hc121).2 ?_
      show Steps p.tables e below (T19.setTop (mkF m 124 #[.val (.int i0), .val (.int i1), .val (.int i2), .val (.ref b1), .val (.int ((own_up (own_up (own_up (own_up (own_up (own_up (own_up (own_up (own_up (own_up (own_up (own_up (own_up (own_up (own_up (own_up (fun _ => 0) (0 : Int32).toNatClampNeg (0 : Int32)) (1 : Int32).toNatClampNeg (9 : Int32)) (2 : Int32).toNatClampNeg (10 : Int32)) (3 : Int32).toNatClampNeg (13 : Int32)) (4 : Int32).toNatClampNeg (32 : Int32)) (5 : Int32).toNatClampNeg (55295 : Int32)) (6 : Int32).toNatClampNeg (55296 : Int32)) (7 : Int32).toNatClampNeg (57343 : Int32)) (8 : Int32).toNatClampNeg (57344 : Int32)) (9 : Int32).toNatClampNeg (65533 : Int32)) (10 : Int32).toNatClampNeg (65535 : Int32)) (11 : Int32).toNatClampNeg (65536 : Int32)) (12 : Int32).toNatClampNeg (1114111 : Int32)) (13 : Int32).toNatClampNeg (1114112 : Int32)) (14 : Int32).toNatClampNeg (-2147483648 : Int32)) (15 : Int32).toNatClampNeg (2147483647 : Int32)) ((i1 &&& (2147483647 : Int32)) - ((i1 &&& (2147483647 : Int32)) / (16 : Int32)) * (16 : Int32)).toNatClampNeg)), .val (.int (((own_up (own_up (own_up (own_up (own_up (own_up (own_up (own_up (own_up (own_up (own_up (own_up (own_up (own_up (own_up (own_up (fun _ => 0) (0 : Int32).toNatClampNeg (0 : Int32)) (1 : Int32).toNatClampNeg (9 : Int32)) (2 : Int32).toNatClampNeg (10 : Int32)) (3 : Int32).toNatClampNeg (13 : Int32)) (4 : Int32).toNatClampNeg (32 : Int32)) (5 : Int32).toNatClampNeg (55295 : Int32)) (6 : Int32).toNatClampNeg (55296 : Int32)) (7 : Int32).toNatClampNeg (57343 : Int32)) (8 : Int32).toNatClampNeg (57344 : Int32)) (9 : Int32).toNatClampNeg (65533 : Int32)) (10 : Int32).toNatClampNeg (65535 : Int32)) (11 : Int32).toNatClampNeg (65536 : Int32)) (12 : Int32).toNatClampNeg (1114111 : Int32)) (13 : Int32).toNatClampNeg (1114112 : Int32)) (14 : Int32).toNatClampNeg (-2147483648 : Int32)) (15 : Int32).toNatClampNeg (2147483647 : Int32)) ((i1 &&& (2147483647 : Int32)) - ((i1 &&& (2147483647 : Int32)) / (16 : Int32)) * (16 : Int32)).toNatClampNeg) + (i2 - (i2 / (3 : Int32)) * (3 : Int32))))] [])) _
      refine XS.iload X19.here hx rfl (hb hby at_124) rfl ?_
      show Steps p.tables e below (T19.setTop (mkF m 126 #[.val (.int i0), .val (.int i1), .val (.int i2), .val (.ref b1), .val (.int ((own_up (own_up (own_up (own_up (own_up (own_up (own_up (own_up (own_up (own_up (own_up (own_up (own_up (own_up (own_up (own_up (fun _ => 0) (0 : Int32).toNatClampNeg (0 : Int32)) (1 : Int32).toNatClampNeg (9 : Int32)) (2 : Int32).toNatClampNeg (10 : Int32)) (3 : Int32).toNatClampNeg (13 : Int32)) (4 : Int32).toNatClampNeg (32 : Int32)) (5 : Int32).toNatClampNeg (55295 : Int32)) (6 : Int32).toNatClampNeg (55296 : Int32)) (7 : Int32).toNatClampNeg (57343 : Int32)) (8 : Int32).toNatClampNeg (57344 : Int32)) (9 : Int32).toNatClampNeg (65533 : Int32)) (10 : Int32).toNatClampNeg (65535 : Int32)) (11 : Int32).toNatClampNeg (65536 : Int32)) (12 : Int32).toNatClampNeg (1114111 : Int32)) (13 : Int32).toNatClampNeg (1114112 : Int32)) (14 : Int32).toNatClampNeg (-2147483648 : Int32)) (15 : Int32).toNatClampNeg (2147483647 : Int32)) ((i1 &&& (2147483647 : Int32)) - ((i1 &&& (2147483647 : Int32)) / (16 : Int32)) * (16 : Int32)).toNatClampNeg)), .val (.int (((own_up (own_up (own_up (own_up (own_up (own_up (own_up (own_up (own_up (own_up (own_up (own_up (own_up (own_up (own_up (own_up (fun _ => 0) (0 : Int32).toNatClampNeg (0 : Int32)) (1 : Int32).toNatClampNeg (9 : Int32)) (2 : Int32).toNatClampNeg (10 : Int32)) (3 : Int32).toNatClampNeg (13 : Int32)) (4 : Int32).toNatClampNeg (32 : Int32)) (5 : Int32).toNatClampNeg (55295 : Int32)) (6 : Int32).toNatClampNeg (55296 : Int32)) (7 : Int32).toNatClampNeg (57343 : Int32)) (8 : Int32).toNatClampNeg (57344 : Int32)) (9 : Int32).toNatClampNeg (65533 : Int32)) (10 : Int32).toNatClampNeg (65535 : Int32)) (11 : Int32).toNatClampNeg (65536 : Int32)) (12 : Int32).toNatClampNeg (1114111 : Int32)) (13 : Int32).toNatClampNeg (1114112 : Int32)) (14 : Int32).toNatClampNeg (-2147483648 : Int32)) (15 : Int32).toNatClampNeg (2147483647 : Int32)) ((i1 &&& (2147483647 : Int32)) - ((i1 &&& (2147483647 : Int32)) / (16 : Int32)) * (16 : Int32)).toNatClampNeg) + (i2 - (i2 / (3 : Int32)) * (3 : Int32))))] [(.int (((own_up (own_up (own_up (own_up (own_up (own_up (own_up (own_up (own_up (own_up (own_up (own_up (own_up (own_up (own_up (own_up (fun _ => 0) (0 : Int32).toNatClampNeg (0 : Int32)) (1 : Int32).toNatClampNeg (9 : Int32)) (2 : Int32).toNatClampNeg (10 : Int32)) (3 : Int32).toNatClampNeg (13 : Int32)) (4 : Int32).toNatClampNeg (32 : Int32)) (5 : Int32).toNatClampNeg (55295 : Int32)) (6 : Int32).toNatClampNeg (55296 : Int32)) (7 : Int32).toNatClampNeg (57343 : Int32)) (8 : Int32).toNatClampNeg (57344 : Int32)) (9 : Int32).toNatClampNeg (65533 : Int32)) (10 : Int32).toNatClampNeg (65535 : Int32)) (11 : Int32).toNatClampNeg (65536 : Int32)) (12 : Int32).toNatClampNeg (1114111 : Int32)) (13 : Int32).toNatClampNeg (1114112 : Int32)) (14 : Int32).toNatClampNeg (-2147483648 : Int32)) (15 : Int32).toNatClampNeg (2147483647 : Int32)) ((i1 &&& (2147483647 : Int32)) - ((i1 &&& (2147483647 : Int32)) / (16 : Int32)) * (16 : Int32)).toNatClampNeg) + (i2 - (i2 / (3 : Int32)) * (3 : Int32))))])) _
      refine st21 _ ?_
      show Steps p.tables e below (T21.setTop (mkF m 129 #[.val (.int i0), .val (.int i1), .val (.int i2), .val (.ref b1), .val (.int ((own_up (own_up (own_up (own_up (own_up (own_up (own_up (own_up (own_up (own_up (own_up (own_up (own_up (own_up (own_up (own_up (fun _ => 0) (0 : Int32).toNatClampNeg (0 : Int32)) (1 : Int32).toNatClampNeg (9 : Int32)) (2 : Int32).toNatClampNeg (10 : Int32)) (3 : Int32).toNatClampNeg (13 : Int32)) (4 : Int32).toNatClampNeg (32 : Int32)) (5 : Int32).toNatClampNeg (55295 : Int32)) (6 : Int32).toNatClampNeg (55296 : Int32)) (7 : Int32).toNatClampNeg (57343 : Int32)) (8 : Int32).toNatClampNeg (57344 : Int32)) (9 : Int32).toNatClampNeg (65533 : Int32)) (10 : Int32).toNatClampNeg (65535 : Int32)) (11 : Int32).toNatClampNeg (65536 : Int32)) (12 : Int32).toNatClampNeg (1114111 : Int32)) (13 : Int32).toNatClampNeg (1114112 : Int32)) (14 : Int32).toNatClampNeg (-2147483648 : Int32)) (15 : Int32).toNatClampNeg (2147483647 : Int32)) ((i1 &&& (2147483647 : Int32)) - ((i1 &&& (2147483647 : Int32)) / (16 : Int32)) * (16 : Int32)).toNatClampNeg)), .val (.int (((own_up (own_up (own_up (own_up (own_up (own_up (own_up (own_up (own_up (own_up (own_up (own_up (own_up (own_up (own_up (own_up (fun _ => 0) (0 : Int32).toNatClampNeg (0 : Int32)) (1 : Int32).toNatClampNeg (9 : Int32)) (2 : Int32).toNatClampNeg (10 : Int32)) (3 : Int32).toNatClampNeg (13 : Int32)) (4 : Int32).toNatClampNeg (32 : Int32)) (5 : Int32).toNatClampNeg (55295 : Int32)) (6 : Int32).toNatClampNeg (55296 : Int32)) (7 : Int32).toNatClampNeg (57343 : Int32)) (8 : Int32).toNatClampNeg (57344 : Int32)) (9 : Int32).toNatClampNeg (65533 : Int32)) (10 : Int32).toNatClampNeg (65535 : Int32)) (11 : Int32).toNatClampNeg (65536 : Int32)) (12 : Int32).toNatClampNeg (1114111 : Int32)) (13 : Int32).toNatClampNeg (1114112 : Int32)) (14 : Int32).toNatClampNeg (-2147483648 : Int32)) (15 : Int32).toNatClampNeg (2147483647 : Int32)) ((i1 &&& (2147483647 : Int32)) - ((i1 &&& (2147483647 : Int32)) / (16 : Int32)) * (16 : Int32)).toNatClampNeg) + (i2 - (i2 / (3 : Int32)) * (3 : Int32))))] [(.int (own_f1_0 (((own_up (own_up (own_up (own_up (own_up (own_up (own_up (own_up (own_up (own_up (own_up (own_up (own_up (own_up (own_up (own_up (fun _ => 0) (0 : Int32).toNatClampNeg (0 : Int32)) (1 : Int32).toNatClampNeg (9 : Int32)) (2 : Int32).toNatClampNeg (10 : Int32)) (3 : Int32).toNatClampNeg (13 : Int32)) (4 : Int32).toNatClampNeg (32 : Int32)) (5 : Int32).toNatClampNeg (55295 : Int32)) (6 : Int32).toNatClampNeg (55296 : Int32)) (7 : Int32).toNatClampNeg (57343 : Int32)) (8 : Int32).toNatClampNeg (57344 : Int32)) (9 : Int32).toNatClampNeg (65533 : Int32)) (10 : Int32).toNatClampNeg (65535 : Int32)) (11 : Int32).toNatClampNeg (65536 : Int32)) (12 : Int32).toNatClampNeg (1114111 : Int32)) (13 : Int32).toNatClampNeg (1114112 : Int32)) (14 : Int32).toNatClampNeg (-2147483648 : Int32)) (15 : Int32).toNatClampNeg (2147483647 : Int32)) ((i1 &&& (2147483647 : Int32)) - ((i1 &&& (2147483647 : Int32)) / (16 : Int32)) * (16 : Int32)).toNatClampNeg) + (i2 - (i2 / (3 : Int32)) * (3 : Int32)))))])) _
      refine XS.iload X21.here hx rfl (hb hby at_129) rfl ?_
      show Steps p.tables e below (T21.setTop (mkF m 131 #[.val (.int i0), .val (.int i1), .val (.int i2), .val (.ref b1), .val (.int ((own_up (own_up (own_up (own_up (own_up (own_up (own_up (own_up (own_up (own_up (own_up (own_up (own_up (own_up (own_up (own_up (fun _ => 0) (0 : Int32).toNatClampNeg (0 : Int32)) (1 : Int32).toNatClampNeg (9 : Int32)) (2 : Int32).toNatClampNeg (10 : Int32)) (3 : Int32).toNatClampNeg (13 : Int32)) (4 : Int32).toNatClampNeg (32 : Int32)) (5 : Int32).toNatClampNeg (55295 : Int32)) (6 : Int32).toNatClampNeg (55296 : Int32)) (7 : Int32).toNatClampNeg (57343 : Int32)) (8 : Int32).toNatClampNeg (57344 : Int32)) (9 : Int32).toNatClampNeg (65533 : Int32)) (10 : Int32).toNatClampNeg (65535 : Int32)) (11 : Int32).toNatClampNeg (65536 : Int32)) (12 : Int32).toNatClampNeg (1114111 : Int32)) (13 : Int32).toNatClampNeg (1114112 : Int32)) (14 : Int32).toNatClampNeg (-2147483648 : Int32)) (15 : Int32).toNatClampNeg (2147483647 : Int32)) ((i1 &&& (2147483647 : Int32)) - ((i1 &&& (2147483647 : Int32)) / (16 : Int32)) * (16 : Int32)).toNatClampNeg)), .val (.int (((own_up (own_up (own_up (own_up (own_up (own_up (own_up (own_up (own_up (own_up (own_up (own_up (own_up (own_up (own_up (own_up (fun _ => 0) (0 : Int32).toNatClampNeg (0 : Int32)) (1 : Int32).toNatClampNeg (9 : Int32)) (2 : Int32).toNatClampNeg (10 : Int32)) (3 : Int32).toNatClampNeg (13 : Int32)) (4 : Int32).toNatClampNeg (32 : Int32)) (5 : Int32).toNatClampNeg (55295 : Int32)) (6 : Int32).toNatClampNeg (55296 : Int32)) (7 : Int32).toNatClampNeg (57343 : Int32)) (8 : Int32).toNatClampNeg (57344 : Int32)) (9 : Int32).toNatClampNeg (65533 : Int32)) (10 : Int32).toNatClampNeg (65535 : Int32)) (11 : Int32).toNatClampNeg (65536 : Int32)) (12 : Int32).toNatClampNeg (1114111 : Int32)) (13 : Int32).toNatClampNeg (1114112 : Int32)) (14 : Int32).toNatClampNeg (-2147483648 : Int32)) (15 : Int32).toNatClampNeg (2147483647 : Int32)) ((i1 &&& (2147483647 : Int32)) - ((i1 &&& (2147483647 : Int32)) / (16 : Int32)) * (16 : Int32)).toNatClampNeg) + (i2 - (i2 / (3 : Int32)) * (3 : Int32))))] [(.int (((own_up (own_up (own_up (own_up (own_up (own_up (own_up (own_up (own_up (own_up (own_up (own_up (own_up (own_up (own_up (own_up (fun _ => 0) (0 : Int32).toNatClampNeg (0 : Int32)) (1 : Int32).toNatClampNeg (9 : Int32)) (2 : Int32).toNatClampNeg (10 : Int32)) (3 : Int32).toNatClampNeg (13 : Int32)) (4 : Int32).toNatClampNeg (32 : Int32)) (5 : Int32).toNatClampNeg (55295 : Int32)) (6 : Int32).toNatClampNeg (55296 : Int32)) (7 : Int32).toNatClampNeg (57343 : Int32)) (8 : Int32).toNatClampNeg (57344 : Int32)) (9 : Int32).toNatClampNeg (65533 : Int32)) (10 : Int32).toNatClampNeg (65535 : Int32)) (11 : Int32).toNatClampNeg (65536 : Int32)) (12 : Int32).toNatClampNeg (1114111 : Int32)) (13 : Int32).toNatClampNeg (1114112 : Int32)) (14 : Int32).toNatClampNeg (-2147483648 : Int32)) (15 : Int32).toNatClampNeg (2147483647 : Int32)) ((i1 &&& (2147483647 : Int32)) - ((i1 &&& (2147483647 : Int32)) / (16 : Int32)) * (16 : Int32)).toNatClampNeg) + (i2 - (i2 / (3 : Int32)) * (3 : Int32)))), (.int (own_f1_0 (((own_up (own_up (own_up (own_up (own_up (own_up (own_up (own_up (own_up (own_up (own_up (own_up (own_up (own_up (own_up (own_up (fun _ => 0) (0 : Int32).toNatClampNeg (0 : Int32)) (1 : Int32).toNatClampNeg (9 : Int32)) (2 : Int32).toNatClampNeg (10 : Int32)) (3 : Int32).toNatClampNeg (13 : Int32)) (4 : Int32).toNatClampNeg (32 : Int32)) (5 : Int32).toNatClampNeg (55295 : Int32)) (6 : Int32).toNatClampNeg (55296 : Int32)) (7 : Int32).toNatClampNeg (57343 : Int32)) (8 : Int32).toNatClampNeg (57344 : Int32)) (9 : Int32).toNatClampNeg (65533 : Int32)) (10 : Int32).toNatClampNeg (65535 : Int32)) (11 : Int32).toNatClampNeg (65536 : Int32)) (12 : Int32).toNatClampNeg (1114111 : Int32)) (13 : Int32).toNatClampNeg (1114112 : Int32)) (14 : Int32).toNatClampNeg (-2147483648 : Int32)) (15 : Int32).toNatClampNeg (2147483647 : Int32)) ((i1 &&& (2147483647 : Int32)) - ((i1 &&& (2147483647 : Int32)) / (16 : Int32)) * (16 : Int32)).toNatClampNeg) + (i2 - (i2 / (3 : Int32)) * (3 : Int32)))))])) _
      refine st22 _ ?_
      exact kt
    by_cases hc134 : (own_f1_0 (((own_up (own_up (own_up (own_up (own_up (own_up (own_up (own_up (own_up (own_up (own_up (own_up (own_up (own_up (own_up (own_up (fun _ => 0) (0 : Int32).toNatClampNeg (0 : Int32)) (1 : Int32).toNatClampNeg (9 : Int32)) (2 : Int32).toNatClampNeg (10 : Int32)) (3 : Int32).toNatClampNeg (13 : Int32)) (4 : Int32).toNatClampNeg (32 : Int32)) (5 : Int32).toNatClampNeg (55295 : Int32)) (6 : Int32).toNatClampNeg (55296 : Int32)) (7 : Int32).toNatClampNeg (57343 : Int32)) (8 : Int32).toNatClampNeg (57344 : Int32)) (9 : Int32).toNatClampNeg (65533 : Int32)) (10 : Int32).toNatClampNeg (65535 : Int32)) (11 : Int32).toNatClampNeg (65536 : Int32)) (12 : Int32).toNatClampNeg (1114111 : Int32)) (13 : Int32).toNatClampNeg (1114112 : Int32)) (14 : Int32).toNatClampNeg (-2147483648 : Int32)) (15 : Int32).toNatClampNeg (2147483647 : Int32)) ((i1 &&& (2147483647 : Int32)) - ((i1 &&& (2147483647 : Int32)) / (16 : Int32)) * (16 : Int32)).toNatClampNeg) + (i2 - (i2 / (3 : Int32)) * (3 : Int32)))) = (own_f2_0 (((own_up (own_up (own_up (own_up (own_up (own_up (own_up (own_up (own_up (own_up (own_up (own_up (own_up (own_up (own_up (own_up (fun _ => 0) (0 : Int32).toNatClampNeg (0 : Int32)) (1 : Int32).toNatClampNeg (9 : Int32)) (2 : Int32).toNatClampNeg (10 : Int32)) (3 : Int32).toNatClampNeg (13 : Int32)) (4 : Int32).toNatClampNeg (32 : Int32)) (5 : Int32).toNatClampNeg (55295 : Int32)) (6 : Int32).toNatClampNeg (55296 : Int32)) (7 : Int32).toNatClampNeg (57343 : Int32)) (8 : Int32).toNatClampNeg (57344 : Int32)) (9 : Int32).toNatClampNeg (65533 : Int32)) (10 : Int32).toNatClampNeg (65535 : Int32)) (11 : Int32).toNatClampNeg (65536 : Int32)) (12 : Int32).toNatClampNeg (1114111 : Int32)) (13 : Int32).toNatClampNeg (1114112 : Int32)) (14 : Int32).toNatClampNeg (-2147483648 : Int32)) (15 : Int32).toNatClampNeg (2147483647 : Int32)) ((i1 &&& (2147483647 : Int32)) - ((i1 &&& (2147483647 : Int32)) / (16 : Int32)) * (16 : Int32)).toNatClampNeg) + (i2 - (i2 / (3 : Int32)) * (3 : Int32))))
    · refine ⟨T22, _, _, _, X22, N17, (by decide), (by decide), fun fs hr => ?_⟩
      have hv : (own_f0_0 i0 i1 i2) = (1 : Int32) := by unfold own_f0_0; rw [if_pos hc121, if_pos hc134]
      rw [hv] at hr
      refine pre23 _ ?_
      show Steps p.tables e below (T22.setTop (mkF m 134 #[.val (.int i0), .val (.int i1), .val (.int i2), .val (.ref b1), .val (.int ((own_up (own_up (own_up (own_up (own_up (own_up (own_up (own_up (own_up (own_up (own_up (own_up (own_up (own_up (own_up (own_up (fun _ => 0) (0 : Int32).toNatClampNeg (0 : Int32)) (1 : Int32).toNatClampNeg (9 : Int32)) (2 : Int32).toNatClampNeg (10 : Int32)) (3 : Int32).toNatClampNeg (13 : Int32)) (4 : Int32).toNatClampNeg (32 : Int32)) (5 : Int32).toNatClampNeg (55295 : Int32)) (6 : Int32).toNatClampNeg (55296 : Int32)) (7 : Int32).toNatClampNeg (57343 : Int32)) (8 : Int32).toNatClampNeg (57344 : Int32)) (9 : Int32).toNatClampNeg (65533 : Int32)) (10 : Int32).toNatClampNeg (65535 : Int32)) (11 : Int32).toNatClampNeg (65536 : Int32)) (12 : Int32).toNatClampNeg (1114111 : Int32)) (13 : Int32).toNatClampNeg (1114112 : Int32)) (14 : Int32).toNatClampNeg (-2147483648 : Int32)) (15 : Int32).toNatClampNeg (2147483647 : Int32)) ((i1 &&& (2147483647 : Int32)) - ((i1 &&& (2147483647 : Int32)) / (16 : Int32)) * (16 : Int32)).toNatClampNeg)), .val (.int (((own_up (own_up (own_up (own_up (own_up (own_up (own_up (own_up (own_up (own_up (own_up (own_up (own_up (own_up (own_up (own_up (fun _ => 0) (0 : Int32).toNatClampNeg (0 : Int32)) (1 : Int32).toNatClampNeg (9 : Int32)) (2 : Int32).toNatClampNeg (10 : Int32)) (3 : Int32).toNatClampNeg (13 : Int32)) (4 : Int32).toNatClampNeg (32 : Int32)) (5 : Int32).toNatClampNeg (55295 : Int32)) (6 : Int32).toNatClampNeg (55296 : Int32)) (7 : Int32).toNatClampNeg (57343 : Int32)) (8 : Int32).toNatClampNeg (57344 : Int32)) (9 : Int32).toNatClampNeg (65533 : Int32)) (10 : Int32).toNatClampNeg (65535 : Int32)) (11 : Int32).toNatClampNeg (65536 : Int32)) (12 : Int32).toNatClampNeg (1114111 : Int32)) (13 : Int32).toNatClampNeg (1114112 : Int32)) (14 : Int32).toNatClampNeg (-2147483648 : Int32)) (15 : Int32).toNatClampNeg (2147483647 : Int32)) ((i1 &&& (2147483647 : Int32)) - ((i1 &&& (2147483647 : Int32)) / (16 : Int32)) * (16 : Int32)).toNatClampNeg) + (i2 - (i2 / (3 : Int32)) * (3 : Int32))))] [(.int (own_f2_0 (((own_up (own_up (own_up (own_up (own_up (own_up (own_up (own_up (own_up (own_up (own_up (own_up (own_up (own_up (own_up (own_up (fun _ => 0) (0 : Int32).toNatClampNeg (0 : Int32)) (1 : Int32).toNatClampNeg (9 : Int32)) (2 : Int32).toNatClampNeg (10 : Int32)) (3 : Int32).toNatClampNeg (13 : Int32)) (4 : Int32).toNatClampNeg (32 : Int32)) (5 : Int32).toNatClampNeg (55295 : Int32)) (6 : Int32).toNatClampNeg (55296 : Int32)) (7 : Int32).toNatClampNeg (57343 : Int32)) (8 : Int32).toNatClampNeg (57344 : Int32)) (9 : Int32).toNatClampNeg (65533 : Int32)) (10 : Int32).toNatClampNeg (65535 : Int32)) (11 : Int32).toNatClampNeg (65536 : Int32)) (12 : Int32).toNatClampNeg (1114111 : Int32)) (13 : Int32).toNatClampNeg (1114112 : Int32)) (14 : Int32).toNatClampNeg (-2147483648 : Int32)) (15 : Int32).toNatClampNeg (2147483647 : Int32)) ((i1 &&& (2147483647 : Int32)) - ((i1 &&& (2147483647 : Int32)) / (16 : Int32)) * (16 : Int32)).toNatClampNeg) + (i2 - (i2 / (3 : Int32)) * (3 : Int32))))), (.int (own_f1_0 (((own_up (own_up (own_up (own_up (own_up (own_up (own_up (own_up (own_up (own_up (own_up (own_up (own_up (own_up (own_up (own_up (fun _ => 0) (0 : Int32).toNatClampNeg (0 : Int32)) (1 : Int32).toNatClampNeg (9 : Int32)) (2 : Int32).toNatClampNeg (10 : Int32)) (3 : Int32).toNatClampNeg (13 : Int32)) (4 : Int32).toNatClampNeg (32 : Int32)) (5 : Int32).toNatClampNeg (55295 : Int32)) (6 : Int32).toNatClampNeg (55296 : Int32)) (7 : Int32).toNatClampNeg (57343 : Int32)) (8 : Int32).toNatClampNeg (57344 : Int32)) (9 : Int32).toNatClampNeg (65533 : Int32)) (10 : Int32).toNatClampNeg (65535 : Int32)) (11 : Int32).toNatClampNeg (65536 : Int32)) (12 : Int32).toNatClampNeg (1114111 : Int32)) (13 : Int32).toNatClampNeg (1114112 : Int32)) (14 : Int32).toNatClampNeg (-2147483648 : Int32)) (15 : Int32).toNatClampNeg (2147483647 : Int32)) ((i1 &&& (2147483647 : Int32)) - ((i1 &&& (2147483647 : Int32)) / (16 : Int32)) * (16 : Int32)).toNatClampNeg) + (i2 - (i2 / (3 : Int32)) * (3 : Int32)))))])) _
      refine XS.icmpNo X22.here hx rfl (hb hby at_134) rfl (teq hc134).2 ?_
      show Steps p.tables e below (T22.setTop (mkF m 137 #[.val (.int i0), .val (.int i1), .val (.int i2), .val (.ref b1), .val (.int ((own_up (own_up (own_up (own_up (own_up (own_up (own_up (own_up (own_up (own_up (own_up (own_up (own_up (own_up (own_up (own_up (fun _ => 0) (0 : Int32).toNatClampNeg (0 : Int32)) (1 : Int32).toNatClampNeg (9 : Int32)) (2 : Int32).toNatClampNeg (10 : Int32)) (3 : Int32).toNatClampNeg (13 : Int32)) (4 : Int32).toNatClampNeg (32 : Int32)) (5 : Int32).toNatClampNeg (55295 : Int32)) (6 : Int32).toNatClampNeg (55296 : Int32)) (7 : Int32).toNatClampNeg (57343 : Int32)) (8 : Int32).toNatClampNeg (57344 : Int32)) (9 : Int32).toNatClampNeg (65533 : Int32)) (10 : Int32).toNatClampNeg (65535 : Int32)) (11 : Int32).toNatClampNeg (65536 : Int32)) (12 : Int32).toNatClampNeg (1114111 : Int32)) (13 : Int32).toNatClampNeg (1114112 : Int32)) (14 : Int32).toNatClampNeg (-2147483648 : Int32)) (15 : Int32).toNatClampNeg (2147483647 : Int32)) ((i1 &&& (2147483647 : Int32)) - ((i1 &&& (2147483647 : Int32)) / (16 : Int32)) * (16 : Int32)).toNatClampNeg)), .val (.int (((own_up (own_up (own_up (own_up (own_up (own_up (own_up (own_up (own_up (own_up (own_up (own_up (own_up (own_up (own_up (own_up (fun _ => 0) (0 : Int32).toNatClampNeg (0 : Int32)) (1 : Int32).toNatClampNeg (9 : Int32)) (2 : Int32).toNatClampNeg (10 : Int32)) (3 : Int32).toNatClampNeg (13 : Int32)) (4 : Int32).toNatClampNeg (32 : Int32)) (5 : Int32).toNatClampNeg (55295 : Int32)) (6 : Int32).toNatClampNeg (55296 : Int32)) (7 : Int32).toNatClampNeg (57343 : Int32)) (8 : Int32).toNatClampNeg (57344 : Int32)) (9 : Int32).toNatClampNeg (65533 : Int32)) (10 : Int32).toNatClampNeg (65535 : Int32)) (11 : Int32).toNatClampNeg (65536 : Int32)) (12 : Int32).toNatClampNeg (1114111 : Int32)) (13 : Int32).toNatClampNeg (1114112 : Int32)) (14 : Int32).toNatClampNeg (-2147483648 : Int32)) (15 : Int32).toNatClampNeg (2147483647 : Int32)) ((i1 &&& (2147483647 : Int32)) - ((i1 &&& (2147483647 : Int32)) / (16 : Int32)) * (16 : Int32)).toNatClampNeg) + (i2 - (i2 / (3 : Int32)) * (3 : Int32))))] [])) _
      refine XS.iconst X22.here hx rfl (hb hby at_137) ?_
      show Steps p.tables e below (T22.setTop (mkF m 138 #[.val (.int i0), .val (.int i1), .val (.int i2), .val (.ref b1), .val (.int ((own_up (own_up (own_up (own_up (own_up (own_up (own_up (own_up (own_up (own_up (own_up (own_up (own_up (own_up (own_up (own_up (fun _ => 0) (0 : Int32).toNatClampNeg (0 : Int32)) (1 : Int32).toNatClampNeg (9 : Int32)) (2 : Int32).toNatClampNeg (10 : Int32)) (3 : Int32).toNatClampNeg (13 : Int32)) (4 : Int32).toNatClampNeg (32 : Int32)) (5 : Int32).toNatClampNeg (55295 : Int32)) (6 : Int32).toNatClampNeg (55296 : Int32)) (7 : Int32).toNatClampNeg (57343 : Int32)) (8 : Int32).toNatClampNeg (57344 : Int32)) (9 : Int32).toNatClampNeg (65533 : Int32)) (10 : Int32).toNatClampNeg (65535 : Int32)) (11 : Int32).toNatClampNeg (65536 : Int32)) (12 : Int32).toNatClampNeg (1114111 : Int32)) (13 : Int32).toNatClampNeg (1114112 : Int32)) (14 : Int32).toNatClampNeg (-2147483648 : Int32)) (15 : Int32).toNatClampNeg (2147483647 : Int32)) ((i1 &&& (2147483647 : Int32)) - ((i1 &&& (2147483647 : Int32)) / (16 : Int32)) * (16 : Int32)).toNatClampNeg)), .val (.int (((own_up (own_up (own_up (own_up (own_up (own_up (own_up (own_up (own_up (own_up (own_up (own_up (own_up (own_up (own_up (own_up (fun _ => 0) (0 : Int32).toNatClampNeg (0 : Int32)) (1 : Int32).toNatClampNeg (9 : Int32)) (2 : Int32).toNatClampNeg (10 : Int32)) (3 : Int32).toNatClampNeg (13 : Int32)) (4 : Int32).toNatClampNeg (32 : Int32)) (5 : Int32).toNatClampNeg (55295 : Int32)) (6 : Int32).toNatClampNeg (55296 : Int32)) (7 : Int32).toNatClampNeg (57343 : Int32)) (8 : Int32).toNatClampNeg (57344 : Int32)) (9 : Int32).toNatClampNeg (65533 : Int32)) (10 : Int32).toNatClampNeg (65535 : Int32)) (11 : Int32).toNatClampNeg (65536 : Int32)) (12 : Int32).toNatClampNeg (1114111 : Int32)) (13 : Int32).toNatClampNeg (1114112 : Int32)) (14 : Int32).toNatClampNeg (-2147483648 : Int32)) (15 : Int32).toNatClampNeg (2147483647 : Int32)) ((i1 &&& (2147483647 : Int32)) - ((i1 &&& (2147483647 : Int32)) / (16 : Int32)) * (16 : Int32)).toNatClampNeg) + (i2 - (i2 / (3 : Int32)) * (3 : Int32))))] [(.int (1 : Int32))])) _
      refine XS.goto X22.here hx rfl (pc0 := 138) (pc' := 142) rfl (hb hby at_138) (by decide) (by decide) ?_
      show Steps p.tables e below (T22.setTop (mkF m 142 #[.val (.int i0), .val (.int i1), .val (.int i2), .val (.ref b1), .val (.int ((own_up (own_up (own_up (own_up (own_up (own_up (own_up (own_up (own_up (own_up (own_up (own_up (own_up (own_up (own_up (own_up (fun _ => 0) (0 : Int32).toNatClampNeg (0 : Int32)) (1 : Int32).toNatClampNeg (9 : Int32)) (2 : Int32).toNatClampNeg (10 : Int32)) (3 : Int32).toNatClampNeg (13 : Int32)) (4 : Int32).toNatClampNeg (32 : Int32)) (5 : Int32).toNatClampNeg (55295 : Int32)) (6 : Int32).toNatClampNeg (55296 : Int32)) (7 : Int32).toNatClampNeg (57343 : Int32)) (8 : Int32).toNatClampNeg (57344 : Int32)) (9 : Int32).toNatClampNeg (65533 : Int32)) (10 : Int32).toNatClampNeg (65535 : Int32)) (11 : Int32).toNatClampNeg (65536 : Int32)) (12 : Int32).toNatClampNeg (1114111 : Int32)) (13 : Int32).toNatClampNeg (1114112 : Int32)) (14 : Int32).toNatClampNeg (-2147483648 : Int32)) (15 : Int32).toNatClampNeg (2147483647 : Int32)) ((i1 &&& (2147483647 : Int32)) - ((i1 &&& (2147483647 : Int32)) / (16 : Int32)) * (16 : Int32)).toNatClampNeg)), .val (.int (((own_up (own_up (own_up (own_up (own_up (own_up (own_up (own_up (own_up (own_up (own_up (own_up (own_up (own_up (own_up (own_up (fun _ => 0) (0 : Int32).toNatClampNeg (0 : Int32)) (1 : Int32).toNatClampNeg (9 : Int32)) (2 : Int32).toNatClampNeg (10 : Int32)) (3 : Int32).toNatClampNeg (13 : Int32)) (4 : Int32).toNatClampNeg (32 : Int32)) (5 : Int32).toNatClampNeg (55295 : Int32)) (6 : Int32).toNatClampNeg (55296 : Int32)) (7 : Int32).toNatClampNeg (57343 : Int32)) (8 : Int32).toNatClampNeg (57344 : Int32)) (9 : Int32).toNatClampNeg (65533 : Int32)) (10 : Int32).toNatClampNeg (65535 : Int32)) (11 : Int32).toNatClampNeg (65536 : Int32)) (12 : Int32).toNatClampNeg (1114111 : Int32)) (13 : Int32).toNatClampNeg (1114112 : Int32)) (14 : Int32).toNatClampNeg (-2147483648 : Int32)) (15 : Int32).toNatClampNeg (2147483647 : Int32)) ((i1 &&& (2147483647 : Int32)) - ((i1 &&& (2147483647 : Int32)) / (16 : Int32)) * (16 : Int32)).toNatClampNeg) + (i2 - (i2 / (3 : Int32)) * (3 : Int32))))] [(.int (1 : Int32))])) _
      exact retN X22 hx (t := .boolean) hret (by simp) (hb hby at_142) hr
    · refine ⟨T22, _, _, _, X22, N17, (by decide), (by decide), fun fs hr => ?_⟩
      have hv : (own_f0_0 i0 i1 i2) = (0 : Int32) := by unfold own_f0_0; rw [if_pos hc121, if_neg hc134]
      rw [hv] at hr
      refine pre23 _ ?_
      show Steps p.tables e below (T22.setTop (mkF m 134 #[.val (.int i0), .val (.int i1), .val (.int i2), .val (.ref b1), .val (.int ((own_up (own_up (own_up (own_up (own_up (own_up (own_up (own_up (own_up (own_up (own_up (own_up (own_up (own_up (own_up (own_up (fun _ => 0) (0 : Int32).toNatClampNeg (0 : Int32)) (1 : Int32).toNatClampNeg (9 : Int32)) (2 : Int32).toNatClampNeg (10 : Int32)) (3 : Int32).toNatClampNeg (13 : Int32)) (4 : Int32).toNatClampNeg (32 : Int32)) (5 : Int32).toNatClampNeg (55295 : Int32)) (6 : Int32).toNatClampNeg (55296 : Int32)) (7 : Int32).toNatClampNeg (57343 : Int32)) (8 : Int32).toNatClampNeg (57344 : Int32)) (9 : Int32).toNatClampNeg (65533 : Int32)) (10 : Int32).toNatClampNeg (65535 : Int32)) (11 : Int32).toNatClampNeg (65536 : Int32)) (12 : Int32).toNatClampNeg (1114111 : Int32)) (13 : Int32).toNatClampNeg (1114112 : Int32)) (14 : Int32).toNatClampNeg (-2147483648 : Int32)) (15 : Int32).toNatClampNeg (2147483647 : Int32)) ((i1 &&& (2147483647 : Int32)) - ((i1 &&& (2147483647 : Int32)) / (16 : Int32)) * (16 : Int32)).toNatClampNeg)), .val (.int (((own_up (own_up (own_up (own_up (own_up (own_up (own_up (own_up (own_up (own_up (own_up (own_up (own_up (own_up (own_up (own_up (fun _ => 0) (0 : Int32).toNatClampNeg (0 : Int32)) (1 : Int32).toNatClampNeg (9 : Int32)) (2 : Int32).toNatClampNeg (10 : Int32)) (3 : Int32).toNatClampNeg (13 : Int32)) (4 : Int32).toNatClampNeg (32 : Int32)) (5 : Int32).toNatClampNeg (55295 : Int32)) (6 : Int32).toNatClampNeg (55296 : Int32)) (7 : Int32).toNatClampNeg (57343 : Int32)) (8 : Int32).toNatClampNeg (57344 : Int32)) (9 : Int32).toNatClampNeg (65533 : Int32)) (10 : Int32).toNatClampNeg (65535 : Int32)) (11 : Int32).toNatClampNeg (65536 : Int32)) (12 : Int32).toNatClampNeg (1114111 : Int32)) (13 : Int32).toNatClampNeg (1114112 : Int32)) (14 : Int32).toNatClampNeg (-2147483648 : Int32)) (15 : Int32).toNatClampNeg (2147483647 : Int32)) ((i1 &&& (2147483647 : Int32)) - ((i1 &&& (2147483647 : Int32)) / (16 : Int32)) * (16 : Int32)).toNatClampNeg) + (i2 - (i2 / (3 : Int32)) * (3 : Int32))))] [(.int (own_f2_0 (((own_up (own_up (own_up (own_up (own_up (own_up (own_up (own_up (own_up (own_up (own_up (own_up (own_up (own_up (own_up (own_up (fun _ => 0) (0 : Int32).toNatClampNeg (0 : Int32)) (1 : Int32).toNatClampNeg (9 : Int32)) (2 : Int32).toNatClampNeg (10 : Int32)) (3 : Int32).toNatClampNeg (13 : Int32)) (4 : Int32).toNatClampNeg (32 : Int32)) (5 : Int32).toNatClampNeg (55295 : Int32)) (6 : Int32).toNatClampNeg (55296 : Int32)) (7 : Int32).toNatClampNeg (57343 : Int32)) (8 : Int32).toNatClampNeg (57344 : Int32)) (9 : Int32).toNatClampNeg (65533 : Int32)) (10 : Int32).toNatClampNeg (65535 : Int32)) (11 : Int32).toNatClampNeg (65536 : Int32)) (12 : Int32).toNatClampNeg (1114111 : Int32)) (13 : Int32).toNatClampNeg (1114112 : Int32)) (14 : Int32).toNatClampNeg (-2147483648 : Int32)) (15 : Int32).toNatClampNeg (2147483647 : Int32)) ((i1 &&& (2147483647 : Int32)) - ((i1 &&& (2147483647 : Int32)) / (16 : Int32)) * (16 : Int32)).toNatClampNeg) + (i2 - (i2 / (3 : Int32)) * (3 : Int32))))), (.int (own_f1_0 (((own_up (own_up (own_up (own_up (own_up (own_up (own_up (own_up (own_up (own_up (own_up (own_up (own_up (own_up (own_up (own_up (fun _ => 0) (0 : Int32).toNatClampNeg (0 : Int32)) (1 : Int32).toNatClampNeg (9 : Int32)) (2 : Int32).toNatClampNeg (10 : Int32)) (3 : Int32).toNatClampNeg (13 : Int32)) (4 : Int32).toNatClampNeg (32 : Int32)) (5 : Int32).toNatClampNeg (55295 : Int32)) (6 : Int32).toNatClampNeg (55296 : Int32)) (7 : Int32).toNatClampNeg (57343 : Int32)) (8 : Int32).toNatClampNeg (57344 : Int32)) (9 : Int32).toNatClampNeg (65533 : Int32)) (10 : Int32).toNatClampNeg (65535 : Int32)) (11 : Int32).toNatClampNeg (65536 : Int32)) (12 : Int32).toNatClampNeg (1114111 : Int32)) (13 : Int32).toNatClampNeg (1114112 : Int32)) (14 : Int32).toNatClampNeg (-2147483648 : Int32)) (15 : Int32).toNatClampNeg (2147483647 : Int32)) ((i1 &&& (2147483647 : Int32)) - ((i1 &&& (2147483647 : Int32)) / (16 : Int32)) * (16 : Int32)).toNatClampNeg) + (i2 - (i2 / (3 : Int32)) * (3 : Int32)))))])) _
      refine XS.icmpYes X22.here hx rfl (pc0 := 134) (pc' := 141) rfl (hb hby at_134) rfl (feq hc134).2 (by decide) (by decide) ?_
      show Steps p.tables e below (T22.setTop (mkF m 141 #[.val (.int i0), .val (.int i1), .val (.int i2), .val (.ref b1), .val (.int ((own_up (own_up (own_up (own_up (own_up (own_up (own_up (own_up (own_up (own_up (own_up (own_up (own_up (own_up (own_up (own_up (fun _ => 0) (0 : Int32).toNatClampNeg (0 : Int32)) (1 : Int32).toNatClampNeg (9 : Int32)) (2 : Int32).toNatClampNeg (10 : Int32)) (3 : Int32).toNatClampNeg (13 : Int32)) (4 : Int32).toNatClampNeg (32 : Int32)) (5 : Int32).toNatClampNeg (55295 : Int32)) (6 : Int32).toNatClampNeg (55296 : Int32)) (7 : Int32).toNatClampNeg (57343 : Int32)) (8 : Int32).toNatClampNeg (57344 : Int32)) (9 : Int32).toNatClampNeg (65533 : Int32)) (10 : Int32).toNatClampNeg (65535 : Int32)) (11 : Int32).toNatClampNeg (65536 : Int32)) (12 : Int32).toNatClampNeg (1114111 : Int32)) (13 : Int32).toNatClampNeg (1114112 : Int32)) (14 : Int32).toNatClampNeg (-2147483648 : Int32)) (15 : Int32).toNatClampNeg (2147483647 : Int32)) ((i1 &&& (2147483647 : Int32)) - ((i1 &&& (2147483647 : Int32)) / (16 : Int32)) * (16 : Int32)).toNatClampNeg)), .val (.int (((own_up (own_up (own_up (own_up (own_up (own_up (own_up (own_up (own_up (own_up (own_up (own_up (own_up (own_up (own_up (own_up (fun _ => 0) (0 : Int32).toNatClampNeg (0 : Int32)) (1 : Int32).toNatClampNeg (9 : Int32)) (2 : Int32).toNatClampNeg (10 : Int32)) (3 : Int32).toNatClampNeg (13 : Int32)) (4 : Int32).toNatClampNeg (32 : Int32)) (5 : Int32).toNatClampNeg (55295 : Int32)) (6 : Int32).toNatClampNeg (55296 : Int32)) (7 : Int32).toNatClampNeg (57343 : Int32)) (8 : Int32).toNatClampNeg (57344 : Int32)) (9 : Int32).toNatClampNeg (65533 : Int32)) (10 : Int32).toNatClampNeg (65535 : Int32)) (11 : Int32).toNatClampNeg (65536 : Int32)) (12 : Int32).toNatClampNeg (1114111 : Int32)) (13 : Int32).toNatClampNeg (1114112 : Int32)) (14 : Int32).toNatClampNeg (-2147483648 : Int32)) (15 : Int32).toNatClampNeg (2147483647 : Int32)) ((i1 &&& (2147483647 : Int32)) - ((i1 &&& (2147483647 : Int32)) / (16 : Int32)) * (16 : Int32)).toNatClampNeg) + (i2 - (i2 / (3 : Int32)) * (3 : Int32))))] [])) _
      refine XS.iconst X22.here hx rfl (hb hby at_141) ?_
      show Steps p.tables e below (T22.setTop (mkF m 142 #[.val (.int i0), .val (.int i1), .val (.int i2), .val (.ref b1), .val (.int ((own_up (own_up (own_up (own_up (own_up (own_up (own_up (own_up (own_up (own_up (own_up (own_up (own_up (own_up (own_up (own_up (fun _ => 0) (0 : Int32).toNatClampNeg (0 : Int32)) (1 : Int32).toNatClampNeg (9 : Int32)) (2 : Int32).toNatClampNeg (10 : Int32)) (3 : Int32).toNatClampNeg (13 : Int32)) (4 : Int32).toNatClampNeg (32 : Int32)) (5 : Int32).toNatClampNeg (55295 : Int32)) (6 : Int32).toNatClampNeg (55296 : Int32)) (7 : Int32).toNatClampNeg (57343 : Int32)) (8 : Int32).toNatClampNeg (57344 : Int32)) (9 : Int32).toNatClampNeg (65533 : Int32)) (10 : Int32).toNatClampNeg (65535 : Int32)) (11 : Int32).toNatClampNeg (65536 : Int32)) (12 : Int32).toNatClampNeg (1114111 : Int32)) (13 : Int32).toNatClampNeg (1114112 : Int32)) (14 : Int32).toNatClampNeg (-2147483648 : Int32)) (15 : Int32).toNatClampNeg (2147483647 : Int32)) ((i1 &&& (2147483647 : Int32)) - ((i1 &&& (2147483647 : Int32)) / (16 : Int32)) * (16 : Int32)).toNatClampNeg)), .val (.int (((own_up (own_up (own_up (own_up (own_up (own_up (own_up (own_up (own_up (own_up (own_up (own_up (own_up (own_up (own_up (own_up (fun _ => 0) (0 : Int32).toNatClampNeg (0 : Int32)) (1 : Int32).toNatClampNeg (9 : Int32)) (2 : Int32).toNatClampNeg (10 : Int32)) (3 : Int32).toNatClampNeg (13 : Int32)) (4 : Int32).toNatClampNeg (32 : Int32)) (5 : Int32).toNatClampNeg (55295 : Int32)) (6 : Int32).toNatClampNeg (55296 : Int32)) (7 : Int32).toNatClampNeg (57343 : Int32)) (8 : Int32).toNatClampNeg (57344 : Int32)) (9 : Int32).toNatClampNeg (65533 : Int32)) (10 : Int32).toNatClampNeg (65535 : Int32)) (11 : Int32).toNatClampNeg (65536 : Int32)) (12 : Int32).toNatClampNeg (1114111 : Int32)) (13 : Int32).toNatClampNeg (1114112 : Int32)) (14 : Int32).toNatClampNeg (-2147483648 : Int32)) (15 : Int32).toNatClampNeg (2147483647 : Int32)) ((i1 &&& (2147483647 : Int32)) - ((i1 &&& (2147483647 : Int32)) / (16 : Int32)) * (16 : Int32)).toNatClampNeg) + (i2 - (i2 / (3 : Int32)) * (3 : Int32))))] [(.int (0 : Int32))])) _
      exact retN X22 hx (t := .boolean) hret (by simp) (hb hby at_142) hr
  · refine ⟨T19, _, _, _, X19, N17, (by decide), (by decide), fun fs hr => ?_⟩
    have hv : (own_f0_0 i0 i1 i2) = (0 : Int32) := by unfold own_f0_0; rw [if_neg hc121]
    rw [hv] at hr
    refine pre20 _ ?_
    show Steps p.tables e below (T19.setTop (mkF m 121 #[.val (.int i0), .val (.int i1), .val (.int i2), .val (.ref b1), .val (.int ((own_up (own_up (own_up (own_up (own_up (own_up (own_up (own_up (own_up (own_up (own_up (own_up (own_up (own_up (own_up (own_up (fun _ => 0) (0 : Int32).toNatClampNeg (0 : Int32)) (1 : Int32).toNatClampNeg (9 : Int32)) (2 : Int32).toNatClampNeg (10 : Int32)) (3 : Int32).toNatClampNeg (13 : Int32)) (4 : Int32).toNatClampNeg (32 : Int32)) (5 : Int32).toNatClampNeg (55295 : Int32)) (6 : Int32).toNatClampNeg (55296 : Int32)) (7 : Int32).toNatClampNeg (57343 : Int32)) (8 : Int32).toNatClampNeg (57344 : Int32)) (9 : Int32).toNatClampNeg (65533 : Int32)) (10 : Int32).toNatClampNeg (65535 : Int32)) (11 : Int32).toNatClampNeg (65536 : Int32)) (12 : Int32).toNatClampNeg (1114111 : Int32)) (13 : Int32).toNatClampNeg (1114112 : Int32)) (14 : Int32).toNatClampNeg (-2147483648 : Int32)) (15 : Int32).toNatClampNeg (2147483647 : Int32)) ((i1 &&& (2147483647 : Int32)) - ((i1 &&& (2147483647 : Int32)) / (16 : Int32)) * (16 : Int32)).toNatClampNeg)), .val (.int (((own_up (own_up (own_up (own_up (own_up (own_up (own_up (own_up (own_up (own_up (own_up (own_up (own_up (own_up (own_up (own_up (fun _ => 0) (0 : Int32).toNatClampNeg (0 : Int32)) (1 : Int32).toNatClampNeg (9 : Int32)) (2 : Int32).toNatClampNeg (10 : Int32)) (3 : Int32).toNatClampNeg (13 : Int32)) (4 : Int32).toNatClampNeg (32 : Int32)) (5 : Int32).toNatClampNeg (55295 : Int32)) (6 : Int32).toNatClampNeg (55296 : Int32)) (7 : Int32).toNatClampNeg (57343 : Int32)) (8 : Int32).toNatClampNeg (57344 : Int32)) (9 : Int32).toNatClampNeg (65533 : Int32)) (10 : Int32).toNatClampNeg (65535 : Int32)) (11 : Int32).toNatClampNeg (65536 : Int32)) (12 : Int32).toNatClampNeg (1114111 : Int32)) (13 : Int32).toNatClampNeg (1114112 : Int32)) (14 : Int32).toNatClampNeg (-2147483648 : Int32)) (15 : Int32).toNatClampNeg (2147483647 : Int32)) ((i1 &&& (2147483647 : Int32)) - ((i1 &&& (2147483647 : Int32)) / (16 : Int32)) * (16 : Int32)).toNatClampNeg) + (i2 - (i2 / (3 : Int32)) * (3 : Int32))))] [(.int (own_f2_0 i0)), (.int (own_f1_0 i0))])) _
    refine XS.icmpYes X19.here hx rfl (pc0 := 121) (pc' := 141) rfl (hb hby at_121) rfl (feq hc121).2 (by decide) (by decide) ?_
    show Steps p.tables e below (T19.setTop (mkF m 141 #[.val (.int i0), .val (.int i1), .val (.int i2), .val (.ref b1), .val (.int ((own_up (own_up (own_up (own_up (own_up (own_up (own_up (own_up (own_up (own_up (own_up (own_up (own_up (own_up (own_up (own_up (fun _ => 0) (0 : Int32).toNatClampNeg (0 : Int32)) (1 : Int32).toNatClampNeg (9 : Int32)) (2 : Int32).toNatClampNeg (10 : Int32)) (3 : Int32).toNatClampNeg (13 : Int32)) (4 : Int32).toNatClampNeg (32 : Int32)) (5 : Int32).toNatClampNeg (55295 : Int32)) (6 : Int32).toNatClampNeg (55296 : Int32)) (7 : Int32).toNatClampNeg (57343 : Int32)) (8 : Int32).toNatClampNeg (57344 : Int32)) (9 : Int32).toNatClampNeg (65533 : Int32)) (10 : Int32).toNatClampNeg (65535 : Int32)) (11 : Int32).toNatClampNeg (65536 : Int32)) (12 : Int32).toNatClampNeg (1114111 : Int32)) (13 : Int32).toNatClampNeg (1114112 : Int32)) (14 : Int32).toNatClampNeg (-2147483648 : Int32)) (15 : Int32).toNatClampNeg (2147483647 : Int32)) ((i1 &&& (2147483647 : Int32)) - ((i1 &&& (2147483647 : Int32)) / (16 : Int32)) * (16 : Int32)).toNatClampNeg)), .val (.int (((own_up (own_up (own_up (own_up (own_up (own_up (own_up (own_up (own_up (own_up (own_up (own_up (own_up (own_up (own_up (own_up (fun _ => 0) (0 : Int32).toNatClampNeg (0 : Int32)) (1 : Int32).toNatClampNeg (9 : Int32)) (2 : Int32).toNatClampNeg (10 : Int32)) (3 : Int32).toNatClampNeg (13 : Int32)) (4 : Int32).toNatClampNeg (32 : Int32)) (5 : Int32).toNatClampNeg (55295 : Int32)) (6 : Int32).toNatClampNeg (55296 : Int32)) (7 : Int32).toNatClampNeg (57343 : Int32)) (8 : Int32).toNatClampNeg (57344 : Int32)) (9 : Int32).toNatClampNeg (65533 : Int32)) (10 : Int32).toNatClampNeg (65535 : Int32)) (11 : Int32).toNatClampNeg (65536 : Int32)) (12 : Int32).toNatClampNeg (1114111 : Int32)) (13 : Int32).toNatClampNeg (1114112 : Int32)) (14 : Int32).toNatClampNeg (-2147483648 : Int32)) (15 : Int32).toNatClampNeg (2147483647 : Int32)) ((i1 &&& (2147483647 : Int32)) - ((i1 &&& (2147483647 : Int32)) / (16 : Int32)) * (16 : Int32)).toNatClampNeg) + (i2 - (i2 / (3 : Int32)) * (3 : Int32))))] [])) _
    refine XS.iconst X19.here hx rfl (hb hby at_141) ?_
    show Steps p.tables e below (T19.setTop (mkF m 142 #[.val (.int i0), .val (.int i1), .val (.int i2), .val (.ref b1), .val (.int ((own_up (own_up (own_up (own_up (own_up (own_up (own_up (own_up (own_up (own_up (own_up (own_up (own_up (own_up (own_up (own_up (fun _ => 0) (0 : Int32).toNatClampNeg (0 : Int32)) (1 : Int32).toNatClampNeg (9 : Int32)) (2 : Int32).toNatClampNeg (10 : Int32)) (3 : Int32).toNatClampNeg (13 : Int32)) (4 : Int32).toNatClampNeg (32 : Int32)) (5 : Int32).toNatClampNeg (55295 : Int32)) (6 : Int32).toNatClampNeg (55296 : Int32)) (7 : Int32).toNatClampNeg (57343 : Int32)) (8 : Int32).toNatClampNeg (57344 : Int32)) (9 : Int32).toNatClampNeg (65533 : Int32)) (10 : Int32).toNatClampNeg (65535 : Int32)) (11 : Int32).toNatClampNeg (65536 : Int32)) (12 : Int32).toNatClampNeg (1114111 : Int32)) (13 : Int32).toNatClampNeg (1114112 : Int32)) (14 : Int32).toNatClampNeg (-2147483648 : Int32)) (15 : Int32).toNatClampNeg (2147483647 : Int32)) ((i1 &&& (2147483647 : Int32)) - ((i1 &&& (2147483647 : Int32)) / (16 : Int32)) * (16 : Int32)).toNatClampNeg)), .val (.int (((own_up (own_up (own_up (own_up (own_up (own_up (own_up (own_up (own_up (own_up (own_up (own_up (own_up (own_up (own_up (own_up (fun _ => 0) (0 : Int32).toNatClampNeg (0 : Int32)) (1 : Int32).toNatClampNeg (9 : Int32)) (2 : Int32).toNatClampNeg (10 : Int32)) (3 : Int32).toNatClampNeg (13 : Int32)) (4 : Int32).toNatClampNeg (32 : Int32)) (5 : Int32).toNatClampNeg (55295 : Int32)) (6 : Int32).toNatClampNeg (55296 : Int32)) (7 : Int32).toNatClampNeg (57343 : Int32)) (8 : Int32).toNatClampNeg (57344 : Int32)) (9 : Int32).toNatClampNeg (65533 : Int32)) (10 : Int32).toNatClampNeg (65535 : Int32)) (11 : Int32).toNatClampNeg (65536 : Int32)) (12 : Int32).toNatClampNeg (1114111 : Int32)) (13 : Int32).toNatClampNeg (1114112 : Int32)) (14 : Int32).toNatClampNeg (-2147483648 : Int32)) (15 : Int32).toNatClampNeg (2147483647 : Int32)) ((i1 &&& (2147483647 : Int32)) - ((i1 &&& (2147483647 : Int32)) / (16 : Int32)) * (16 : Int32)).toNatClampNeg) + (i2 - (i2 / (3 : Int32)) * (3 : Int32))))] [(.int (0 : Int32))])) _
    exact retN X19 hx (t := .boolean) hret (by simp) (hb hby at_142) hr
def Q0 (Z : State) (i0 : Int32) (i1 : Int32) (i2 : Int32) (h0 : Heap) (n0 : Nat) (v : Option Value) (h : Heap) (L : List Loc) : Prop := v = some (.int (own_f0_0 i0 i1 i2)) ∧ Fr n0 L
set_option maxRecDepth 65536 in
set_option maxHeartbeats 40000000 in
theorem rm0 (l : Launch) (Z : State) (a0_ : Array Value) (hw : ∀ d ∈ tables_1, d.before a0_ Z = true) (ws : List Jvm.Cond) (i0 : Int32) (i1 : Int32) (i2 : Int32) (h0 : Heap) (n0 : Nat) (Z0 : n0 ≤ h0.size)  :
    MetFree l x (head1 (Jvm.Cond.code x code maxLocals ret :: ws) room_1) (fun a U => a = #[(.int i0), (.int i1), (.int i2)] ∧ Z.Warmed39 U.vm ∧ U.heap = h0) (fun _ _ _ _ _ => True) (fun _ U o U' => ∃ v L, o = .returned v ∧ Q0 Z i0 i1 i2 h0 n0 v U'.heap L ∧ FrameEnd U o U' L room_1.cells room_1.slots) := by
  refine MetFree.of_bodySF (plainFor_of_name pn_0) hisR ?_
  intro p e s m args below meth c s₁ Bd hml0 hP hK
  obtain ⟨rfl, hZ, hh⟩ := hP
  have hx := Bd.exec
  have hby := Bd.bytes
  have hml : c.maxLocals = 6 := hml0
  have hown : s.vm.findClass "com/example/saho/saho/text/XmlCharsIsCharPinLaw" = some m.cls := findClass_of_methodNamed Bd.named
  have X0 : Stand p l e room_1 s m #[(.int i0), (.int i1), (.int i2)] below meth c s₁ [] 0 0 := Stand.of_body Bd
  have e0 : s₁.heap = h0 := by rw [← hh, Bd.state]; rfl
  obtain ⟨T', L', k', n', X', N', hk', hn', st'⟩ := own_b0_0 hx hZ hw hby hml hown Bd.returns  i0 i1 i2 X0 e0 (Fr.nil n0) Z0 
  obtain ⟨fs, hr, hrun, hended, hW, hsame⟩ := X'.leave (v := some (.int (own_f0_0 i0 i1 i2))) (fun h => by rw [Bd.returns] at h; cases h)
  refine ⟨_, _, castTop (ef_0 m i0 i1 i2) (st' fs hr), hrun, hended, _, _, rfl, ?_, ⟨_, rfl⟩, hW, hsame.mono hk' hn'⟩
  exact ⟨rfl, N'⟩
theorem own_same (x : Int32) : own_f1_0 x = own_f2_0 x := by
  have l0 : (0 : Int32).toInt = 0 := by decide +kernel
  have l9 : (9 : Int32).toInt = 9 := by decide +kernel
  have l10 : (10 : Int32).toInt = 10 := by decide +kernel
  have l13 : (13 : Int32).toInt = 13 := by decide +kernel
  have l32 : (32 : Int32).toInt = 32 := by decide +kernel
  have a1 : (55295 : Int32).toInt = 55295 := by decide +kernel
  have a2 : (55296 : Int32).toInt = 55296 := by decide +kernel
  have a3 : (57343 : Int32).toInt = 57343 := by decide +kernel
  have a4 : (57344 : Int32).toInt = 57344 := by decide +kernel
  have a5 : (65533 : Int32).toInt = 65533 := by decide +kernel
  have a6 : (65534 : Int32).toInt = 65534 := by decide +kernel
  have a7 : (65535 : Int32).toInt = 65535 := by decide +kernel
  have a8 : (65536 : Int32).toInt = 65536 := by decide +kernel
  have a9 : (1114111 : Int32).toInt = 1114111 := by decide +kernel
  simp only [own_f1_0, own_f1_12, own_f1_42, own_f2_0, own_f2_56, Int32.lt_iff_toInt_lt, ← Int32.toInt_inj (x := x), l0, l9, l10, l13, l32, a1, a2, a3, a4, a5, a6, a7, a8, a9]
  clear l0 l9 l10 l13 l32 a1 a2 a3 a4 a5 a6 a7 a8 a9
  generalize x.toInt = z
  repeat' split
  all_goals first | rfl | omega
theorem own_law (i0 : Int32) (i1 : Int32) (i2 : Int32) : own_f0_0 i0 i1 i2 = 1 := by
  unfold own_f0_0
  rw [own_same, own_same, if_pos rfl, if_pos rfl]
set_option maxRecDepth 65536 in
set_option maxHeartbeats 40000000 in
theorem comes_1 {Post : Tables → Env → Array Value → State → Outcome → State → Prop} (hpost : ∀ tb e args s v u, (limb_1_1.after args s (.returned v) u = true ∧ limb_1_2.after args s (.returned v) u = true ∧ True) → FrameEnd s (.returned v) u (Jvm.fieldLocs frame_1_writes args s ++ Jvm.arrayLocs frame_1_arrays args s ++ Jvm.staticLocs frame_1_statics s) 16 128 → Post tb e args s (.returned v) u) :
    ArmFor flags0 classFile x code maxLocals ret World_1 tables_1 room_1 Calls_1 rest_1 Pre_1 Post := by
  intro l hfl _ _ p e ha hc hk s m args below hf hA hF happ hP
  obtain ⟨hcalls, hrest, hpre⟩ := hP
  obtain ⟨-, -, -, hnamed, -, -, -, hat⟩ := (Spec.applies_iff hf).mp happ
  obtain ⟨hg, hn⟩ := and_e (Cond.before_iff.mp (show (Jvm.Cond.and given_1 narrow_1).before args s = true from hpre))
  obtain ⟨hcount, hg⟩ := and_e hg
  obtain ⟨g0, hg⟩ := and_e hg
  obtain ⟨g1, hg⟩ := and_e hg
  have g2 := hg
  obtain ⟨w0, w1, w2, rfl⟩ : ∃ w0 w1 w2 : Value, args = #[w0, w1, w2] := by
    have hs : args.size = 3 := by simpa [Cond.value, given_1] using hcount
    obtain ⟨L⟩ := args
    match L, hs with
    | [w0, w1, w2], _ => exact ⟨w0, w1, w2, rfl⟩
  have hw := fun d (hd : d ∈ tables_1) => atoms_spec (ws := Jvm.Cond.code x code maxLocals ret :: tables_1) hat d (List.mem_cons_of_mem _ hd)
  obtain ⟨i0, ei0⟩ := is_v g0
  obtain rfl : w0 = (.int i0) := Option.some.inj ei0
  obtain ⟨i1, ei1⟩ := is_v g1
  obtain rfl : w1 = (.int i1) := Option.some.inj ei1
  obtain ⟨i2, ei2⟩ := is_v g2
  obtain rfl : w2 = (.int i2) := Option.some.inj ei2
  obtain ⟨n, o, h1, h2, h3, _, L, rfl, ⟨rfl, N⟩, hq⟩ := rm0 l s _ hw tables_1 i0 i1 i2 s.heap s.heap.size (Nat.le_refl _) p e ha hc hk s m _ below hf ((Spec.applies_iff_loose hf).mp happ).1 ⟨rfl, State.Warmed39.refl s, rfl⟩ trivial
  rw [own_law i0 i1 i2] at h3 hq
  refine ⟨n, _, h1, h2, h3, hpost _ _ _ _ _ _ ⟨Cond.after_iff.mpr rfl, Cond.after_iff.mpr (eq_i res_at (Term.int_eval (1)) rfl), trivial⟩ ⟨hq.1, hq.2.1, (hq.2.2.sift fun y hy => Or.inr (N y hy)).mono (by decide) (by decide)⟩⟩
theorem main_1_1 : Claimed_1_1 := comes_1 fun _ _ _ _ _ _ h hF => ⟨h.1, hF⟩
theorem main_1_2 : Claimed_1_2 := comes_1 fun _ _ _ _ _ _ h hF => ⟨h.2.1, hF⟩
end Jvm.Pilot.@@N@@
namespace Jvm.Pilot.@@N@@
open Jvm Jvm.ClassFile Sem Op Lib Jvm.Free Jvm.Stand Jvm.Pilot.@@N@@.Jvm.D
/-! MADE BY PROGRAM (witnessworld.py) out of the Statement's table words and the real class files: 9 classes; the members and pool entries that the words name. The judged class is class 1, her method 2. -/
namespace start1
open Jvm.ClassFile
def u (s : String) : CpInfo := .utf8 (stringToUtf16 s)
/-- a pool by its gaps: so many unusable entries, then the entry; so many at the end -/
def gap : Nat → List CpInfo → List CpInfo
  | 0, r => r
  | n + 1, r => .unusable :: gap n r
def poolList (es : List (Nat × CpInfo)) (last : Nat) : List CpInfo := es.foldr (fun e r => gap e.1 (e.2 :: r)) (gap last [])
def pool (es : List (Nat × CpInfo)) (last : Nat) : Array CpInfo := ⟨poolList es last⟩
def fileOf (pool : Array CpInfo) (this : Nat) (attrs : Array Attribute := #[]) (ms : Array MethodInfo := #[]) (fl : Nat := 33) (sup : Nat := 0) (ifs : Array Nat := #[]) (fds : Array FieldInfo := #[]) : ClassFile where
  minorVersion := 0
  majorVersion := 65
  constantPool := pool
  accessFlags := fl
  thisClass := this
  superClass := sup
  interfaces := ifs
  fields := fds
  methods := ms
  attributes := attrs
def plain (name : String) (sup : Option ClassId) : Class where
  name := name
  kind := .ordinary
  loader := none
  accessFlags := 33
  super := sup
  interfaces := #[]
  cf := none
  fields := #[]
  methods := #[]
  instanceTypes := #[]
  staticTypes := #[]
  resolved := #[]
  callSites := []
  init := .initialized
  statics := none
  mirror := none

def pool0 : Array CpInfo := pool [(5, u "<init>"), (0, u "()V"), (1, .class_ 10), (1, u "java/lang/Object")] 113

def k0m0 : Method := { name := "<init>", desc := "()V", sig := { parameters := [], returnType := none }, accessFlags := 1, code := none }
/-- java/lang/Object -/
def k0 : Class := { plain "java/lang/Object" none with
  accessFlags := 33
  interfaces := #[]
  cf := some (fileOf pool0 8 #[] #[{ accessFlags := 1, nameIndex := 5, descriptorIndex := 6, attributes := #[] }] 33 0 #[] #[])
  fields := #[]
  methods := #[k0m0]
  instanceTypes := #[]
  staticTypes := #[]
  resolved := Array.replicate 124 none
  statics := none }

def pool1 : Array CpInfo := pool [(2, .class_ 4), (1, u "java/lang/Object"), (0, u "<init>"), (0, u "()V"), (0, .integer 1114111), (0, .integer 55296), (0, .integer 57343), (0, .integer 65534), (0, .integer 65535), (0, .integer 55295), (0, .integer 57344), (0, .integer 65533), (0, .integer 65536), (0, .integer 1114112), (2, .integer 2147483648), (0, .integer 2147483647), (0, .methodref 22 23), (0, .class_ 24), (0, .nameAndType 25 26), (0, u "com/example/saho/saho/text/XmlChars"), (0, u "isChar"), (0, u "(I)Z"), (0, .methodref 28 29), (0, .class_ 30), (0, .nameAndType 31 26), (0, u "com/example/saho/saho/text/XmlCharsIsCharPinLaw"), (0, u "ref"), (3, u "law"), (0, u "(III)Z")] 4

def k1m0 : Method := { name := "<init>", desc := "()V", sig := { parameters := [], returnType := none }, accessFlags := 2, code := none }
def k1c1 : Code := { maxStack := 2, maxLocals := 1, code := method_2_code, exceptionTable := #[], attributes := #[] }
def k1m1 : Method := { name := "ref", desc := "(I)Z", sig := { parameters := [.int], returnType := some .boolean }, accessFlags := 10, code := some k1c1 }
def k1c2 : Code := { maxStack := 4, maxLocals := 6, code := code, exceptionTable := #[], attributes := #[] }
def k1m2 : Method := { name := "law", desc := "(III)Z", sig := { parameters := [.int, .int, .int], returnType := some .boolean }, accessFlags := 9, code := some k1c2 }
/-- com/example/saho/saho/text/XmlCharsIsCharPinLaw -/
def k1 : Class := { plain "com/example/saho/saho/text/XmlCharsIsCharPinLaw" (some 0) with
  accessFlags := 49
  interfaces := #[]
  cf := some (fileOf pool1 28 #[] #[{ accessFlags := 2, nameIndex := 5, descriptorIndex := 6, attributes := #[] }, { accessFlags := 10, nameIndex := 31, descriptorIndex := 26, attributes := #[] }, { accessFlags := 9, nameIndex := 35, descriptorIndex := 36, attributes := #[] }] 49 2 #[] #[])
  fields := #[]
  methods := #[k1m0, k1m1, k1m2]
  instanceTypes := #[]
  staticTypes := #[]
  resolved := Array.replicate 41 none
  statics := none }

def pool2 : Array CpInfo := pool [(2, .class_ 4), (1, u "java/lang/Object"), (0, u "<init>"), (0, u "()V"), (11, .class_ 20), (1, u "com/example/saho/saho/text/XmlChars"), (10, .integer 55295), (0, .integer 57344), (0, .integer 65533), (0, .integer 65536), (0, .integer 1114111), (7, u "(I)Z"), (29, u "isChar")] 23

def k2m0 : Method := { name := "<init>", desc := "()V", sig := { parameters := [], returnType := none }, accessFlags := 2, code := none }
def k2c1 : Code := { maxStack := 2, maxLocals := 1, code := prog_220_method_4_code, exceptionTable := #[], attributes := #[] }
def k2m1 : Method := { name := "isChar", desc := "(I)Z", sig := { parameters := [.int], returnType := some .boolean }, accessFlags := 9, code := some k2c1 }
/-- com/example/saho/saho/text/XmlChars -/
def k2 : Class := { plain "com/example/saho/saho/text/XmlChars" (some 0) with
  accessFlags := 33
  interfaces := #[]
  cf := some (fileOf pool2 18 #[] #[{ accessFlags := 2, nameIndex := 5, descriptorIndex := 6, attributes := #[] }, { accessFlags := 9, nameIndex := 73, descriptorIndex := 43, attributes := #[] }] 33 2 #[] #[])
  fields := #[]
  methods := #[k2m0, k2m1]
  instanceTypes := #[]
  staticTypes := #[]
  resolved := Array.replicate 97 none
  statics := none }

def pool3 : Array CpInfo := pool [(1, u "java/lang/Cloneable"), (0, .class_ 1), (0, u "java/lang/Object"), (0, .class_ 3)] 3

/-- java/lang/Cloneable -/
def k3 : Class := { plain "java/lang/Cloneable" (some 0) with
  accessFlags := 1537
  interfaces := #[]
  cf := some (fileOf pool3 2 #[] #[] 1537 4 #[] #[])
  fields := #[]
  methods := #[]
  instanceTypes := #[]
  staticTypes := #[]
  resolved := Array.replicate 8 none
  statics := none }

def pool4 : Array CpInfo := pool [(1, u "java/io/Serializable"), (0, .class_ 1), (0, u "java/lang/Object"), (0, .class_ 3)] 3

/-- java/io/Serializable -/
def k4 : Class := { plain "java/io/Serializable" (some 0) with
  accessFlags := 1537
  interfaces := #[]
  cf := some (fileOf pool4 2 #[] #[] 1537 4 #[] #[])
  fields := #[]
  methods := #[]
  instanceTypes := #[]
  staticTypes := #[]
  resolved := Array.replicate 8 none
  statics := none }

/-- the primitive byte -/
def k5 : Class := { plain "byte" none with kind := .primitive 'B', accessFlags := 0x411 }
/-- [B -/
def k6 : Class := { plain "[B" (some 0) with kind := .array 5 .byte, interfaces := #[3, 4], accessFlags := 1041 }

/-- the primitive int -/
def k7 : Class := { plain "int" none with kind := .primitive 'I', accessFlags := 0x411 }
/-- [I -/
def k8 : Class := { plain "[I" (some 0) with kind := .array 7 .int, interfaces := #[3, 4], accessFlags := 1041 }

def heap : Heap := #[]
def classes : Array Class := #[k0, k1, k2, k3, k4, k5, k6, k7, k8]
def interned : List (Array UInt16 × Addr) := []
def slotsUsed : Nat := 0
def theMethod : MethodId := ⟨1, 2⟩
def args0 : Array Value := #[.int 5, .int 6, .int 7]
def aboutOver (below : List Frame) : State where
  vm := { classes := classes, interned := interned.toArray }
  heap := heap
  slotsUsed := slotsUsed
  threads := #[{ frames := .invoking theMethod args0 :: below }]
def below0 : List Frame := [.native { method := ⟨0, 0⟩, args := #[] }]
def about1 : State := aboutOver below0
def p0 : Program := .bare "" "" ""
def e0 : Env := launch0.env 0 0 0
theorem w_frames : about1.frames = Frame.invoking theMethod args0 :: below0 := rfl
set_option maxRecDepth 65536 in
theorem w_args : argsFit about1.vm theMethod args0 = true := by decide +kernel
set_option maxRecDepth 65536 in
theorem w_heap : heapFits about1 = true := by decide +kernel
set_option maxRecDepth 65536 in
theorem w_runnable : about1.curStatus? = some .runnable := by decide +kernel
set_option maxRecDepth 65536 in
theorem w_alone : about1.alone = true := by decide +kernel
set_option maxRecDepth 65536 in
theorem w_named : about1.methodNamed? x = some theMethod := by decide +kernel
set_option maxRecDepth 65536 in
theorem w_hears : about1.hears theMethod below0 = true := by decide +kernel
set_option maxRecDepth 65536 in
theorem w_ripe : about1.ripe theMethod args0 below0 = true := by decide +kernel
theorem w_running : about1.status = .running := rfl
set_option maxRecDepth 65536 in
theorem w_room : about1.hasRoom e0.platform room_1 = true :=
  launch0.hasRoom_least _ room_1 (by decide +kernel) (by decide +kernel) (by decide +kernel) (by decide +kernel) (by decide +kernel) (by decide +kernel)
theorem allAtoms_all (ts : List Jvm.Cond) (a : Array Jvm.Value) (st : Jvm.State) : (allAtoms ts).before a st = ts.all (fun c => c.before a st) := by
  induction ts with
  | nil => rfl
  | cons c t ih =>
    show (Jvm.Cond.and c (allAtoms t)).before a st = _
    rw [Jvm.Cond.before_and, ih, List.all_cons]
def words1 : List Jvm.Cond := Jvm.Cond.code x code maxLocals ret :: tables_1
/-- a 'code' word, met by the world's own term for the bytes: nothing is compared byte by byte -/
theorem code_word {y : MethodName} {bytes : ByteArray} {mx : Nat} {rt : Option FieldType} {a : Array Value} {s : State} {m : MethodId} {meth : Method} {c : Code} (h1 : s.methodNamed? y = some m) (h2 : s.vm.method? m = some meth) (h3 : meth.code = some c) (h4 : c.code = bytes)
    (h5 : (c.maxLocals == mx && c.exceptionTable.isEmpty && decide (c.maxStack ≤ mostOperands) && decide (meth.sig.returnType = rt) && !meth.locks && decide (parseMethodDescriptor y.desc = some meth.sig)) = true) : (Jvm.Cond.code y bytes mx rt).before a s = true := by
  simp only [Bool.and_eq_true, beq_iff_eq, Bool.not_eq_true', decide_eq_true_eq] at h5
  obtain ⟨⟨⟨⟨⟨g1, g2⟩, g3⟩, g4⟩, g5⟩, g6⟩ := h5
  simp [Cond.before, Cond.holds, Cond.value, h1, h2, h3, h4, g1, g2, g3, g4, g5, g6]
def isCode : Jvm.Cond → Bool
  | .code _ _ _ _ => true
  | _ => false
theorem all_split {L : List Jvm.Cond} {P : Jvm.Cond → Bool} (h1 : L.all (fun c => isCode c || P c) = true) (h2 : ∀ c ∈ L.filter isCode, P c = true) : L.all P = true := by
  refine List.all_eq_true.mpr fun c hc => ?_
  have h := List.all_eq_true.mp h1 c hc
  rcases Bool.eq_false_or_eq_true (isCode c) with hi | hi
  · exact h2 c (List.mem_filter.mpr ⟨hc, hi⟩)
  · simpa [hi] using h
set_option maxRecDepth 65536 in
theorem w_c0 : (Jvm.Cond.code x code maxLocals ret).before args0 about1 = true := code_word (m := ⟨1, 2⟩) (meth := k1m2) (c := k1c2) (by decide +kernel) rfl rfl rfl (by decide +kernel)
set_option maxRecDepth 65536 in
theorem w_c1 : (Jvm.Cond.code ({ cls := "com/example/saho/saho/text/XmlChars", name := "isChar", desc := "(I)Z" } : Jvm.MethodName) prog_220_method_4_code (1 : Nat) (Option.some Jvm.ClassFile.FieldType.boolean)).before args0 about1 = true := code_word (m := ⟨2, 1⟩) (meth := k2m1) (c := k2c1) (by decide +kernel) rfl rfl rfl (by decide +kernel)
set_option maxRecDepth 65536 in
theorem w_c2 : (Jvm.Cond.code ({ cls := "com/example/saho/saho/text/XmlCharsIsCharPinLaw", name := "ref", desc := "(I)Z" } : Jvm.MethodName) method_2_code (1 : Nat) (Option.some Jvm.ClassFile.FieldType.boolean)).before args0 about1 = true := code_word (m := ⟨1, 1⟩) (meth := k1m1) (c := k1c1) (by decide +kernel) rfl rfl rfl (by decide +kernel)
def codes1 : List Jvm.Cond := [Jvm.Cond.code x code maxLocals ret, Jvm.Cond.code ({ cls := "com/example/saho/saho/text/XmlChars", name := "isChar", desc := "(I)Z" } : Jvm.MethodName) prog_220_method_4_code (1 : Nat) (Option.some Jvm.ClassFile.FieldType.boolean), Jvm.Cond.code ({ cls := "com/example/saho/saho/text/XmlCharsIsCharPinLaw", name := "ref", desc := "(I)Z" } : Jvm.MethodName) method_2_code (1 : Nat) (Option.some Jvm.ClassFile.FieldType.boolean)]
set_option maxRecDepth 65536 in
theorem codes_eq : words1.filter isCode = codes1 := rfl
theorem w_codes : ∀ c ∈ words1.filter isCode, c.before args0 about1 = true := by
  rw [codes_eq]
  intro c hc
  simp only [codes1, List.mem_cons, List.not_mem_nil, or_false] at hc
  rcases hc with rfl | rfl | rfl
  · exact w_c0
  · exact w_c1
  · exact w_c2
set_option maxRecDepth 65536 in
theorem w_t1 : (words1.take 24).all (fun c => isCode c || c.before args0 about1) = true := by decide +kernel
set_option maxRecDepth 65536 in
theorem w_t2 : (words1.drop 24).all (fun c => isCode c || c.before args0 about1) = true := by decide +kernel
theorem w_tables : (allAtoms (Jvm.Cond.code x code maxLocals ret :: tables_1)).before args0 about1 = true := by
  rw [allAtoms_all]
  show words1.all (fun c => c.before args0 about1) = true
  refine all_split ?_ w_codes
  rw [← List.take_append_drop 24 words1, List.all_append, w_t1, w_t2]
  rfl
set_option maxRecDepth 65536 in
theorem w_case : (Jvm.Cond.and given_1 narrow_1).before args0 about1 = true := by decide +kernel
theorem w_applies : (headSpec (Jvm.Cond.code x code maxLocals ret :: tables_1) room_1).applies x e0.platform about1 = true :=
  (Spec.applies_iff w_frames).mpr ⟨w_running, w_runnable, w_alone, w_named, w_hears, w_ripe, w_room, w_tables⟩
theorem atStart : AtStart classFile x code maxLocals ret World_1 tables_1 room_1 Calls_1 rest_1 Pre_1 launch0 p0 e0 about1 theMethod args0 below0 :=
  ⟨lists_1, trivial, launch0.admits_env _ _ _, launch0.least_env, fairChoices_fair.cas, fairChoices_fair.clock, w_frames, w_args, w_heap, w_applies, trivial, trivial, w_case⟩
end start1
theorem witness_1 : WitnessClaimed_1 := ⟨start1.p0, start1.e0, start1.about1, start1.theMethod, start1.args0, start1.below0, start1.atStart⟩
end Jvm.Pilot.@@N@@
