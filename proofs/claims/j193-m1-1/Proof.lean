import JvmDerived
import JvmDerived.Pilot.@@N@@Statement
import JvmDerived.Pilot.@@N@@Code
set_option linter.unusedVariables false
set_option linter.unusedSimpArgs false
set_option maxHeartbeats 40000000
set_option maxRecDepth 65536
namespace Jvm.RoadKit
open Sem ClassFile Op Lib Jvm.Stand Jvm.Free Jvm.LawKit
section New
variable {p : Program} {l : Launch} {e : Env} {R : Room} {s : State} {m : MethodId} {args : Array Value} {below : List Frame} {meth : Method} {c : Code} {T : State} {locs : List Loc} {cells slots : Nat}
theorem retI (X : Stand p l e R s m args below meth c T locs cells slots) (hx : p.tables.exec = Jvm.exec) {pc : Nat} {Ls : Array Slot} {z : Int32} {rest : List Value} (hret : meth.sig.returnType = some .int) (hd : decode c.code pc = .ok (.ireturn, 1)) {fs : List Frame}
    (hl : ∀ (f : JFrame) (acts : List Action), f.method = m → f.locked = none → f.entered = [] → (doReturn e (T.setTop f) acts (some (.int z))).1 = T.setFrames fs) : Steps p.tables e below (T.setTop (mkF m pc Ls (.int z :: rest))) (T.setFrames fs) := by
  have hm' : T.vm.method? m = some meth := X.method'
  have hn : narrow .int (.int z) = .int z := rfl
  show Steps p.tables e below (T.setTop { method := m, pc := pc, locals := Ls, stack := _ :: rest, locked := none }) _
  jvm_step X.here [X.here.top, hx, hd, hm', hret, hn]
  first | (intro acts; rw [hl _ acts rfl rfl rfl]) | rw [hl _ _ rfl rfl rfl]
  exact Steps.refl _
end New
end Jvm.RoadKit
namespace Jvm.Pilot.@@N@@
open Jvm Jvm.ClassFile Sem Op Lib Jvm.Free Jvm.Stand Jvm.LawKit Jvm.RoadKit Bundle Jvm.Pilot.@@N@@.Jvm.D
/-- an array of n places of ints, bytes ..: place i holds A i -/
def own_Ar (Z : State) (h : Heap) (a : Addr) (ty : FieldType) (n : Int32) (A : Nat → Int32) : Prop := ∃ c : Cell, Arr Z h a c ty ∧ c.slots.size = n.toNatClampNeg ∧ ¬ n < 0 ∧ ∀ i, i < c.slots.size → c.slots[i]? = some (.int (A i))
def own_up (A : Nat → Int32) (k : Nat) (v : Int32) : Nat → Int32 := fun i => if i = k then v else A i
theorem own_up_hit (A : Nat → Int32) (k : Nat) (v : Int32) : own_up A k v k = v := if_pos rfl
theorem own_up_miss (A : Nat → Int32) (k : Nat) (v : Int32) {i : Nat} (h : i ≠ k) : own_up A k v i = A i := if_neg h
theorem own_slots (c : Cell) (k : Nat) (v : Value) : (c.setSlot k v).slots = c.slots.setIfInBounds k v := rfl
theorem own_slotsN (k : ClassId) (ty : FieldType) (n : Int32) : (newA k ty n).slots = Array.replicate n.toNatClampNeg (defaultValue ty) := rfl
section OwnArr
variable {Z : State} {h h' : Heap} {a b : Addr} {ty : FieldType} {n : Int32} {A : Nat → Int32} {sl : Nat} {v : Value} {ws : List Addr}
theorem own_Ar.lt (F : own_Ar Z h a ty n A) : a < h.size := by obtain ⟨c, B, -⟩ := F; exact B.lt
theorem own_Ar.ext (F : own_Ar Z h a ty n A) (E : Ext h h') : own_Ar Z h' a ty n A := by obtain ⟨c, B, r⟩ := F; exact ⟨c, B.ext E, r⟩
theorem own_Ar.other (F : own_Ar Z h b ty n A) (W : Wr h h' a sl v) (q : b ≠ a) : own_Ar Z h' b ty n A := by obtain ⟨c, B, r⟩ := F; exact ⟨c, B.other W q, r⟩
theorem own_Ar.keep (F : own_Ar Z h a ty n A) (K : Keep h h' ws) (q : a ∉ ws) : own_Ar Z h' a ty n A := by obtain ⟨c, B, r⟩ := F; exact ⟨c, ⟨K.2.1 a c B.1 q, B.2⟩, r⟩
theorem own_Ar.new {k : ClassId} (B : Arr Z h a (newA k ty n) ty) (q : ¬ n < 0) (hd : defaultValue ty = .int 0) : own_Ar Z h a ty n (fun _ => 0) := by
  refine ⟨_, B, sz_new _ _ _, q, fun i hi => ?_⟩
  rw [sz_new] at hi
  rw [own_slotsN, hd, Array.getElem?_replicate, if_pos hi]
theorem own_Ar.put {cl : Cell} {k : Nat} {x : Int32} (B : Arr Z h a cl ty) (S : cl.slots.size = n.toNatClampNeg) (N : ¬ n < 0) (H : ∀ i, i < cl.slots.size → cl.slots[i]? = some (.int (A i))) (W : Wr h h' a k (.int x)) : own_Ar Z h' a ty n (own_up A k x) := by
  refine ⟨_, B.same W, by rw [sz_set]; exact S, N, fun i hi => ?_⟩
  rw [sz_set] at hi
  rw [own_slots]
  by_cases u : i = k
  · subst u
    rw [own_up_hit, Array.getElem?_setIfInBounds_self_of_lt hi]
  · rw [own_up_miss _ _ _ u, Array.getElem?_setIfInBounds_ne (fun z => u z.symm)]
    exact H i hi
end OwnArr
section OwnArrSteps
variable {p : Program} {l : Launch} {e : Env} {R : Room} {s : State} {m : MethodId} {args : Array Value} {below : List Frame} {meth : Method} {c : Code} {T : State} {locs : List Loc} {cells slots : Nat} {Z : State} {h : Heap} {a : Addr} {ty : FieldType} {n : Int32} {A : Nat → Int32}
theorem own_ldI (X : Stand p l e R s m args below meth c T locs cells slots) (hx : p.tables.exec = Jvm.exec) (hZ : Z.Warmed39 s.vm) (eT : T.heap = h) (F : own_Ar Z h a .int n A) {j : Int32} (hj : ¬ j < 0 ∧ j < n) {g : JFrame} (hg : g.method = m) {rest : List Value} (hs : g.stack = .int j :: .ref a :: rest) (hd : decode c.code g.pc = .ok (.iaload, 1)) (target : State)
    (k : Steps p.tables e below (T.setTop { g with pc := g.pc + 1, stack := .int (A j.toNatClampNeg) :: rest }) target) : Steps p.tables e below (T.setTop g) target := by
  obtain ⟨cl, B, S, N, H⟩ := F
  have hin := inb_of S hj
  exact X.iaload hx (by rw [eT]; exact B.1) (State.isArrayOf_alike hZ.alike B.2.1) B.2.2 hin (H _ (Nat.lt_of_not_le fun y => hin (Or.inr y))) hg hs hd target k
theorem own_ldB (X : Stand p l e R s m args below meth c T locs cells slots) (hx : p.tables.exec = Jvm.exec) (hZ : Z.Warmed39 s.vm) (eT : T.heap = h) (F : own_Ar Z h a .byte n A) {j : Int32} (hj : ¬ j < 0 ∧ j < n) {g : JFrame} (hg : g.method = m) {rest : List Value} (hs : g.stack = .int j :: .ref a :: rest) (hd : decode c.code g.pc = .ok (.baload, 1)) (target : State)
    (k : Steps p.tables e below (T.setTop { g with pc := g.pc + 1, stack := .int (A j.toNatClampNeg) :: rest }) target) : Steps p.tables e below (T.setTop g) target := by
  obtain ⟨cl, B, S, N, H⟩ := F
  have hin := inb_of S hj
  exact X.baloadBytes hx (by rw [eT]; exact B.1) (State.isArrayOf_alike hZ.alike B.2.1) B.2.2 hin (H _ (Nat.lt_of_not_le fun y => hin (Or.inr y))) hg hs hd target k
theorem own_alen (X : Stand p l e R s m args below meth c T locs cells slots) (hx : p.tables.exec = Jvm.exec) (hZ : Z.Warmed39 s.vm) (eT : T.heap = h) (F : own_Ar Z h a ty n A) {g : JFrame} (hg : g.method = m) {rest : List Value} (hs : g.stack = .ref a :: rest) (hd : decode c.code g.pc = .ok (.arraylength, 1)) (target : State)
    (k : Steps p.tables e below (T.setTop { g with pc := g.pc + 1, stack := .int n :: rest }) target) : Steps p.tables e below (T.setTop g) target := by
  obtain ⟨cl, B, S, N, H⟩ := F
  exact X.arraylength hx (by rw [eT]; exact B.1) (State.isArrayOf_alike hZ.alike B.2.1) hg hs hd target (by rw [len_of S N]; exact k)
theorem own_stI (X : Stand p l e R s m args below meth c T locs cells slots) (hx : p.tables.exec = Jvm.exec) (hZ : Z.Warmed39 s.vm) (eT : T.heap = h) (F : own_Ar Z h a .int n A) {j x : Int32} (hj : ¬ j < 0 ∧ j < n) {g : JFrame} (hg : g.method = m) {rest : List Value} (hs : g.stack = .int x :: .int j :: .ref a :: rest) (hd : decode c.code g.pc = .ok (.iastore, 1)) :
    ∃ T' h', Stand p l e R s m args below meth c T' (locs ++ [⟨a, j.toNatClampNeg⟩]) cells slots ∧ T'.heap = h' ∧ Wr h h' a j.toNatClampNeg (.int x) ∧ own_Ar Z h' a .int n (own_up A j.toNatClampNeg x) ∧ ∀ target, Steps p.tables e below (T'.setTop { g with pc := g.pc + 1, stack := rest }) target → Steps p.tables e below (T.setTop g) target := by
  obtain ⟨cl, B, S, N, H⟩ := F
  obtain ⟨T', h', X', e', W, st⟩ := stI X hx hZ eT B (j := j) (inb_of S hj) hg hs hd
  exact ⟨T', h', X', e', W, own_Ar.put B S N H W, st⟩
theorem own_stB (X : Stand p l e R s m args below meth c T locs cells slots) (hx : p.tables.exec = Jvm.exec) (hZ : Z.Warmed39 s.vm) (eT : T.heap = h) (F : own_Ar Z h a .byte n A) {j x : Int32} (hj : ¬ j < 0 ∧ j < n) {g : JFrame} (hg : g.method = m) {rest : List Value} (hs : g.stack = .int x :: .int j :: .ref a :: rest) (hd : decode c.code g.pc = .ok (.bastore, 1)) :
    ∃ T' h', Stand p l e R s m args below meth c T' (locs ++ [⟨a, j.toNatClampNeg⟩]) cells slots ∧ T'.heap = h' ∧ Wr h h' a j.toNatClampNeg (.int x.toInt8.toInt32) ∧ own_Ar Z h' a .byte n (own_up A j.toNatClampNeg x.toInt8.toInt32) ∧ ∀ target, Steps p.tables e below (T'.setTop { g with pc := g.pc + 1, stack := rest }) target → Steps p.tables e below (T.setTop g) target := by
  obtain ⟨cl, B, S, N, H⟩ := F
  obtain ⟨T', h', X', e', W, st⟩ := stB X hx hZ eT B (j := j) (inb_of S hj) hg hs hd
  exact ⟨T', h', X', e', W, own_Ar.put B S N H W, st⟩
end OwnArrSteps
theorem own_cc {z cd n j : Int32} (hI : ¬ z = 0 ∧ cd = 0 ∧ n = 10) (h1 : ¬ j < 0) (h2 : j < 10) : ¬ z = 0 ∧ cd = 0 ∧ ¬ j < 0 ∧ j < n := by
  obtain ⟨a, b, rfl⟩ := hI
  exact ⟨a, b, h1, h2⟩
theorem own_cq {z cd n : Int32} (hI : ¬ z = 0 ∧ cd = 0 ∧ n = 10) (k : Int32) : ¬ z = 0 ∧ cd = 0 ∧ ¬ ((k &&& (2147483647 : Int32)) - ((k &&& (2147483647 : Int32)) / (10 : Int32)) * (10 : Int32)) < 0 ∧ ((k &&& (2147483647 : Int32)) - ((k &&& (2147483647 : Int32)) / (10 : Int32)) * (10 : Int32)) < n := by
  have l0 : (0 : Int32).toInt = 0 := by decide +kernel
  have l10 : (10 : Int32).toInt = 10 := by decide +kernel
  have m := c_mask k 2147483647 31 (by decide +kernel) (by decide +kernel)
  have e := rem_toInt (k &&& (2147483647 : Int32)) 10
  rw [l10, Int.tmod_eq_emod_of_nonneg (by omega)] at e
  refine own_cc hI ?_ ?_
  · rw [Int32.lt_iff_toInt_lt, e, l0]; omega
  · rw [Int32.lt_iff_toInt_lt, e, l10]; omega
theorem d3_0 : decode jdk_42_method_154_code 0 = .ok (.getstatic 38, 3) := by decide +kernel
theorem d3_3 : decode jdk_42_method_154_code 3 = .ok (.ifCond .eq 14, 3) := by decide +kernel
theorem d3_6 : decode jdk_42_method_154_code 6 = .ok (.aload_n 0, 1) := by decide +kernel
theorem d3_7 : decode jdk_42_method_154_code 7 = .ok (.getfield 15, 3) := by decide +kernel
theorem d3_10 : decode jdk_42_method_154_code 10 = .ok (.ifCond .ne 7, 3) := by decide +kernel
theorem d3_13 : decode jdk_42_method_154_code 13 = .ok (.iconst 1, 1) := by decide +kernel
theorem d3_14 : decode jdk_42_method_154_code 14 = .ok (.goto 4, 3) := by decide +kernel
theorem d3_17 : decode jdk_42_method_154_code 17 = .ok (.iconst 0, 1) := by decide +kernel
theorem d3_18 : decode jdk_42_method_154_code 18 = .ok (.ireturn, 1) := by decide +kernel
theorem pn_3 : plainName "java/lang/String" = true := by first | (simp [plainName, overriddenIn]; done) | decide +kernel
theorem ef_3 (m : MethodId) (a0 : Addr) : entryFrame m #[(.ref a0)] 1 = mkF m 0 #[.val (.ref a0)] [] := by first | (simp [entryFrame, mkF, argsToLocals, Value.category]; done) | rfl
def own_f3_0 (w_COMPACT_STRINGS : Int32) (w_coder_a0 : Int32) : Int32 :=
  (if w_COMPACT_STRINGS = (0 : Int32) then (0 : Int32) else (if w_coder_a0 = (0 : Int32) then (1 : Int32) else (0 : Int32)))
set_option maxRecDepth 65536 in
set_option maxHeartbeats 40000000 in
theorem own_b3_0 {p : Program} {l : Launch} {e : Env} {s : State} {m : MethodId} {args : Array Value} {below : List Frame} {meth : Method} {c : Code} {Z : State} {a0_ : Array Value} (hx : p.tables.exec = Jvm.exec) (hZ : Z.Warmed39 s.vm) (hw : ∀ d ∈ tables_1, d.before a0_ Z = true) (hby : c.code = jdk_42_method_154_code) (hml : c.maxLocals = 1) (hown : s.vm.findClass "java/lang/String" = some m.cls) (hret : meth.sig.returnType = some .boolean) {T0 : State} {locs : List Loc} {cells slots : Nat} {h0 : Heap} (a0 : Addr) (w_COMPACT_STRINGS : Int32) (w_coder_a0 : Int32)
    (X0 : Stand p l e ({ frames := 0, cells := 0, slots := 0, locals := 0 } : Room) s m args below meth c T0 locs cells slots) (e0 : T0.heap = h0) (hcl : cells ≤ ({ frames := 0, cells := 0, slots := 0, locals := 0 } : Room).cells) (hsl : slots ≤ ({ frames := 0, cells := 0, slots := 0, locals := 0 } : Room).slots) (S_COMPACT_STRINGS : Sta Z h0 "java/lang/String" "COMPACT_STRINGS" "Z" (.int w_COMPACT_STRINGS)) (F_coder_a0 : Fld Z h0 a0 "java/lang/String" "coder" "B" (.int w_coder_a0)) :
    ∃ T', Stand p l e ({ frames := 0, cells := 0, slots := 0, locals := 0 } : Room) s m args below meth c T' locs cells slots ∧ T'.heap = h0 ∧ ∀ fs, (∀ (f : JFrame) (acts : List Action), f.method = m → f.locked = none → f.entered = [] → (doReturn e (T'.setTop f) acts (some (.int (own_f3_0 w_COMPACT_STRINGS w_coder_a0)))).1 = T'.setFrames fs) → Steps p.tables e below (T0.setTop (mkF m 0 #[.val (.ref a0)] [])) (T'.setFrames fs) := by
  obtain ⟨T1, X1, e1, st1⟩ := getS2 X0 hx hZ hown (host := "") (Or.inl (hw _ (List.mem_of_getElem? (i := 23) rfl))) Via.refl e0 S_COMPACT_STRINGS (g := (mkF m 0 #[.val (.ref a0)] [])) rfl (hb hby d3_0)
  have pre2 : ∀ target, Steps p.tables e below (T1.setTop (mkF m 3 #[.val (.ref a0)] [(.int w_COMPACT_STRINGS)])) target → Steps p.tables e below (T0.setTop (mkF m 0 #[.val (.ref a0)] [])) target := by
    intro target kt
    show Steps p.tables e below (T0.setTop (mkF m 0 #[.val (.ref a0)] [])) _
    refine st1 _ ?_
    exact kt
  by_cases hc3 : w_COMPACT_STRINGS = (0 : Int32)
  · refine ⟨T1, X1, e1, fun fs hr => ?_⟩
    have hv : (own_f3_0 w_COMPACT_STRINGS w_coder_a0) = (0 : Int32) := by unfold own_f3_0; rw [if_pos hc3]
    rw [hv] at hr
    refine pre2 _ ?_
    show Steps p.tables e below (T1.setTop (mkF m 3 #[.val (.ref a0)] [(.int w_COMPACT_STRINGS)])) _
    refine XS.ifYes X1.here hx rfl (pc0 := 3) (pc' := 17) rfl (hb hby d3_3) rfl ((if0 _ _).trans (teq hc3).1) (by decide) (by decide) ?_
    show Steps p.tables e below (T1.setTop (mkF m 17 #[.val (.ref a0)] [])) _
    refine XS.iconst X1.here hx rfl (hb hby d3_17) ?_
    show Steps p.tables e below (T1.setTop (mkF m 18 #[.val (.ref a0)] [(.int (0 : Int32))])) _
    exact retN X1 hx (t := .boolean) hret (by simp) (hb hby d3_18) hr
  · obtain ⟨T3, X3, e3, st3⟩ := getF X1 hx hZ hown (host := "") (Or.inl (hw _ (List.mem_of_getElem? (i := 24) rfl))) Via.refl e1 F_coder_a0 (g := (mkF m 7 #[.val (.ref a0)] [(.ref a0)])) rfl rfl (hb hby d3_7)
    have pre4 : ∀ target, Steps p.tables e below (T3.setTop (mkF m 10 #[.val (.ref a0)] [(.int w_coder_a0)])) target → Steps p.tables e below (T0.setTop (mkF m 0 #[.val (.ref a0)] [])) target := by
      intro target kt
      refine pre2 target ?_
      show Steps p.tables e below (T1.setTop (mkF m 3 #[.val (.ref a0)] [(.int w_COMPACT_STRINGS)])) _
      refine XS.ifNo X1.here hx rfl (hb hby d3_3) rfl ((if0 _ _).trans (feq hc3).1) ?_
      show Steps p.tables e below (T1.setTop (mkF m 6 #[.val (.ref a0)] [])) _
      refine XS.aloadN X1.here hx rfl (hb hby d3_6) rfl rfl ?_
      show Steps p.tables e below (T1.setTop (mkF m 7 #[.val (.ref a0)] [(.ref a0)])) _
      refine st3 _ ?_
      exact kt
    by_cases hc10 : w_coder_a0 = (0 : Int32)
    · refine ⟨T3, X3, e3, fun fs hr => ?_⟩
      have hv : (own_f3_0 w_COMPACT_STRINGS w_coder_a0) = (1 : Int32) := by unfold own_f3_0; rw [if_neg hc3, if_pos hc10]
      rw [hv] at hr
      refine pre4 _ ?_
      show Steps p.tables e below (T3.setTop (mkF m 10 #[.val (.ref a0)] [(.int w_coder_a0)])) _
      refine XS.ifNo X3.here hx rfl (hb hby d3_10) rfl ((if0 _ _).trans (teq hc10).2) ?_
      show Steps p.tables e below (T3.setTop (mkF m 13 #[.val (.ref a0)] [])) _
      refine XS.iconst X3.here hx rfl (hb hby d3_13) ?_
      show Steps p.tables e below (T3.setTop (mkF m 14 #[.val (.ref a0)] [(.int (1 : Int32))])) _
      refine XS.goto X3.here hx rfl (pc0 := 14) (pc' := 18) rfl (hb hby d3_14) (by decide) (by decide) ?_
      show Steps p.tables e below (T3.setTop (mkF m 18 #[.val (.ref a0)] [(.int (1 : Int32))])) _
      exact retN X3 hx (t := .boolean) hret (by simp) (hb hby d3_18) hr
    · refine ⟨T3, X3, e3, fun fs hr => ?_⟩
      have hv : (own_f3_0 w_COMPACT_STRINGS w_coder_a0) = (0 : Int32) := by unfold own_f3_0; rw [if_neg hc3, if_neg hc10]
      rw [hv] at hr
      refine pre4 _ ?_
      show Steps p.tables e below (T3.setTop (mkF m 10 #[.val (.ref a0)] [(.int w_coder_a0)])) _
      refine XS.ifYes X3.here hx rfl (pc0 := 10) (pc' := 17) rfl (hb hby d3_10) rfl ((if0 _ _).trans (feq hc10).2) (by decide) (by decide) ?_
      show Steps p.tables e below (T3.setTop (mkF m 17 #[.val (.ref a0)] [])) _
      refine XS.iconst X3.here hx rfl (hb hby d3_17) ?_
      show Steps p.tables e below (T3.setTop (mkF m 18 #[.val (.ref a0)] [(.int (0 : Int32))])) _
      exact retN X3 hx (t := .boolean) hret (by simp) (hb hby d3_18) hr
def Q3 (Z : State) (a0 : Addr) (w_COMPACT_STRINGS : Int32) (w_coder_a0 : Int32) (h0 : Heap) (n0 : Nat) (v : Option Value) (h : Heap) (L : List Loc) : Prop := v = some (.int (own_f3_0 w_COMPACT_STRINGS w_coder_a0)) ∧ L = [] ∧ h = h0
set_option maxRecDepth 65536 in
set_option maxHeartbeats 40000000 in
theorem rm3 (l : Launch) (Z : State) (a0_ : Array Value) (hw : ∀ d ∈ tables_1, d.before a0_ Z = true) (ws : List Jvm.Cond) (a0 : Addr) (w_COMPACT_STRINGS : Int32) (w_coder_a0 : Int32) (h0 : Heap) (n0 : Nat) (Z0 : n0 ≤ h0.size) (S_COMPACT_STRINGS : Sta Z h0 "java/lang/String" "COMPACT_STRINGS" "Z" (.int w_COMPACT_STRINGS)) (F_coder_a0 : Fld Z h0 a0 "java/lang/String" "coder" "B" (.int w_coder_a0)) :
    MetFree l (⟨"java/lang/String", "isLatin1", "()Z"⟩ : MethodName) (head1 (Jvm.Cond.code (⟨"java/lang/String", "isLatin1", "()Z"⟩ : MethodName) jdk_42_method_154_code 1 (some .boolean) :: ws) ({ frames := 0, cells := 0, slots := 0, locals := 0 } : Room)) (fun a U => a = #[(.ref a0)] ∧ Z.Warmed39 U.vm ∧ U.heap = h0) (fun _ _ _ _ _ => True) (fun _ U o U' => ∃ v L, o = .returned v ∧ Q3 Z a0 w_COMPACT_STRINGS w_coder_a0 h0 n0 v U'.heap L ∧ FrameEnd U o U' L ({ frames := 0, cells := 0, slots := 0, locals := 0 } : Room).cells ({ frames := 0, cells := 0, slots := 0, locals := 0 } : Room).slots) := by
  refine MetFree.of_bodySF (plainFor_of_name pn_3) hisR ?_
  intro p e s m args below meth c s₁ Bd hml0 hP hK
  obtain ⟨rfl, hZ, hh⟩ := hP
  have hx := Bd.exec
  have hby := Bd.bytes
  have hml : c.maxLocals = 1 := hml0
  have hown : s.vm.findClass "java/lang/String" = some m.cls := findClass_of_methodNamed Bd.named
  have X0 : Stand p l e ({ frames := 0, cells := 0, slots := 0, locals := 0 } : Room) s m #[(.ref a0)] below meth c s₁ [] 0 0 := Stand.of_body Bd
  have e0 : s₁.heap = h0 := by rw [← hh, Bd.state]; rfl
  obtain ⟨T', X', e', st'⟩ := own_b3_0 hx hZ hw hby hml hown Bd.returns  a0 w_COMPACT_STRINGS w_coder_a0 X0 e0 (by decide) (by decide) S_COMPACT_STRINGS F_coder_a0
  obtain ⟨fs, hr, hrun, hended, hW, hsame⟩ := X'.leave (v := some (.int (own_f3_0 w_COMPACT_STRINGS w_coder_a0))) (fun h => by rw [Bd.returns] at h; cases h)
  refine ⟨_, _, castTop (ef_3 m a0) (st' fs hr), hrun, hended, _, _, rfl, ?_, ⟨_, rfl⟩, hW, hsame.mono (by decide) (by decide)⟩
  exact ⟨rfl, rfl, e'⟩
theorem d6_0 : decode jdk_41_method_11_code 0 = .ok (.iload_n 0, 1) := by decide +kernel
theorem d6_1 : decode jdk_41_method_11_code 1 = .ok (.ifCond .lt 8, 3) := by decide +kernel
theorem d6_4 : decode jdk_41_method_11_code 4 = .ok (.iload_n 0, 1) := by decide +kernel
theorem d6_5 : decode jdk_41_method_11_code 5 = .ok (.iload_n 1, 1) := by decide +kernel
theorem d6_6 : decode jdk_41_method_11_code 6 = .ok (.if_icmp .lt 10, 3) := by decide +kernel
theorem d6_16 : decode jdk_41_method_11_code 16 = .ok (.iload_n 0, 1) := by decide +kernel
theorem d6_17 : decode jdk_41_method_11_code 17 = .ok (.ireturn, 1) := by decide +kernel
theorem pn_6 : plainName "jdk/internal/util/Preconditions" = true := by first | (simp [plainName, overriddenIn]; done) | decide +kernel
theorem ef_6 (m : MethodId) (i0 : Int32) (i1 : Int32) (x2 : Value) (r_x2 : x2.isRef = true) : entryFrame m #[(.int i0), (.int i1), x2] 3 = mkF m 0 #[.val (.int i0), .val (.int i1), .val x2] [] := by rcases ref_cases r_x2 with rfl | ⟨_, rfl⟩ <;> first | (simp [entryFrame, mkF, argsToLocals, Value.category]; done) | rfl
def own_f6_0 (i0 : Int32) (i1 : Int32) : Int32 :=
  (if i0 < (0 : Int32) then (0 : Int32) else (if i0 < i1 then i0 else (0 : Int32)))
set_option maxRecDepth 65536 in
set_option maxHeartbeats 40000000 in
theorem own_b6_0 {p : Program} {l : Launch} {e : Env} {s : State} {m : MethodId} {args : Array Value} {below : List Frame} {meth : Method} {c : Code} {Z : State} {a0_ : Array Value} (hx : p.tables.exec = Jvm.exec) (hZ : Z.Warmed39 s.vm) (hw : ∀ d ∈ tables_1, d.before a0_ Z = true) (hby : c.code = jdk_41_method_11_code) (hml : c.maxLocals = 3) (hown : s.vm.findClass "jdk/internal/util/Preconditions" = some m.cls) (hret : meth.sig.returnType = some .int) {T0 : State} {locs : List Loc} {cells slots : Nat} {h0 : Heap} (i0 : Int32) (i1 : Int32) (x2 : Value)
    (X0 : Stand p l e ({ frames := 0, cells := 0, slots := 0, locals := 0 } : Room) s m args below meth c T0 locs cells slots) (e0 : T0.heap = h0) (hcl : cells ≤ ({ frames := 0, cells := 0, slots := 0, locals := 0 } : Room).cells) (hsl : slots ≤ ({ frames := 0, cells := 0, slots := 0, locals := 0 } : Room).slots) (r_x2 : x2.isRef = true) (hI : ¬ i0 < 0 ∧ i0 < i1) :
    ∃ T', Stand p l e ({ frames := 0, cells := 0, slots := 0, locals := 0 } : Room) s m args below meth c T' locs cells slots ∧ T'.heap = h0 ∧ ∀ fs, (∀ (f : JFrame) (acts : List Action), f.method = m → f.locked = none → f.entered = [] → (doReturn e (T'.setTop f) acts (some (.int (own_f6_0 i0 i1)))).1 = T'.setFrames fs) → Steps p.tables e below (T0.setTop (mkF m 0 #[.val (.int i0), .val (.int i1), .val x2] [])) (T'.setFrames fs) := by
  have pre1 : ∀ target, Steps p.tables e below (T0.setTop (mkF m 1 #[.val (.int i0), .val (.int i1), .val x2] [(.int i0)])) target → Steps p.tables e below (T0.setTop (mkF m 0 #[.val (.int i0), .val (.int i1), .val x2] [])) target := by
    intro target kt
    show Steps p.tables e below (T0.setTop (mkF m 0 #[.val (.int i0), .val (.int i1), .val x2] [])) _
    refine XS.iloadN X0.here hx rfl (hb hby d6_0) rfl ?_
    exact kt
  by_cases hc1 : i0 < (0 : Int32)
  · exact absurd hc1 (hI.1)
  · have pre2 : ∀ target, Steps p.tables e below (T0.setTop (mkF m 6 #[.val (.int i0), .val (.int i1), .val x2] [(.int i1), (.int i0)])) target → Steps p.tables e below (T0.setTop (mkF m 0 #[.val (.int i0), .val (.int i1), .val x2] [])) target := by
      intro target kt
      refine pre1 target ?_
      show Steps p.tables e below (T0.setTop (mkF m 1 #[.val (.int i0), .val (.int i1), .val x2] [(.int i0)])) _
      refine XS.ifNo X0.here hx rfl (hb hby d6_1) rfl ((if0 _ _).trans (flt hc1).1) ?_
      show Steps p.tables e below (T0.setTop (mkF m 4 #[.val (.int i0), .val (.int i1), .val x2] [])) _
      refine XS.iloadN X0.here hx rfl (hb hby d6_4) rfl ?_
      show Steps p.tables e below (T0.setTop (mkF m 5 #[.val (.int i0), .val (.int i1), .val x2] [(.int i0)])) _
      refine XS.iloadN X0.here hx rfl (hb hby d6_5) rfl ?_
      exact kt
    by_cases hc6 : i0 < i1
    · refine ⟨T0, X0, e0, fun fs hr => ?_⟩
      have hv : (own_f6_0 i0 i1) = i0 := by unfold own_f6_0; rw [if_neg hc1, if_pos hc6]
      rw [hv] at hr
      refine pre2 _ ?_
      show Steps p.tables e below (T0.setTop (mkF m 6 #[.val (.int i0), .val (.int i1), .val x2] [(.int i1), (.int i0)])) _
      refine XS.icmpYes X0.here hx rfl (pc0 := 6) (pc' := 16) rfl (hb hby d6_6) rfl (tlt hc6).1 (by decide) (by decide) ?_
      show Steps p.tables e below (T0.setTop (mkF m 16 #[.val (.int i0), .val (.int i1), .val x2] [])) _
      refine XS.iloadN X0.here hx rfl (hb hby d6_16) rfl ?_
      show Steps p.tables e below (T0.setTop (mkF m 17 #[.val (.int i0), .val (.int i1), .val x2] [(.int i0)])) _
      exact retI X0 hx hret (hb hby d6_17) hr
    · exact absurd hc6 (not_not_intro hI.2)
def Q6 (Z : State) (i0 : Int32) (i1 : Int32) (x2 : Value) (h0 : Heap) (n0 : Nat) (v : Option Value) (h : Heap) (L : List Loc) : Prop := v = some (.int (own_f6_0 i0 i1)) ∧ L = [] ∧ h = h0
set_option maxRecDepth 65536 in
set_option maxHeartbeats 40000000 in
theorem rm6 (l : Launch) (Z : State) (a0_ : Array Value) (hw : ∀ d ∈ tables_1, d.before a0_ Z = true) (ws : List Jvm.Cond) (i0 : Int32) (i1 : Int32) (x2 : Value) (h0 : Heap) (n0 : Nat) (Z0 : n0 ≤ h0.size) (r_x2 : x2.isRef = true) (hI : ¬ i0 < 0 ∧ i0 < i1) :
    MetFree l (⟨"jdk/internal/util/Preconditions", "checkIndex", "(IILjava/util/function/BiFunction;)I"⟩ : MethodName) (head1 (Jvm.Cond.code (⟨"jdk/internal/util/Preconditions", "checkIndex", "(IILjava/util/function/BiFunction;)I"⟩ : MethodName) jdk_41_method_11_code 3 (some .int) :: ws) ({ frames := 0, cells := 0, slots := 0, locals := 0 } : Room)) (fun a U => a = #[(.int i0), (.int i1), x2] ∧ Z.Warmed39 U.vm ∧ U.heap = h0) (fun _ _ _ _ _ => True) (fun _ U o U' => ∃ v L, o = .returned v ∧ Q6 Z i0 i1 x2 h0 n0 v U'.heap L ∧ FrameEnd U o U' L ({ frames := 0, cells := 0, slots := 0, locals := 0 } : Room).cells ({ frames := 0, cells := 0, slots := 0, locals := 0 } : Room).slots) := by
  refine MetFree.of_bodySF (plainFor_of_name pn_6) hisR ?_
  intro p e s m args below meth c s₁ Bd hml0 hP hK
  obtain ⟨rfl, hZ, hh⟩ := hP
  have hx := Bd.exec
  have hby := Bd.bytes
  have hml : c.maxLocals = 3 := hml0
  have hown : s.vm.findClass "jdk/internal/util/Preconditions" = some m.cls := findClass_of_methodNamed Bd.named
  have X0 : Stand p l e ({ frames := 0, cells := 0, slots := 0, locals := 0 } : Room) s m #[(.int i0), (.int i1), x2] below meth c s₁ [] 0 0 := Stand.of_body Bd
  have e0 : s₁.heap = h0 := by rw [← hh, Bd.state]; rfl
  obtain ⟨T', X', e', st'⟩ := own_b6_0 hx hZ hw hby hml hown Bd.returns  i0 i1 x2 X0 e0 (by decide) (by decide) r_x2 hI
  obtain ⟨fs, hr, hrun, hended, hW, hsame⟩ := X'.leave (v := some (.int (own_f6_0 i0 i1))) (fun h => by rw [Bd.returns] at h; cases h)
  refine ⟨_, _, castTop (ef_6 m i0 i1 x2 r_x2) (st' fs hr), hrun, hended, _, _, rfl, ?_, ⟨_, rfl⟩, hW, hsame.mono (by decide) (by decide)⟩
  exact ⟨rfl, rfl, e'⟩
theorem d5_0 : decode jdk_42_method_155_code 0 = .ok (.iload_n 0, 1) := by decide +kernel
theorem d5_1 : decode jdk_42_method_155_code 1 = .ok (.iload_n 1, 1) := by decide +kernel
theorem d5_2 : decode jdk_42_method_155_code 2 = .ok (.getstatic 1053, 3) := by decide +kernel
theorem d5_5 : decode jdk_42_method_155_code 5 = .ok (.invokestatic 1059, 3) := by decide +kernel
theorem d5_8 : decode jdk_42_method_155_code 8 = .ok (.pop, 1) := by decide +kernel
theorem d5_9 : decode jdk_42_method_155_code 9 = .ok (.return_, 1) := by decide +kernel
theorem pn_5 : plainName "java/lang/String" = true := by first | (simp [plainName, overriddenIn]; done) | decide +kernel
theorem pd_5_0 : parseMethodDescriptor "(IILjava/util/function/BiFunction;)I" = some ⟨[.int, .int, (.object "java/util/function/BiFunction")], some .int⟩ := by decide +kernel
theorem ef_5 (m : MethodId) (i0 : Int32) (i1 : Int32) : entryFrame m #[(.int i0), (.int i1)] 2 = mkF m 0 #[.val (.int i0), .val (.int i1)] [] := by first | (simp [entryFrame, mkF, argsToLocals, Value.category]; done) | rfl
set_option maxRecDepth 65536 in
set_option maxHeartbeats 40000000 in
theorem own_b5_0 {p : Program} {l : Launch} {e : Env} {s : State} {m : MethodId} {args : Array Value} {below : List Frame} {meth : Method} {c : Code} {Z : State} {a0_ : Array Value} (hx : p.tables.exec = Jvm.exec) (hZ : Z.Warmed39 s.vm) (hw : ∀ d ∈ tables_1, d.before a0_ Z = true) (hby : c.code = jdk_42_method_155_code) (hml : c.maxLocals = 2) (hown : s.vm.findClass "java/lang/String" = some m.cls) (hret : meth.sig.returnType = none) {T0 : State} {locs : List Loc} {cells slots : Nat} {h0 : Heap} (i0 : Int32) (i1 : Int32) (w_SIOOBE_FORMATTER : Value)
    (X0 : Stand p l e ({ frames := 1, cells := 0, slots := 0, locals := 14 } : Room) s m args below meth c T0 locs cells slots) (e0 : T0.heap = h0) (hcl : cells ≤ ({ frames := 1, cells := 0, slots := 0, locals := 14 } : Room).cells) (hsl : slots ≤ ({ frames := 1, cells := 0, slots := 0, locals := 14 } : Room).slots) (S_SIOOBE_FORMATTER : Sta Z h0 "jdk/internal/util/Preconditions" "SIOOBE_FORMATTER" "Ljava/util/function/BiFunction;" w_SIOOBE_FORMATTER) (r_w_SIOOBE_FORMATTER : w_SIOOBE_FORMATTER.isRef = true) (hI : ¬ i0 < 0 ∧ i0 < i1) :
    ∃ T', Stand p l e ({ frames := 1, cells := 0, slots := 0, locals := 14 } : Room) s m args below meth c T' locs cells slots ∧ T'.heap = h0 ∧ ∀ fs, (∀ (f : JFrame) (acts : List Action), f.method = m → f.locked = none → f.entered = [] → (doReturn e (T'.setTop f) acts (none)).1 = T'.setFrames fs) → Steps p.tables e below (T0.setTop (mkF m 0 #[.val (.int i0), .val (.int i1)] [])) (T'.setFrames fs) := by
  obtain ⟨T1, X1, e1, st1⟩ := getS2 X0 hx hZ hown (host := "") (Or.inl (hw _ (List.mem_of_getElem? (i := 33) rfl))) Via.refl e0 S_SIOOBE_FORMATTER (g := (mkF m 2 #[.val (.int i0), .val (.int i1)] [(.int i1), (.int i0)])) rfl (hb hby d5_2)
  have hJ2 : ¬ i0 < 0 ∧ i0 < i1 := by exact hI
  obtain ⟨_, _, ⟨T2, L2, k2, n2⟩, -, X2, ⟨Lc2, hQ2, l2, y2, z2⟩, st2⟩ := Jvm.LawKit.callS X1 hx (y := (⟨"jdk/internal/util/Preconditions", "checkIndex", "(IILjava/util/function/BiFunction;)I"⟩ : MethodName)) hown (mvT hZ (hw _ (List.mem_of_getElem? (i := 35) rfl))) (mvT hZ (hw _ (List.mem_of_getElem? (i := 36) rfl))) (mvT hZ (hw _ (List.mem_of_getElem? (i := 34) rfl))) (mvT hZ (hw _ (List.mem_of_getElem? (i := 37) rfl))) (by decide) (backOf (W := 0) (rm6 l Z a0_ hw [] i0 i1 w_SIOOBE_FORMATTER  h0 0 (Nat.zero_le _) r_w_SIOOBE_FORMATTER hJ2) hZ (hw _ (List.mem_of_getElem? (i := 37) rfl)) (hw _ (List.mem_of_getElem? (i := 34) rfl)) (by decide) (by decide)) (g := (mkF m 5 #[.val (.int i0), .val (.int i1)] [w_SIOOBE_FORMATTER, (.int i1), (.int i0)])) rfl (by rw [hml]; rfl) (argsL := [(.int i0), (.int i1), w_SIOOBE_FORMATTER]) (rest := []) (lenOf pd_5_0 rfl) rfl (by show 2 * 0 + _ ≤ _; exact Nat.le_of_eq rfl) (hb hby d5_5) (fun _ _ => ⟨rfl, e1, hcl, hsl⟩)
  dsimp only [Pt.U, Pt.locs, Pt.cells, Pt.slots] at X2 l2 y2 z2 st2 hQ2
  subst l2 y2 z2
  obtain ⟨rfl, rfl, e2⟩ := hQ2
  rw [List.append_nil] at X2
  refine ⟨T2, X2, e2, fun fs hr => ?_⟩
  show Steps p.tables e below (T0.setTop (mkF m 0 #[.val (.int i0), .val (.int i1)] [])) _
  refine XS.iloadN X0.here hx rfl (hb hby d5_0) rfl ?_
  show Steps p.tables e below (T0.setTop (mkF m 1 #[.val (.int i0), .val (.int i1)] [(.int i0)])) _
  refine XS.iloadN X0.here hx rfl (hb hby d5_1) rfl ?_
  show Steps p.tables e below (T0.setTop (mkF m 2 #[.val (.int i0), .val (.int i1)] [(.int i1), (.int i0)])) _
  refine st1 _ ?_
  show Steps p.tables e below (T1.setTop (mkF m 5 #[.val (.int i0), .val (.int i1)] [w_SIOOBE_FORMATTER, (.int i1), (.int i0)])) _
  refine st2 _ ?_
  show Steps p.tables e below (T2.setTop (mkF m 8 #[.val (.int i0), .val (.int i1)] [(.int (own_f6_0 i0 i1))])) _
  refine XS.pop X2.here hx rfl (hb hby d5_8) rfl rfl ?_
  show Steps p.tables e below (T2.setTop (mkF m 9 #[.val (.int i0), .val (.int i1)] [])) _
  exact X2.returnOut hx hret (hb hby d5_9) hr
def Q5 (Z : State) (i0 : Int32) (i1 : Int32) (w_SIOOBE_FORMATTER : Value) (h0 : Heap) (n0 : Nat) (v : Option Value) (h : Heap) (L : List Loc) : Prop := v = none ∧ L = [] ∧ h = h0
set_option maxRecDepth 65536 in
set_option maxHeartbeats 40000000 in
theorem rm5 (l : Launch) (Z : State) (a0_ : Array Value) (hw : ∀ d ∈ tables_1, d.before a0_ Z = true) (ws : List Jvm.Cond) (i0 : Int32) (i1 : Int32) (w_SIOOBE_FORMATTER : Value) (h0 : Heap) (n0 : Nat) (Z0 : n0 ≤ h0.size) (S_SIOOBE_FORMATTER : Sta Z h0 "jdk/internal/util/Preconditions" "SIOOBE_FORMATTER" "Ljava/util/function/BiFunction;" w_SIOOBE_FORMATTER) (r_w_SIOOBE_FORMATTER : w_SIOOBE_FORMATTER.isRef = true) (hI : ¬ i0 < 0 ∧ i0 < i1) :
    MetFree l (⟨"java/lang/String", "checkIndex", "(II)V"⟩ : MethodName) (head1 (Jvm.Cond.code (⟨"java/lang/String", "checkIndex", "(II)V"⟩ : MethodName) jdk_42_method_155_code 2 none :: ws) ({ frames := 1, cells := 0, slots := 0, locals := 14 } : Room)) (fun a U => a = #[(.int i0), (.int i1)] ∧ Z.Warmed39 U.vm ∧ U.heap = h0) (fun _ _ _ _ _ => True) (fun _ U o U' => ∃ v L, o = .returned v ∧ Q5 Z i0 i1 w_SIOOBE_FORMATTER h0 n0 v U'.heap L ∧ FrameEnd U o U' L ({ frames := 1, cells := 0, slots := 0, locals := 14 } : Room).cells ({ frames := 1, cells := 0, slots := 0, locals := 14 } : Room).slots) := by
  refine MetFree.of_bodySF (plainFor_of_name pn_5) hisR ?_
  intro p e s m args below meth c s₁ Bd hml0 hP hK
  obtain ⟨rfl, hZ, hh⟩ := hP
  have hx := Bd.exec
  have hby := Bd.bytes
  have hml : c.maxLocals = 2 := hml0
  have hown : s.vm.findClass "java/lang/String" = some m.cls := findClass_of_methodNamed Bd.named
  have X0 : Stand p l e ({ frames := 1, cells := 0, slots := 0, locals := 14 } : Room) s m #[(.int i0), (.int i1)] below meth c s₁ [] 0 0 := Stand.of_body Bd
  have e0 : s₁.heap = h0 := by rw [← hh, Bd.state]; rfl
  obtain ⟨T', X', e', st'⟩ := own_b5_0 hx hZ hw hby hml hown Bd.returns  i0 i1 w_SIOOBE_FORMATTER X0 e0 (by decide) (by decide) S_SIOOBE_FORMATTER r_w_SIOOBE_FORMATTER hI
  obtain ⟨fs, hr, hrun, hended, hW, hsame⟩ := X'.leave (v := none) (fun _ => rfl)
  refine ⟨_, _, castTop (ef_5 m i0 i1) (st' fs hr), hrun, hended, _, _, rfl, ?_, ⟨_, rfl⟩, hW, hsame.mono (by decide) (by decide)⟩
  exact ⟨rfl, rfl, e'⟩
theorem d4_0 : decode jdk_43_method_2_code 0 = .ok (.iload_n 1, 1) := by decide +kernel
theorem d4_1 : decode jdk_43_method_2_code 1 = .ok (.aload_n 0, 1) := by decide +kernel
theorem d4_2 : decode jdk_43_method_2_code 2 = .ok (.arraylength, 1) := by decide +kernel
theorem d4_3 : decode jdk_43_method_2_code 3 = .ok (.invokestatic 9, 3) := by decide +kernel
theorem d4_6 : decode jdk_43_method_2_code 6 = .ok (.aload_n 0, 1) := by decide +kernel
theorem d4_7 : decode jdk_43_method_2_code 7 = .ok (.iload_n 1, 1) := by decide +kernel
theorem d4_8 : decode jdk_43_method_2_code 8 = .ok (.baload, 1) := by decide +kernel
theorem d4_9 : decode jdk_43_method_2_code 9 = .ok (.sipush 255, 3) := by decide +kernel
theorem d4_12 : decode jdk_43_method_2_code 12 = .ok (.iand, 1) := by decide +kernel
theorem d4_13 : decode jdk_43_method_2_code 13 = .ok (.i2c, 1) := by decide +kernel
theorem d4_14 : decode jdk_43_method_2_code 14 = .ok (.ireturn, 1) := by decide +kernel
theorem pn_4 : plainName "java/lang/StringLatin1" = true := by first | (simp [plainName, overriddenIn]; done) | decide +kernel
theorem pd_4_0 : parseMethodDescriptor "(II)V" = some ⟨[.int, .int], none⟩ := by decide +kernel
theorem ef_4 (m : MethodId) (a0 : Addr) (i1 : Int32) : entryFrame m #[(.ref a0), (.int i1)] 2 = mkF m 0 #[.val (.ref a0), .val (.int i1)] [] := by first | (simp [entryFrame, mkF, argsToLocals, Value.category]; done) | rfl
def own_f4_0 (i1 : Int32) (n_a0 : Int32) (A_a0 : Nat → Int32) : Int32 :=
  (nar .char (((A_a0 i1.toNatClampNeg) &&& (255 : Int32)).toUInt32.toUInt16.toUInt32.toInt32))
set_option maxRecDepth 65536 in
set_option maxHeartbeats 40000000 in
theorem own_b4_0 {p : Program} {l : Launch} {e : Env} {s : State} {m : MethodId} {args : Array Value} {below : List Frame} {meth : Method} {c : Code} {Z : State} {a0_ : Array Value} (hx : p.tables.exec = Jvm.exec) (hZ : Z.Warmed39 s.vm) (hw : ∀ d ∈ tables_1, d.before a0_ Z = true) (hby : c.code = jdk_43_method_2_code) (hml : c.maxLocals = 2) (hown : s.vm.findClass "java/lang/StringLatin1" = some m.cls) (hret : meth.sig.returnType = some .char) {T0 : State} {locs : List Loc} {cells slots : Nat} {h0 : Heap} (a0 : Addr) (i1 : Int32) (n_a0 : Int32) (A_a0 : Nat → Int32) (w_SIOOBE_FORMATTER : Value)
    (X0 : Stand p l e ({ frames := 2, cells := 0, slots := 0, locals := 27 } : Room) s m args below meth c T0 locs cells slots) (e0 : T0.heap = h0) (hcl : cells ≤ ({ frames := 2, cells := 0, slots := 0, locals := 27 } : Room).cells) (hsl : slots ≤ ({ frames := 2, cells := 0, slots := 0, locals := 27 } : Room).slots) (V_a0 : own_Ar Z h0 a0 .byte n_a0 A_a0) (S_SIOOBE_FORMATTER : Sta Z h0 "jdk/internal/util/Preconditions" "SIOOBE_FORMATTER" "Ljava/util/function/BiFunction;" w_SIOOBE_FORMATTER) (r_w_SIOOBE_FORMATTER : w_SIOOBE_FORMATTER.isRef = true) (hI : ¬ i1 < 0 ∧ i1 < n_a0) :
    ∃ T', Stand p l e ({ frames := 2, cells := 0, slots := 0, locals := 27 } : Room) s m args below meth c T' locs cells slots ∧ T'.heap = h0 ∧ ∀ fs, (∀ (f : JFrame) (acts : List Action), f.method = m → f.locked = none → f.entered = [] → (doReturn e (T'.setTop f) acts (some (.int (own_f4_0 i1 n_a0 A_a0)))).1 = T'.setFrames fs) → Steps p.tables e below (T0.setTop (mkF m 0 #[.val (.ref a0), .val (.int i1)] [])) (T'.setFrames fs) := by
  have hJ1 : ¬ i1 < 0 ∧ i1 < n_a0 := by exact hI
  obtain ⟨_, _, ⟨T1, L1, k1, n1⟩, -, X1, ⟨Lc1, hQ1, l1, y1, z1⟩, st1⟩ := Jvm.LawKit.callS X0 hx (y := (⟨"java/lang/String", "checkIndex", "(II)V"⟩ : MethodName)) hown (mvT hZ (hw _ (List.mem_of_getElem? (i := 30) rfl))) (mvT hZ (hw _ (List.mem_of_getElem? (i := 31) rfl))) (mvT hZ (hw _ (List.mem_of_getElem? (i := 1) rfl))) (mvT hZ (hw _ (List.mem_of_getElem? (i := 32) rfl))) (by decide) (backOf (W := 0) (rm5 l Z a0_ hw [] i1 n_a0 w_SIOOBE_FORMATTER h0 0 (Nat.zero_le _) S_SIOOBE_FORMATTER r_w_SIOOBE_FORMATTER hJ1) hZ (hw _ (List.mem_of_getElem? (i := 32) rfl)) (hw _ (List.mem_of_getElem? (i := 1) rfl)) (by decide) (by decide)) (g := (mkF m 3 #[.val (.ref a0), .val (.int i1)] [(.int n_a0), (.int i1)])) rfl (by rw [hml]; rfl) (argsL := [(.int i1), (.int n_a0)]) (rest := []) (lenOf pd_4_0 rfl) rfl (by show 2 * 0 + _ ≤ _; exact Nat.le_of_eq rfl) (hb hby d4_3) (fun _ _ => ⟨rfl, e0, hcl, hsl⟩)
  dsimp only [Pt.U, Pt.locs, Pt.cells, Pt.slots] at X1 l1 y1 z1 st1 hQ1
  subst l1 y1 z1
  obtain ⟨rfl, rfl, e1⟩ := hQ1
  rw [List.append_nil] at X1
  have hix8 : ¬ i1 < 0 ∧ i1 < n_a0 := by exact hI
  refine ⟨T1, X1, e1, fun fs hr => ?_⟩
  have hv : (own_f4_0 i1 n_a0 A_a0) = (nar .char (((A_a0 i1.toNatClampNeg) &&& (255 : Int32)).toUInt32.toUInt16.toUInt32.toInt32)) := by unfold own_f4_0; rfl
  rw [hv] at hr
  show Steps p.tables e below (T0.setTop (mkF m 0 #[.val (.ref a0), .val (.int i1)] [])) _
  refine XS.iloadN X0.here hx rfl (hb hby d4_0) rfl ?_
  show Steps p.tables e below (T0.setTop (mkF m 1 #[.val (.ref a0), .val (.int i1)] [(.int i1)])) _
  refine XS.aloadN X0.here hx rfl (hb hby d4_1) rfl rfl ?_
  show Steps p.tables e below (T0.setTop (mkF m 2 #[.val (.ref a0), .val (.int i1)] [(.ref a0), (.int i1)])) _
  refine own_alen X0 hx hZ e0 V_a0 (g := (mkF m 2 #[.val (.ref a0), .val (.int i1)] [(.ref a0), (.int i1)])) rfl rfl (hb hby d4_2) _ ?_
  show Steps p.tables e below (T0.setTop (mkF m 3 #[.val (.ref a0), .val (.int i1)] [(.int n_a0), (.int i1)])) _
  refine st1 _ ?_
  show Steps p.tables e below (T1.setTop (mkF m 6 #[.val (.ref a0), .val (.int i1)] [])) _
  refine XS.aloadN X1.here hx rfl (hb hby d4_6) rfl rfl ?_
  show Steps p.tables e below (T1.setTop (mkF m 7 #[.val (.ref a0), .val (.int i1)] [(.ref a0)])) _
  refine XS.iloadN X1.here hx rfl (hb hby d4_7) rfl ?_
  show Steps p.tables e below (T1.setTop (mkF m 8 #[.val (.ref a0), .val (.int i1)] [(.int i1), (.ref a0)])) _
  refine own_ldB X1 hx hZ e1 V_a0 hix8 (g := (mkF m 8 #[.val (.ref a0), .val (.int i1)] [(.int i1), (.ref a0)])) rfl rfl (hb hby d4_8) _ ?_
  show Steps p.tables e below (T1.setTop (mkF m 9 #[.val (.ref a0), .val (.int i1)] [(.int (A_a0 i1.toNatClampNeg))])) _
  refine XS.sipush X1.here hx rfl (hb hby d4_9) ?_
  show Steps p.tables e below (T1.setTop (mkF m 12 #[.val (.ref a0), .val (.int i1)] [(.int (255 : Int32)), (.int (A_a0 i1.toNatClampNeg))])) _
  refine XS.iand X1.here hx rfl (hb hby d4_12) rfl ?_
  show Steps p.tables e below (T1.setTop (mkF m 13 #[.val (.ref a0), .val (.int i1)] [(.int ((A_a0 i1.toNatClampNeg) &&& (255 : Int32)))])) _
  refine XS.i2c X1.here hx rfl (hb hby d4_13) rfl ?_
  show Steps p.tables e below (T1.setTop (mkF m 14 #[.val (.ref a0), .val (.int i1)] [(.int (((A_a0 i1.toNatClampNeg) &&& (255 : Int32)).toUInt32.toUInt16.toUInt32.toInt32))])) _
  exact retN X1 hx (t := .char) hret (by simp) (hb hby d4_14) hr
def Q4 (Z : State) (a0 : Addr) (i1 : Int32) (n_a0 : Int32) (A_a0 : Nat → Int32) (w_SIOOBE_FORMATTER : Value) (h0 : Heap) (n0 : Nat) (v : Option Value) (h : Heap) (L : List Loc) : Prop := v = some (.int (own_f4_0 i1 n_a0 A_a0)) ∧ L = [] ∧ h = h0
set_option maxRecDepth 65536 in
set_option maxHeartbeats 40000000 in
theorem rm4 (l : Launch) (Z : State) (a0_ : Array Value) (hw : ∀ d ∈ tables_1, d.before a0_ Z = true) (ws : List Jvm.Cond) (a0 : Addr) (i1 : Int32) (n_a0 : Int32) (A_a0 : Nat → Int32) (w_SIOOBE_FORMATTER : Value) (h0 : Heap) (n0 : Nat) (Z0 : n0 ≤ h0.size) (V_a0 : own_Ar Z h0 a0 .byte n_a0 A_a0) (S_SIOOBE_FORMATTER : Sta Z h0 "jdk/internal/util/Preconditions" "SIOOBE_FORMATTER" "Ljava/util/function/BiFunction;" w_SIOOBE_FORMATTER) (r_w_SIOOBE_FORMATTER : w_SIOOBE_FORMATTER.isRef = true) (hI : ¬ i1 < 0 ∧ i1 < n_a0) :
    MetFree l (⟨"java/lang/StringLatin1", "charAt", "([BI)C"⟩ : MethodName) (head1 (Jvm.Cond.code (⟨"java/lang/StringLatin1", "charAt", "([BI)C"⟩ : MethodName) jdk_43_method_2_code 2 (some .char) :: ws) ({ frames := 2, cells := 0, slots := 0, locals := 27 } : Room)) (fun a U => a = #[(.ref a0), (.int i1)] ∧ Z.Warmed39 U.vm ∧ U.heap = h0) (fun _ _ _ _ _ => True) (fun _ U o U' => ∃ v L, o = .returned v ∧ Q4 Z a0 i1 n_a0 A_a0 w_SIOOBE_FORMATTER h0 n0 v U'.heap L ∧ FrameEnd U o U' L ({ frames := 2, cells := 0, slots := 0, locals := 27 } : Room).cells ({ frames := 2, cells := 0, slots := 0, locals := 27 } : Room).slots) := by
  refine MetFree.of_bodySF (plainFor_of_name pn_4) hisR ?_
  intro p e s m args below meth c s₁ Bd hml0 hP hK
  obtain ⟨rfl, hZ, hh⟩ := hP
  have hx := Bd.exec
  have hby := Bd.bytes
  have hml : c.maxLocals = 2 := hml0
  have hown : s.vm.findClass "java/lang/StringLatin1" = some m.cls := findClass_of_methodNamed Bd.named
  have X0 : Stand p l e ({ frames := 2, cells := 0, slots := 0, locals := 27 } : Room) s m #[(.ref a0), (.int i1)] below meth c s₁ [] 0 0 := Stand.of_body Bd
  have e0 : s₁.heap = h0 := by rw [← hh, Bd.state]; rfl
  obtain ⟨T', X', e', st'⟩ := own_b4_0 hx hZ hw hby hml hown Bd.returns  a0 i1 n_a0 A_a0 w_SIOOBE_FORMATTER X0 e0 (by decide) (by decide) V_a0 S_SIOOBE_FORMATTER r_w_SIOOBE_FORMATTER hI
  obtain ⟨fs, hr, hrun, hended, hW, hsame⟩ := X'.leave (v := some (.int (own_f4_0 i1 n_a0 A_a0))) (fun h => by rw [Bd.returns] at h; cases h)
  refine ⟨_, _, castTop (ef_4 m a0 i1) (st' fs hr), hrun, hended, _, _, rfl, ?_, ⟨_, rfl⟩, hW, hsame.mono (by decide) (by decide)⟩
  exact ⟨rfl, rfl, e'⟩
theorem own_lat {z cd : Int32} (h1 : ¬ z = 0) (h2 : cd = 0) : ¬ own_f3_0 z cd = (0 : Int32) := by
  subst h2
  unfold own_f3_0
  rw [if_neg h1, if_pos rfl]
  decide +kernel
theorem d2_0 : decode jdk_42_method_56_code 0 = .ok (.aload_n 0, 1) := by decide +kernel
theorem d2_1 : decode jdk_42_method_56_code 1 = .ok (.invokevirtual 492, 3) := by decide +kernel
theorem d2_4 : decode jdk_42_method_56_code 4 = .ok (.ifCond .eq 12, 3) := by decide +kernel
theorem d2_7 : decode jdk_42_method_56_code 7 = .ok (.aload_n 0, 1) := by decide +kernel
theorem d2_8 : decode jdk_42_method_56_code 8 = .ok (.getfield 9, 3) := by decide +kernel
theorem d2_11 : decode jdk_42_method_56_code 11 = .ok (.iload_n 1, 1) := by decide +kernel
theorem d2_12 : decode jdk_42_method_56_code 12 = .ok (.invokestatic 495, 3) := by decide +kernel
theorem d2_15 : decode jdk_42_method_56_code 15 = .ok (.ireturn, 1) := by decide +kernel
theorem pn_2 : plainName "java/lang/String" = true := by first | (simp [plainName, overriddenIn]; done) | decide +kernel
theorem pd_2_0 : parseMethodDescriptor "()Z" = some ⟨[], some .boolean⟩ := by decide +kernel
theorem pd_2_1 : parseMethodDescriptor "([BI)C" = some ⟨[(.array .byte), .int], some .char⟩ := by decide +kernel
theorem ef_2 (m : MethodId) (a0 : Addr) (i1 : Int32) : entryFrame m #[(.ref a0), (.int i1)] 2 = mkF m 0 #[.val (.ref a0), .val (.int i1)] [] := by first | (simp [entryFrame, mkF, argsToLocals, Value.category]; done) | rfl
def own_f2_0 (i1 : Int32) (w_COMPACT_STRINGS : Int32) (w_coder_a0 : Int32) (n_w_value_a0 : Int32) (A_w_value_a0 : Nat → Int32) : Int32 :=
  (if (own_f3_0 w_COMPACT_STRINGS w_coder_a0) = (0 : Int32) then (0 : Int32) else (nar .char (own_f4_0 i1 n_w_value_a0 A_w_value_a0)))
set_option maxRecDepth 65536 in
set_option maxHeartbeats 40000000 in
theorem own_b2_0 {p : Program} {l : Launch} {e : Env} {s : State} {m : MethodId} {args : Array Value} {below : List Frame} {meth : Method} {c : Code} {Z : State} {a0_ : Array Value} (hx : p.tables.exec = Jvm.exec) (hZ : Z.Warmed39 s.vm) (hw : ∀ d ∈ tables_1, d.before a0_ Z = true) (hby : c.code = jdk_42_method_56_code) (hml : c.maxLocals = 2) (hown : s.vm.findClass "java/lang/String" = some m.cls) (hret : meth.sig.returnType = some .char) {T0 : State} {locs : List Loc} {cells slots : Nat} {h0 : Heap} (a0 : Addr) (i1 : Int32) (w_COMPACT_STRINGS : Int32) (w_coder_a0 : Int32) (w_value_a0 : Addr) (n_w_value_a0 : Int32) (A_w_value_a0 : Nat → Int32) (w_SIOOBE_FORMATTER : Value)
    (X0 : Stand p l e ({ frames := 3, cells := 0, slots := 0, locals := 40 } : Room) s m args below meth c T0 locs cells slots) (e0 : T0.heap = h0) (hcl : cells ≤ ({ frames := 3, cells := 0, slots := 0, locals := 40 } : Room).cells) (hsl : slots ≤ ({ frames := 3, cells := 0, slots := 0, locals := 40 } : Room).slots) (S_COMPACT_STRINGS : Sta Z h0 "java/lang/String" "COMPACT_STRINGS" "Z" (.int w_COMPACT_STRINGS)) (F_coder_a0 : Fld Z h0 a0 "java/lang/String" "coder" "B" (.int w_coder_a0)) (E_a0 : Exa Z h0 a0 "java/lang/String") (F_value_a0 : Fld Z h0 a0 "java/lang/String" "value" "[B" (.ref w_value_a0)) (V_w_value_a0 : own_Ar Z h0 w_value_a0 .byte n_w_value_a0 A_w_value_a0) (S_SIOOBE_FORMATTER : Sta Z h0 "jdk/internal/util/Preconditions" "SIOOBE_FORMATTER" "Ljava/util/function/BiFunction;" w_SIOOBE_FORMATTER) (r_w_SIOOBE_FORMATTER : w_SIOOBE_FORMATTER.isRef = true) (hI : ¬ w_COMPACT_STRINGS = 0 ∧ w_coder_a0 = 0 ∧ ¬ i1 < 0 ∧ i1 < n_w_value_a0) :
    ∃ T', Stand p l e ({ frames := 3, cells := 0, slots := 0, locals := 40 } : Room) s m args below meth c T' locs cells slots ∧ T'.heap = h0 ∧ ∀ fs, (∀ (f : JFrame) (acts : List Action), f.method = m → f.locked = none → f.entered = [] → (doReturn e (T'.setTop f) acts (some (.int (own_f2_0 i1 w_COMPACT_STRINGS w_coder_a0 n_w_value_a0 A_w_value_a0)))).1 = T'.setFrames fs) → Steps p.tables e below (T0.setTop (mkF m 0 #[.val (.ref a0), .val (.int i1)] [])) (T'.setFrames fs) := by
  obtain ⟨cq1, kq1, q1a, q1b, q1c⟩ := isOf hZ e0 E_a0
  obtain ⟨_, _, ⟨T1, L1, k1, n1⟩, -, X1, ⟨Lc1, hQ1, l1, y1, z1⟩, st1⟩ := X0.virtualBack hx (y := (⟨"java/lang/String", "isLatin1", "()Z"⟩ : MethodName)) (z := (⟨"java/lang/String", "isLatin1", "()Z"⟩ : MethodName)) hown (mvT hZ (hw _ (List.mem_of_getElem? (i := 18) rfl))) (mvT hZ (hw _ (List.mem_of_getElem? (i := 19) rfl))) (notFace_of_selects (args := #[]) (mvT hZ (hw _ (List.mem_of_getElem? (i := 21) rfl)))) (mvT hZ (hw _ (List.mem_of_getElem? (i := 21) rfl))) (mvT hZ (hw _ (List.mem_of_getElem? (i := 20) rfl))) (by decide) (backOf (W := 0) (rm3 l Z a0_ hw [] a0 w_COMPACT_STRINGS w_coder_a0 h0 0 (Nat.zero_le _) S_COMPACT_STRINGS F_coder_a0) hZ (hw _ (List.mem_of_getElem? (i := 22) rfl)) (hw _ (List.mem_of_getElem? (i := 1) rfl)) (by decide) (by decide)) q1a q1c (g := (mkF m 1 #[.val (.ref a0), .val (.int i1)] [(.ref a0)])) rfl (by rw [hml]; rfl) (Steps.refl _) (argsL := []) (rest := []) (lenOf pd_2_0 rfl) rfl (by show 2 * 0 + _ ≤ _; exact Nat.le_of_eq rfl) (hb hby d2_1) (fun _ _ => ⟨rfl, e0, hcl, hsl⟩)
  dsimp only [Pt.U, Pt.locs, Pt.cells, Pt.slots] at X1 l1 y1 z1 st1 hQ1
  subst l1 y1 z1
  obtain ⟨rfl, rfl, e1⟩ := hQ1
  rw [List.append_nil] at X1
  have pre2 : ∀ target, Steps p.tables e below (T1.setTop (mkF m 4 #[.val (.ref a0), .val (.int i1)] [(.int (own_f3_0 w_COMPACT_STRINGS w_coder_a0))])) target → Steps p.tables e below (T0.setTop (mkF m 0 #[.val (.ref a0), .val (.int i1)] [])) target := by
    intro target kt
    show Steps p.tables e below (T0.setTop (mkF m 0 #[.val (.ref a0), .val (.int i1)] [])) _
    refine XS.aloadN X0.here hx rfl (hb hby d2_0) rfl rfl ?_
    show Steps p.tables e below (T0.setTop (mkF m 1 #[.val (.ref a0), .val (.int i1)] [(.ref a0)])) _
    refine st1.trans ?_
    exact kt
  by_cases hc4 : (own_f3_0 w_COMPACT_STRINGS w_coder_a0) = (0 : Int32)
  · exact absurd hc4 (own_lat hI.1 hI.2.1)
  · obtain ⟨T3, X3, e3, st3⟩ := getF X1 hx hZ hown (host := "") (Or.inl (hw _ (List.mem_of_getElem? (i := 25) rfl))) Via.refl e1 F_value_a0 (g := (mkF m 8 #[.val (.ref a0), .val (.int i1)] [(.ref a0)])) rfl rfl (hb hby d2_8)
    have hJ4 : ¬ i1 < 0 ∧ i1 < n_w_value_a0 := by exact ⟨hI.2.2.1, hI.2.2.2⟩
    obtain ⟨_, _, ⟨T4, L4, k4, n4⟩, -, X4, ⟨Lc4, hQ4, l4, y4, z4⟩, st4⟩ := Jvm.LawKit.callS X3 hx (y := (⟨"java/lang/StringLatin1", "charAt", "([BI)C"⟩ : MethodName)) hown (mvT hZ (hw _ (List.mem_of_getElem? (i := 26) rfl))) (mvT hZ (hw _ (List.mem_of_getElem? (i := 27) rfl))) (mvT hZ (hw _ (List.mem_of_getElem? (i := 28) rfl))) (mvT hZ (hw _ (List.mem_of_getElem? (i := 29) rfl))) (by decide) (backOf (W := 0) (rm4 l Z a0_ hw [] w_value_a0 i1 n_w_value_a0 A_w_value_a0 w_SIOOBE_FORMATTER h0 0 (Nat.zero_le _) V_w_value_a0 S_SIOOBE_FORMATTER r_w_SIOOBE_FORMATTER hJ4) hZ (hw _ (List.mem_of_getElem? (i := 29) rfl)) (hw _ (List.mem_of_getElem? (i := 28) rfl)) (by decide) (by decide)) (g := (mkF m 12 #[.val (.ref a0), .val (.int i1)] [(.int i1), (.ref w_value_a0)])) rfl (by rw [hml]; rfl) (argsL := [(.ref w_value_a0), (.int i1)]) (rest := []) (lenOf pd_2_1 rfl) rfl (by show 2 * 0 + _ ≤ _; exact Nat.le_of_eq rfl) (hb hby d2_12) (fun _ _ => ⟨rfl, e3, hcl, hsl⟩)
    dsimp only [Pt.U, Pt.locs, Pt.cells, Pt.slots] at X4 l4 y4 z4 st4 hQ4
    subst l4 y4 z4
    obtain ⟨rfl, rfl, e4⟩ := hQ4
    rw [List.append_nil] at X4
    refine ⟨T4, X4, e4, fun fs hr => ?_⟩
    have hv : (own_f2_0 i1 w_COMPACT_STRINGS w_coder_a0 n_w_value_a0 A_w_value_a0) = (nar .char (own_f4_0 i1 n_w_value_a0 A_w_value_a0)) := by unfold own_f2_0; rw [if_neg hc4]
    rw [hv] at hr
    refine pre2 _ ?_
    show Steps p.tables e below (T1.setTop (mkF m 4 #[.val (.ref a0), .val (.int i1)] [(.int (own_f3_0 w_COMPACT_STRINGS w_coder_a0))])) _
    refine XS.ifNo X1.here hx rfl (hb hby d2_4) rfl ((if0 _ _).trans (feq hc4).1) ?_
    show Steps p.tables e below (T1.setTop (mkF m 7 #[.val (.ref a0), .val (.int i1)] [])) _
    refine XS.aloadN X1.here hx rfl (hb hby d2_7) rfl rfl ?_
    show Steps p.tables e below (T1.setTop (mkF m 8 #[.val (.ref a0), .val (.int i1)] [(.ref a0)])) _
    refine st3 _ ?_
    show Steps p.tables e below (T3.setTop (mkF m 11 #[.val (.ref a0), .val (.int i1)] [(.ref w_value_a0)])) _
    refine XS.iloadN X3.here hx rfl (hb hby d2_11) rfl ?_
    show Steps p.tables e below (T3.setTop (mkF m 12 #[.val (.ref a0), .val (.int i1)] [(.int i1), (.ref w_value_a0)])) _
    refine st4 _ ?_
    show Steps p.tables e below (T4.setTop (mkF m 15 #[.val (.ref a0), .val (.int i1)] [(.int (own_f4_0 i1 n_w_value_a0 A_w_value_a0))])) _
    exact retN X4 hx (t := .char) hret (by simp) (hb hby d2_15) hr
def Q2 (Z : State) (a0 : Addr) (i1 : Int32) (w_COMPACT_STRINGS : Int32) (w_coder_a0 : Int32) (w_value_a0 : Addr) (n_w_value_a0 : Int32) (A_w_value_a0 : Nat → Int32) (w_SIOOBE_FORMATTER : Value) (h0 : Heap) (n0 : Nat) (v : Option Value) (h : Heap) (L : List Loc) : Prop := v = some (.int (own_f2_0 i1 w_COMPACT_STRINGS w_coder_a0 n_w_value_a0 A_w_value_a0)) ∧ L = [] ∧ h = h0
set_option maxRecDepth 65536 in
set_option maxHeartbeats 40000000 in
theorem rm2 (l : Launch) (Z : State) (a0_ : Array Value) (hw : ∀ d ∈ tables_1, d.before a0_ Z = true) (ws : List Jvm.Cond) (a0 : Addr) (i1 : Int32) (w_COMPACT_STRINGS : Int32) (w_coder_a0 : Int32) (w_value_a0 : Addr) (n_w_value_a0 : Int32) (A_w_value_a0 : Nat → Int32) (w_SIOOBE_FORMATTER : Value) (h0 : Heap) (n0 : Nat) (Z0 : n0 ≤ h0.size) (S_COMPACT_STRINGS : Sta Z h0 "java/lang/String" "COMPACT_STRINGS" "Z" (.int w_COMPACT_STRINGS)) (F_coder_a0 : Fld Z h0 a0 "java/lang/String" "coder" "B" (.int w_coder_a0)) (E_a0 : Exa Z h0 a0 "java/lang/String") (F_value_a0 : Fld Z h0 a0 "java/lang/String" "value" "[B" (.ref w_value_a0)) (V_w_value_a0 : own_Ar Z h0 w_value_a0 .byte n_w_value_a0 A_w_value_a0) (S_SIOOBE_FORMATTER : Sta Z h0 "jdk/internal/util/Preconditions" "SIOOBE_FORMATTER" "Ljava/util/function/BiFunction;" w_SIOOBE_FORMATTER) (r_w_SIOOBE_FORMATTER : w_SIOOBE_FORMATTER.isRef = true) (hI : ¬ w_COMPACT_STRINGS = 0 ∧ w_coder_a0 = 0 ∧ ¬ i1 < 0 ∧ i1 < n_w_value_a0) :
    MetFree l (⟨"java/lang/String", "charAt", "(I)C"⟩ : MethodName) (head1 (Jvm.Cond.code (⟨"java/lang/String", "charAt", "(I)C"⟩ : MethodName) jdk_42_method_56_code 2 (some .char) :: ws) ({ frames := 3, cells := 0, slots := 0, locals := 40 } : Room)) (fun a U => a = #[(.ref a0), (.int i1)] ∧ Z.Warmed39 U.vm ∧ U.heap = h0) (fun _ _ _ _ _ => True) (fun _ U o U' => ∃ v L, o = .returned v ∧ Q2 Z a0 i1 w_COMPACT_STRINGS w_coder_a0 w_value_a0 n_w_value_a0 A_w_value_a0 w_SIOOBE_FORMATTER h0 n0 v U'.heap L ∧ FrameEnd U o U' L ({ frames := 3, cells := 0, slots := 0, locals := 40 } : Room).cells ({ frames := 3, cells := 0, slots := 0, locals := 40 } : Room).slots) := by
  refine MetFree.of_bodySF (plainFor_of_name pn_2) hisR ?_
  intro p e s m args below meth c s₁ Bd hml0 hP hK
  obtain ⟨rfl, hZ, hh⟩ := hP
  have hx := Bd.exec
  have hby := Bd.bytes
  have hml : c.maxLocals = 2 := hml0
  have hown : s.vm.findClass "java/lang/String" = some m.cls := findClass_of_methodNamed Bd.named
  have X0 : Stand p l e ({ frames := 3, cells := 0, slots := 0, locals := 40 } : Room) s m #[(.ref a0), (.int i1)] below meth c s₁ [] 0 0 := Stand.of_body Bd
  have e0 : s₁.heap = h0 := by rw [← hh, Bd.state]; rfl
  obtain ⟨T', X', e', st'⟩ := own_b2_0 hx hZ hw hby hml hown Bd.returns  a0 i1 w_COMPACT_STRINGS w_coder_a0 w_value_a0 n_w_value_a0 A_w_value_a0 w_SIOOBE_FORMATTER X0 e0 (by decide) (by decide) S_COMPACT_STRINGS F_coder_a0 E_a0 F_value_a0 V_w_value_a0 S_SIOOBE_FORMATTER r_w_SIOOBE_FORMATTER hI
  obtain ⟨fs, hr, hrun, hended, hW, hsame⟩ := X'.leave (v := some (.int (own_f2_0 i1 w_COMPACT_STRINGS w_coder_a0 n_w_value_a0 A_w_value_a0))) (fun h => by rw [Bd.returns] at h; cases h)
  refine ⟨_, _, castTop (ef_2 m a0 i1) (st' fs hr), hrun, hended, _, _, rfl, ?_, ⟨_, rfl⟩, hW, hsame.mono (by decide) (by decide)⟩
  exact ⟨rfl, rfl, e'⟩
theorem d1_0 : decode prog_48_method_3_code 0 = .ok (.iload_n 0, 1) := by decide +kernel
theorem d1_1 : decode prog_48_method_3_code 1 = .ok (.bipush 48, 2) := by decide +kernel
theorem d1_3 : decode prog_48_method_3_code 3 = .ok (.if_icmp .lt 13, 3) := by decide +kernel
theorem d1_6 : decode prog_48_method_3_code 6 = .ok (.iload_n 0, 1) := by decide +kernel
theorem d1_7 : decode prog_48_method_3_code 7 = .ok (.bipush 57, 2) := by decide +kernel
theorem d1_9 : decode prog_48_method_3_code 9 = .ok (.if_icmp .gt 7, 3) := by decide +kernel
theorem d1_12 : decode prog_48_method_3_code 12 = .ok (.iconst 1, 1) := by decide +kernel
theorem d1_13 : decode prog_48_method_3_code 13 = .ok (.goto 4, 3) := by decide +kernel
theorem d1_16 : decode prog_48_method_3_code 16 = .ok (.iconst 0, 1) := by decide +kernel
theorem d1_17 : decode prog_48_method_3_code 17 = .ok (.ireturn, 1) := by decide +kernel
theorem pn_1 : plainName "com/example/vedette/vedette/core/Subfield" = true := by first | (simp [plainName, overriddenIn]; done) | decide +kernel
theorem ef_1 (m : MethodId) (i0 : Int32) : entryFrame m #[(.int i0)] 1 = mkF m 0 #[.val (.int i0)] [] := by first | (simp [entryFrame, mkF, argsToLocals, Value.category]; done) | rfl
def own_f1_0 (i0 : Int32) : Int32 :=
  (if i0 < (48 : Int32) then (0 : Int32) else (if (57 : Int32) < i0 then (0 : Int32) else (1 : Int32)))
set_option maxRecDepth 65536 in
set_option maxHeartbeats 40000000 in
theorem own_b1_0 {p : Program} {l : Launch} {e : Env} {s : State} {m : MethodId} {args : Array Value} {below : List Frame} {meth : Method} {c : Code} {Z : State} {a0_ : Array Value} (hx : p.tables.exec = Jvm.exec) (hZ : Z.Warmed39 s.vm) (hw : ∀ d ∈ tables_1, d.before a0_ Z = true) (hby : c.code = prog_48_method_3_code) (hml : c.maxLocals = 1) (hown : s.vm.findClass "com/example/vedette/vedette/core/Subfield" = some m.cls) (hret : meth.sig.returnType = some .boolean) {T0 : State} {locs : List Loc} {cells slots : Nat} {h0 : Heap} (i0 : Int32)
    (X0 : Stand p l e ({ frames := 0, cells := 0, slots := 0, locals := 0 } : Room) s m args below meth c T0 locs cells slots) (e0 : T0.heap = h0) (hcl : cells ≤ ({ frames := 0, cells := 0, slots := 0, locals := 0 } : Room).cells) (hsl : slots ≤ ({ frames := 0, cells := 0, slots := 0, locals := 0 } : Room).slots)  :
    ∃ T', Stand p l e ({ frames := 0, cells := 0, slots := 0, locals := 0 } : Room) s m args below meth c T' locs cells slots ∧ T'.heap = h0 ∧ ∀ fs, (∀ (f : JFrame) (acts : List Action), f.method = m → f.locked = none → f.entered = [] → (doReturn e (T'.setTop f) acts (some (.int (own_f1_0 i0)))).1 = T'.setFrames fs) → Steps p.tables e below (T0.setTop (mkF m 0 #[.val (.int i0)] [])) (T'.setFrames fs) := by
  have pre1 : ∀ target, Steps p.tables e below (T0.setTop (mkF m 3 #[.val (.int i0)] [(.int (48 : Int32)), (.int i0)])) target → Steps p.tables e below (T0.setTop (mkF m 0 #[.val (.int i0)] [])) target := by
    intro target kt
    show Steps p.tables e below (T0.setTop (mkF m 0 #[.val (.int i0)] [])) _
    refine XS.iloadN X0.here hx rfl (hb hby d1_0) rfl ?_
    show Steps p.tables e below (T0.setTop (mkF m 1 #[.val (.int i0)] [(.int i0)])) _
    refine XS.bipush X0.here hx rfl (hb hby d1_1) ?_
    exact kt
  by_cases hc3 : i0 < (48 : Int32)
  · refine ⟨T0, X0, e0, fun fs hr => ?_⟩
    have hv : (own_f1_0 i0) = (0 : Int32) := by unfold own_f1_0; rw [if_pos hc3]
    rw [hv] at hr
    refine pre1 _ ?_
    show Steps p.tables e below (T0.setTop (mkF m 3 #[.val (.int i0)] [(.int (48 : Int32)), (.int i0)])) _
    refine XS.icmpYes X0.here hx rfl (pc0 := 3) (pc' := 16) rfl (hb hby d1_3) rfl (tlt hc3).1 (by decide) (by decide) ?_
    show Steps p.tables e below (T0.setTop (mkF m 16 #[.val (.int i0)] [])) _
    refine XS.iconst X0.here hx rfl (hb hby d1_16) ?_
    show Steps p.tables e below (T0.setTop (mkF m 17 #[.val (.int i0)] [(.int (0 : Int32))])) _
    exact retN X0 hx (t := .boolean) hret (by simp) (hb hby d1_17) hr
  · have pre2 : ∀ target, Steps p.tables e below (T0.setTop (mkF m 9 #[.val (.int i0)] [(.int (57 : Int32)), (.int i0)])) target → Steps p.tables e below (T0.setTop (mkF m 0 #[.val (.int i0)] [])) target := by
      intro target kt
      refine pre1 target ?_
      show Steps p.tables e below (T0.setTop (mkF m 3 #[.val (.int i0)] [(.int (48 : Int32)), (.int i0)])) _
      refine XS.icmpNo X0.here hx rfl (hb hby d1_3) rfl (flt hc3).1 ?_
      show Steps p.tables e below (T0.setTop (mkF m 6 #[.val (.int i0)] [])) _
      refine XS.iloadN X0.here hx rfl (hb hby d1_6) rfl ?_
      show Steps p.tables e below (T0.setTop (mkF m 7 #[.val (.int i0)] [(.int i0)])) _
      refine XS.bipush X0.here hx rfl (hb hby d1_7) ?_
      exact kt
    by_cases hc9 : (57 : Int32) < i0
    · refine ⟨T0, X0, e0, fun fs hr => ?_⟩
      have hv : (own_f1_0 i0) = (0 : Int32) := by unfold own_f1_0; rw [if_neg hc3, if_pos hc9]
      rw [hv] at hr
      refine pre2 _ ?_
      show Steps p.tables e below (T0.setTop (mkF m 9 #[.val (.int i0)] [(.int (57 : Int32)), (.int i0)])) _
      refine XS.icmpYes X0.here hx rfl (pc0 := 9) (pc' := 16) rfl (hb hby d1_9) rfl (tlt hc9).2.2.1 (by decide) (by decide) ?_
      show Steps p.tables e below (T0.setTop (mkF m 16 #[.val (.int i0)] [])) _
      refine XS.iconst X0.here hx rfl (hb hby d1_16) ?_
      show Steps p.tables e below (T0.setTop (mkF m 17 #[.val (.int i0)] [(.int (0 : Int32))])) _
      exact retN X0 hx (t := .boolean) hret (by simp) (hb hby d1_17) hr
    · refine ⟨T0, X0, e0, fun fs hr => ?_⟩
      have hv : (own_f1_0 i0) = (1 : Int32) := by unfold own_f1_0; rw [if_neg hc3, if_neg hc9]
      rw [hv] at hr
      refine pre2 _ ?_
      show Steps p.tables e below (T0.setTop (mkF m 9 #[.val (.int i0)] [(.int (57 : Int32)), (.int i0)])) _
      refine XS.icmpNo X0.here hx rfl (hb hby d1_9) rfl (flt hc9).2.2.1 ?_
      show Steps p.tables e below (T0.setTop (mkF m 12 #[.val (.int i0)] [])) _
      refine XS.iconst X0.here hx rfl (hb hby d1_12) ?_
      show Steps p.tables e below (T0.setTop (mkF m 13 #[.val (.int i0)] [(.int (1 : Int32))])) _
      refine XS.goto X0.here hx rfl (pc0 := 13) (pc' := 17) rfl (hb hby d1_13) (by decide) (by decide) ?_
      show Steps p.tables e below (T0.setTop (mkF m 17 #[.val (.int i0)] [(.int (1 : Int32))])) _
      exact retN X0 hx (t := .boolean) hret (by simp) (hb hby d1_17) hr
def Q1 (Z : State) (i0 : Int32) (h0 : Heap) (n0 : Nat) (v : Option Value) (h : Heap) (L : List Loc) : Prop := v = some (.int (own_f1_0 i0)) ∧ L = [] ∧ h = h0
set_option maxRecDepth 65536 in
set_option maxHeartbeats 40000000 in
theorem rm1 (l : Launch) (Z : State) (a0_ : Array Value) (hw : ∀ d ∈ tables_1, d.before a0_ Z = true) (ws : List Jvm.Cond) (i0 : Int32) (h0 : Heap) (n0 : Nat) (Z0 : n0 ≤ h0.size)  :
    MetFree l (⟨"com/example/vedette/vedette/core/Subfield", "isDigitCode", "(C)Z"⟩ : MethodName) (head1 (Jvm.Cond.code (⟨"com/example/vedette/vedette/core/Subfield", "isDigitCode", "(C)Z"⟩ : MethodName) prog_48_method_3_code 1 (some .boolean) :: ws) ({ frames := 0, cells := 0, slots := 0, locals := 0 } : Room)) (fun a U => a = #[(.int i0)] ∧ Z.Warmed39 U.vm ∧ U.heap = h0) (fun _ _ _ _ _ => True) (fun _ U o U' => ∃ v L, o = .returned v ∧ Q1 Z i0 h0 n0 v U'.heap L ∧ FrameEnd U o U' L ({ frames := 0, cells := 0, slots := 0, locals := 0 } : Room).cells ({ frames := 0, cells := 0, slots := 0, locals := 0 } : Room).slots) := by
  refine MetFree.of_bodySF (plainFor_of_name pn_1) hisR ?_
  intro p e s m args below meth c s₁ Bd hml0 hP hK
  obtain ⟨rfl, hZ, hh⟩ := hP
  have hx := Bd.exec
  have hby := Bd.bytes
  have hml : c.maxLocals = 1 := hml0
  have hown : s.vm.findClass "com/example/vedette/vedette/core/Subfield" = some m.cls := findClass_of_methodNamed Bd.named
  have X0 : Stand p l e ({ frames := 0, cells := 0, slots := 0, locals := 0 } : Room) s m #[(.int i0)] below meth c s₁ [] 0 0 := Stand.of_body Bd
  have e0 : s₁.heap = h0 := by rw [← hh, Bd.state]; rfl
  obtain ⟨T', X', e', st'⟩ := own_b1_0 hx hZ hw hby hml hown Bd.returns  i0 X0 e0 (by decide) (by decide) 
  obtain ⟨fs, hr, hrun, hended, hW, hsame⟩ := X'.leave (v := some (.int (own_f1_0 i0))) (fun h => by rw [Bd.returns] at h; cases h)
  refine ⟨_, _, castTop (ef_1 m i0) (st' fs hr), hrun, hended, _, _, rfl, ?_, ⟨_, rfl⟩, hW, hsame.mono (by decide) (by decide)⟩
  exact ⟨rfl, rfl, e'⟩
theorem pn_0 : plainName "com/example/vedette/vedette/core/SubfieldIsDigitCodePinLaw" = true := by first | (simp [plainName, overriddenIn]; done) | decide +kernel
theorem pd_0_0 : parseMethodDescriptor "(C)Z" = some ⟨[.char], some .boolean⟩ := by decide +kernel
theorem pd_0_1 : parseMethodDescriptor "(I)C" = some ⟨[.int], some .char⟩ := by decide +kernel
theorem ef_0 (m : MethodId) (i0 : Int32) (i1 : Int32) : entryFrame m #[(.int i0), (.int i1)] maxLocals = mkF m 0 #[.val (.int i0), .val (.int i1), .unset, .unset, .unset, .unset, .unset] [] := by first | (simp [entryFrame, mkF, argsToLocals, Value.category, maxLocals]; done) | rfl
def own_f0_39 (i0 : Int32) (i1 : Int32) (i3 : Int32) (i4 : Int32) (u0 : Int32) (w_COMPACT_STRINGS : Int32) (w_coder_a2 : Int32) (n_w_value_a2 : Int32) (A_w_value_a2 : Nat → Int32) : Int32 :=
  (if (own_f1_0 i3) = u0 then (if (own_f1_0 (own_f2_0 ((i1 &&& (2147483647 : Int32)) - ((i1 &&& (2147483647 : Int32)) / (10 : Int32)) * (10 : Int32)) w_COMPACT_STRINGS w_coder_a2 n_w_value_a2 A_w_value_a2)) = (0 : Int32) then (0 : Int32) else (if (own_f1_0 (47 : Int32)) = (0 : Int32) then (if (own_f1_0 (58 : Int32)) = (0 : Int32) then (1 : Int32) else (0 : Int32)) else (0 : Int32))) else (0 : Int32))
def own_f0_38 (i0 : Int32) (i1 : Int32) (i3 : Int32) (i4 : Int32) (w_COMPACT_STRINGS : Int32) (w_coder_a2 : Int32) (n_w_value_a2 : Int32) (A_w_value_a2 : Nat → Int32) : Int32 :=
  (own_f0_39 i0 i1 i3 i4 (0 : Int32) w_COMPACT_STRINGS w_coder_a2 n_w_value_a2 A_w_value_a2)
def own_f0_2 (i0 : Int32) (i1 : Int32) (w_COMPACT_STRINGS : Int32) (w_coder_a2 : Int32) (n_w_value_a2 : Int32) (A_w_value_a2 : Nat → Int32) : Int32 :=
  (if ((i0.toUInt32.toUInt16.toUInt32.toInt32) - (48 : Int32)) < (0 : Int32) then (own_f0_38 i0 i1 (i0.toUInt32.toUInt16.toUInt32.toInt32) ((i0.toUInt32.toUInt16.toUInt32.toInt32) - (48 : Int32)) w_COMPACT_STRINGS w_coder_a2 n_w_value_a2 A_w_value_a2) else (if ((i0.toUInt32.toUInt16.toUInt32.toInt32) - (48 : Int32)) < (10 : Int32) then (if (own_f2_0 ((i0.toUInt32.toUInt16.toUInt32.toInt32) - (48 : Int32)) w_COMPACT_STRINGS w_coder_a2 n_w_value_a2 A_w_value_a2) = (i0.toUInt32.toUInt16.toUInt32.toInt32) then (own_f0_39 i0 i1 (i0.toUInt32.toUInt16.toUInt32.toInt32) ((i0.toUInt32.toUInt16.toUInt32.toInt32) - (48 : Int32)) (1 : Int32) w_COMPACT_STRINGS w_coder_a2 n_w_value_a2 A_w_value_a2) else (own_f0_38 i0 i1 (i0.toUInt32.toUInt16.toUInt32.toInt32) ((i0.toUInt32.toUInt16.toUInt32.toInt32) - (48 : Int32)) w_COMPACT_STRINGS w_coder_a2 n_w_value_a2 A_w_value_a2)) else (own_f0_38 i0 i1 (i0.toUInt32.toUInt16.toUInt32.toInt32) ((i0.toUInt32.toUInt16.toUInt32.toInt32) - (48 : Int32)) w_COMPACT_STRINGS w_coder_a2 n_w_value_a2 A_w_value_a2)))
set_option maxRecDepth 65536 in
set_option maxHeartbeats 40000000 in
theorem own_b0_39 {p : Program} {l : Launch} {e : Env} {s : State} {m : MethodId} {args : Array Value} {below : List Frame} {meth : Method} {c : Code} {Z : State} {a0_ : Array Value} (hx : p.tables.exec = Jvm.exec) (hZ : Z.Warmed39 s.vm) (hw : ∀ d ∈ tables_1, d.before a0_ Z = true) (hby : c.code = code) (hml : c.maxLocals = 7) (hown : s.vm.findClass "com/example/vedette/vedette/core/SubfieldIsDigitCodePinLaw" = some m.cls) (hret : meth.sig.returnType = some .boolean) {T0 : State} {locs : List Loc} {cells slots : Nat} {h0 : Heap} (i0 : Int32) (i1 : Int32) (a2 : Addr) (i3 : Int32) (i4 : Int32) (u0 : Int32) (w_COMPACT_STRINGS : Int32) (w_coder_a2 : Int32) (w_value_a2 : Addr) (n_w_value_a2 : Int32) (A_w_value_a2 : Nat → Int32) (w_SIOOBE_FORMATTER : Value)
    (X0 : Stand p l e room_1 s m args below meth c T0 locs cells slots) (e0 : T0.heap = h0) (hcl : cells ≤ room_1.cells) (hsl : slots ≤ room_1.slots) (S_COMPACT_STRINGS : Sta Z h0 "java/lang/String" "COMPACT_STRINGS" "Z" (.int w_COMPACT_STRINGS)) (F_coder_a2 : Fld Z h0 a2 "java/lang/String" "coder" "B" (.int w_coder_a2)) (E_a2 : Exa Z h0 a2 "java/lang/String") (F_value_a2 : Fld Z h0 a2 "java/lang/String" "value" "[B" (.ref w_value_a2)) (V_w_value_a2 : own_Ar Z h0 w_value_a2 .byte n_w_value_a2 A_w_value_a2) (S_SIOOBE_FORMATTER : Sta Z h0 "jdk/internal/util/Preconditions" "SIOOBE_FORMATTER" "Ljava/util/function/BiFunction;" w_SIOOBE_FORMATTER) (r_w_SIOOBE_FORMATTER : w_SIOOBE_FORMATTER.isRef = true) (hI : ¬ w_COMPACT_STRINGS = 0 ∧ w_coder_a2 = 0 ∧ n_w_value_a2 = 10) :
    ∃ T', Stand p l e room_1 s m args below meth c T' locs cells slots ∧ T'.heap = h0 ∧ ∀ fs, (∀ (f : JFrame) (acts : List Action), f.method = m → f.locked = none → f.entered = [] → (doReturn e (T'.setTop f) acts (some (.int (own_f0_39 i0 i1 i3 i4 u0 w_COMPACT_STRINGS w_coder_a2 n_w_value_a2 A_w_value_a2)))).1 = T'.setFrames fs) → Steps p.tables e below (T0.setTop (mkF m 39 #[.val (.int i0), .val (.int i1), .val (.ref a2), .val (.int i3), .val (.int i4), .unset, .unset] [(.int u0)])) (T'.setFrames fs) := by
  obtain ⟨_, _, ⟨T1, L1, k1, n1⟩, -, X1, ⟨Lc1, hQ1, l1, y1, z1⟩, st1⟩ := Jvm.LawKit.callS X0 hx (y := (⟨"com/example/vedette/vedette/core/Subfield", "isDigitCode", "(C)Z"⟩ : MethodName)) hown (mvT hZ (hw _ (List.mem_of_getElem? (i := 8) rfl))) (mvT hZ (hw _ (List.mem_of_getElem? (i := 9) rfl))) (mvT hZ (hw _ (List.mem_of_getElem? (i := 10) rfl))) (mvT hZ (hw _ (List.mem_of_getElem? (i := 11) rfl))) (by decide) (backOf (W := 0) (rm1 l Z a0_ hw [] i3  h0 0 (Nat.zero_le _) ) hZ (hw _ (List.mem_of_getElem? (i := 11) rfl)) (hw _ (List.mem_of_getElem? (i := 10) rfl)) (by decide) (by decide)) (g := (mkF m 42 #[.val (.int i0), .val (.int i1), .val (.ref a2), .val (.int i3), .val (.int i4), .val (.int u0), .unset] [(.int i3)])) rfl (by rw [hml]; rfl) (argsL := [(.int i3)]) (rest := []) (lenOf pd_0_0 rfl) rfl (by show 2 * 0 + _ ≤ _; exact Nat.le_of_eq rfl) (hb hby at_42) (fun _ _ => ⟨rfl, e0, hcl, hsl⟩)
  dsimp only [Pt.U, Pt.locs, Pt.cells, Pt.slots] at X1 l1 y1 z1 st1 hQ1
  subst l1 y1 z1
  obtain ⟨rfl, rfl, e1⟩ := hQ1
  rw [List.append_nil] at X1
  have pre2 : ∀ target, Steps p.tables e below (T1.setTop (mkF m 47 #[.val (.int i0), .val (.int i1), .val (.ref a2), .val (.int i3), .val (.int i4), .val (.int u0), .unset] [(.int u0), (.int (own_f1_0 i3))])) target → Steps p.tables e below (T0.setTop (mkF m 39 #[.val (.int i0), .val (.int i1), .val (.ref a2), .val (.int i3), .val (.int i4), .unset, .unset] [(.int u0)])) target := by
    intro target kt
    show Steps p.tables e below (T0.setTop (mkF m 39 #[.val (.int i0), .val (.int i1), .val (.ref a2), .val (.int i3), .val (.int i4), .unset, .unset] [(.int u0)])) _
    refine XS.istore X0.here hx rfl (hb hby at_39) rfl (l' := #[.val (.int i0), .val (.int i1), .val (.ref a2), .val (.int i3), .val (.int i4), .val (.int u0), .unset]) rfl ?_
    show Steps p.tables e below (T0.setTop (mkF m 41 #[.val (.int i0), .val (.int i1), .val (.ref a2), .val (.int i3), .val (.int i4), .val (.int u0), .unset] [])) _
    refine XS.iloadN X0.here hx rfl (hb hby at_41) rfl ?_
    show Steps p.tables e below (T0.setTop (mkF m 42 #[.val (.int i0), .val (.int i1), .val (.ref a2), .val (.int i3), .val (.int i4), .val (.int u0), .unset] [(.int i3)])) _
    refine st1 _ ?_
    show Steps p.tables e below (T1.setTop (mkF m 45 #[.val (.int i0), .val (.int i1), .val (.ref a2), .val (.int i3), .val (.int i4), .val (.int u0), .unset] [(.int (own_f1_0 i3))])) _
    refine XS.iload X1.here hx rfl (hb hby at_45) rfl ?_
    exact kt
  by_cases hc47 : (own_f1_0 i3) = u0
  · have hJ3 : ¬ w_COMPACT_STRINGS = 0 ∧ w_coder_a2 = 0 ∧ ¬ ((i1 &&& (2147483647 : Int32)) - ((i1 &&& (2147483647 : Int32)) / (10 : Int32)) * (10 : Int32)) < 0 ∧ ((i1 &&& (2147483647 : Int32)) - ((i1 &&& (2147483647 : Int32)) / (10 : Int32)) * (10 : Int32)) < n_w_value_a2 := by exact own_cq hI _
    obtain ⟨cq3, kq3, q3a, q3b, q3c⟩ := isOf hZ e1 E_a2
    obtain ⟨_, _, ⟨T3, L3, k3, n3⟩, -, X3, ⟨Lc3, hQ3, l3, y3, z3⟩, st3⟩ := X1.virtualBack hx (y := (⟨"java/lang/String", "charAt", "(I)C"⟩ : MethodName)) (z := (⟨"java/lang/String", "charAt", "(I)C"⟩ : MethodName)) hown (mvT hZ (hw _ (List.mem_of_getElem? (i := 13) rfl))) (mvT hZ (hw _ (List.mem_of_getElem? (i := 14) rfl))) (notFace_of_selects (args := #[]) (mvT hZ (hw _ (List.mem_of_getElem? (i := 16) rfl)))) (mvT hZ (hw _ (List.mem_of_getElem? (i := 16) rfl))) (mvT hZ (hw _ (List.mem_of_getElem? (i := 15) rfl))) (by decide) (backOf (W := 0) (rm2 l Z a0_ hw [] a2 ((i1 &&& (2147483647 : Int32)) - ((i1 &&& (2147483647 : Int32)) / (10 : Int32)) * (10 : Int32)) w_COMPACT_STRINGS w_coder_a2 w_value_a2 n_w_value_a2 A_w_value_a2 w_SIOOBE_FORMATTER h0 0 (Nat.zero_le _) S_COMPACT_STRINGS F_coder_a2 E_a2 F_value_a2 V_w_value_a2 S_SIOOBE_FORMATTER r_w_SIOOBE_FORMATTER hJ3) hZ (hw _ (List.mem_of_getElem? (i := 17) rfl)) (hw _ (List.mem_of_getElem? (i := 1) rfl)) (by decide) (by decide)) q3a q3c (g := (mkF m 60 #[.val (.int i0), .val (.int i1), .val (.ref a2), .val (.int i3), .val (.int i4), .val (.int u0), .unset] [(.int ((i1 &&& (2147483647 : Int32)) - ((i1 &&& (2147483647 : Int32)) / (10 : Int32)) * (10 : Int32))), (.ref a2)])) rfl (by rw [hml]; rfl) (Steps.refl _) (argsL := [(.int ((i1 &&& (2147483647 : Int32)) - ((i1 &&& (2147483647 : Int32)) / (10 : Int32)) * (10 : Int32)))]) (rest := []) (lenOf pd_0_1 rfl) rfl (by show 2 * 0 + _ ≤ _; exact Nat.le_of_eq rfl) (hb hby at_60) (fun _ _ => ⟨rfl, e1, hcl, hsl⟩)
    dsimp only [Pt.U, Pt.locs, Pt.cells, Pt.slots] at X3 l3 y3 z3 st3 hQ3
    subst l3 y3 z3
    obtain ⟨rfl, rfl, e3⟩ := hQ3
    rw [List.append_nil] at X3
    obtain ⟨_, _, ⟨T4, L4, k4, n4⟩, -, X4, ⟨Lc4, hQ4, l4, y4, z4⟩, st4⟩ := Jvm.LawKit.callS X3 hx (y := (⟨"com/example/vedette/vedette/core/Subfield", "isDigitCode", "(C)Z"⟩ : MethodName)) hown (mvT hZ (hw _ (List.mem_of_getElem? (i := 8) rfl))) (mvT hZ (hw _ (List.mem_of_getElem? (i := 9) rfl))) (mvT hZ (hw _ (List.mem_of_getElem? (i := 10) rfl))) (mvT hZ (hw _ (List.mem_of_getElem? (i := 11) rfl))) (by decide) (backOf (W := 0) (rm1 l Z a0_ hw [] (own_f2_0 ((i1 &&& (2147483647 : Int32)) - ((i1 &&& (2147483647 : Int32)) / (10 : Int32)) * (10 : Int32)) w_COMPACT_STRINGS w_coder_a2 n_w_value_a2 A_w_value_a2)  h0 0 (Nat.zero_le _) ) hZ (hw _ (List.mem_of_getElem? (i := 11) rfl)) (hw _ (List.mem_of_getElem? (i := 10) rfl)) (by decide) (by decide)) (g := (mkF m 67 #[.val (.int i0), .val (.int i1), .val (.ref a2), .val (.int i3), .val (.int i4), .val (.int u0), .val (.int (own_f2_0 ((i1 &&& (2147483647 : Int32)) - ((i1 &&& (2147483647 : Int32)) / (10 : Int32)) * (10 : Int32)) w_COMPACT_STRINGS w_coder_a2 n_w_value_a2 A_w_value_a2))] [(.int (own_f2_0 ((i1 &&& (2147483647 : Int32)) - ((i1 &&& (2147483647 : Int32)) / (10 : Int32)) * (10 : Int32)) w_COMPACT_STRINGS w_coder_a2 n_w_value_a2 A_w_value_a2))])) rfl (by rw [hml]; rfl) (argsL := [(.int (own_f2_0 ((i1 &&& (2147483647 : Int32)) - ((i1 &&& (2147483647 : Int32)) / (10 : Int32)) * (10 : Int32)) w_COMPACT_STRINGS w_coder_a2 n_w_value_a2 A_w_value_a2))]) (rest := []) (lenOf pd_0_0 rfl) rfl (by show 2 * 0 + _ ≤ _; exact Nat.le_of_eq rfl) (hb hby at_67) (fun _ _ => ⟨rfl, e3, hcl, hsl⟩)
    dsimp only [Pt.U, Pt.locs, Pt.cells, Pt.slots] at X4 l4 y4 z4 st4 hQ4
    subst l4 y4 z4
    obtain ⟨rfl, rfl, e4⟩ := hQ4
    rw [List.append_nil] at X4
    have pre5 : ∀ target, Steps p.tables e below (T4.setTop (mkF m 70 #[.val (.int i0), .val (.int i1), .val (.ref a2), .val (.int i3), .val (.int i4), .val (.int u0), .val (.int (own_f2_0 ((i1 &&& (2147483647 : Int32)) - ((i1 &&& (2147483647 : Int32)) / (10 : Int32)) * (10 : Int32)) w_COMPACT_STRINGS w_coder_a2 n_w_value_a2 A_w_value_a2))] [(.int (own_f1_0 (own_f2_0 ((i1 &&& (2147483647 : Int32)) - ((i1 &&& (2147483647 : Int32)) / (10 : Int32)) * (10 : Int32)) w_COMPACT_STRINGS w_coder_a2 n_w_value_a2 A_w_value_a2)))])) target → Steps p.tables e below (T0.setTop (mkF m 39 #[.val (.int i0), .val (.int i1), .val (.ref a2), .val (.int i3), .val (.int i4), .unset, .unset] [(.int u0)])) target := by
      intro target kt
      refine pre2 target ?_
      show Steps p.tables e below (T1.setTop (mkF m 47 #[.val (.int i0), .val (.int i1), .val (.ref a2), .val (.int i3), .val (.int i4), .val (.int u0), .unset] [(.int u0), (.int (own_f1_0 i3))])) _
      refine XS.icmpYes X1.here hx rfl (pc0 := 47) (pc' := 52) rfl (hb hby at_47) rfl (teq hc47).1 (by decide) (by decide) ?_
      show Steps p.tables e below (T1.setTop (mkF m 52 #[.val (.int i0), .val (.int i1), .val (.ref a2), .val (.int i3), .val (.int i4), .val (.int u0), .unset] [])) _
      refine XS.aloadN X1.here hx rfl (hb hby at_52) rfl rfl ?_
      show Steps p.tables e below (T1.setTop (mkF m 53 #[.val (.int i0), .val (.int i1), .val (.ref a2), .val (.int i3), .val (.int i4), .val (.int u0), .unset] [(.ref a2)])) _
      refine XS.iloadN X1.here hx rfl (hb hby at_53) rfl ?_
      show Steps p.tables e below (T1.setTop (mkF m 54 #[.val (.int i0), .val (.int i1), .val (.ref a2), .val (.int i3), .val (.int i4), .val (.int u0), .unset] [(.int i1), (.ref a2)])) _
      refine X1.ldcInt hx hown (mvT hZ (hw _ (List.mem_of_getElem? (i := 12) rfl))) (g := (mkF m 54 #[.val (.int i0), .val (.int i1), .val (.ref a2), .val (.int i3), .val (.int i4), .val (.int u0), .unset] [(.int i1), (.ref a2)])) rfl (hb hby at_54) _ ?_
      show Steps p.tables e below (T1.setTop (mkF m 56 #[.val (.int i0), .val (.int i1), .val (.ref a2), .val (.int i3), .val (.int i4), .val (.int u0), .unset] [(.int (2147483647 : Int32)), (.int i1), (.ref a2)])) _
      refine XS.iand X1.here hx rfl (hb hby at_56) rfl ?_
      show Steps p.tables e below (T1.setTop (mkF m 57 #[.val (.int i0), .val (.int i1), .val (.ref a2), .val (.int i3), .val (.int i4), .val (.int u0), .unset] [(.int (i1 &&& (2147483647 : Int32))), (.ref a2)])) _
      refine XS.bipush X1.here hx rfl (hb hby at_57) ?_
      show Steps p.tables e below (T1.setTop (mkF m 59 #[.val (.int i0), .val (.int i1), .val (.ref a2), .val (.int i3), .val (.int i4), .val (.int u0), .unset] [(.int (10 : Int32)), (.int (i1 &&& (2147483647 : Int32))), (.ref a2)])) _
      refine XS.irem X1.here hx rfl (hb hby at_59) rfl (by decide) ?_
      show Steps p.tables e below (T1.setTop (mkF m 60 #[.val (.int i0), .val (.int i1), .val (.ref a2), .val (.int i3), .val (.int i4), .val (.int u0), .unset] [(.int ((i1 &&& (2147483647 : Int32)) - ((i1 &&& (2147483647 : Int32)) / (10 : Int32)) * (10 : Int32))), (.ref a2)])) _
      refine st3.trans ?_
      show Steps p.tables e below (T3.setTop (mkF m 63 #[.val (.int i0), .val (.int i1), .val (.ref a2), .val (.int i3), .val (.int i4), .val (.int u0), .unset] [(.int (own_f2_0 ((i1 &&& (2147483647 : Int32)) - ((i1 &&& (2147483647 : Int32)) / (10 : Int32)) * (10 : Int32)) w_COMPACT_STRINGS w_coder_a2 n_w_value_a2 A_w_value_a2))])) _
      refine XS.istore X3.here hx rfl (hb hby at_63) rfl (l' := #[.val (.int i0), .val (.int i1), .val (.ref a2), .val (.int i3), .val (.int i4), .val (.int u0), .val (.int (own_f2_0 ((i1 &&& (2147483647 : Int32)) - ((i1 &&& (2147483647 : Int32)) / (10 : Int32)) * (10 : Int32)) w_COMPACT_STRINGS w_coder_a2 n_w_value_a2 A_w_value_a2))]) rfl ?_
      show Steps p.tables e below (T3.setTop (mkF m 65 #[.val (.int i0), .val (.int i1), .val (.ref a2), .val (.int i3), .val (.int i4), .val (.int u0), .val (.int (own_f2_0 ((i1 &&& (2147483647 : Int32)) - ((i1 &&& (2147483647 : Int32)) / (10 : Int32)) * (10 : Int32)) w_COMPACT_STRINGS w_coder_a2 n_w_value_a2 A_w_value_a2))] [])) _
      refine XS.iload X3.here hx rfl (hb hby at_65) rfl ?_
      show Steps p.tables e below (T3.setTop (mkF m 67 #[.val (.int i0), .val (.int i1), .val (.ref a2), .val (.int i3), .val (.int i4), .val (.int u0), .val (.int (own_f2_0 ((i1 &&& (2147483647 : Int32)) - ((i1 &&& (2147483647 : Int32)) / (10 : Int32)) * (10 : Int32)) w_COMPACT_STRINGS w_coder_a2 n_w_value_a2 A_w_value_a2))] [(.int (own_f2_0 ((i1 &&& (2147483647 : Int32)) - ((i1 &&& (2147483647 : Int32)) / (10 : Int32)) * (10 : Int32)) w_COMPACT_STRINGS w_coder_a2 n_w_value_a2 A_w_value_a2))])) _
      refine st4 _ ?_
      exact kt
    by_cases hc70 : (own_f1_0 (own_f2_0 ((i1 &&& (2147483647 : Int32)) - ((i1 &&& (2147483647 : Int32)) / (10 : Int32)) * (10 : Int32)) w_COMPACT_STRINGS w_coder_a2 n_w_value_a2 A_w_value_a2)) = (0 : Int32)
    · refine ⟨T4, X4, e4, fun fs hr => ?_⟩
      have hv : (own_f0_39 i0 i1 i3 i4 u0 w_COMPACT_STRINGS w_coder_a2 n_w_value_a2 A_w_value_a2) = (0 : Int32) := by unfold own_f0_39; rw [if_pos hc47, if_pos hc70]
      rw [hv] at hr
      refine pre5 _ ?_
      show Steps p.tables e below (T4.setTop (mkF m 70 #[.val (.int i0), .val (.int i1), .val (.ref a2), .val (.int i3), .val (.int i4), .val (.int u0), .val (.int (own_f2_0 ((i1 &&& (2147483647 : Int32)) - ((i1 &&& (2147483647 : Int32)) / (10 : Int32)) * (10 : Int32)) w_COMPACT_STRINGS w_coder_a2 n_w_value_a2 A_w_value_a2))] [(.int (own_f1_0 (own_f2_0 ((i1 &&& (2147483647 : Int32)) - ((i1 &&& (2147483647 : Int32)) / (10 : Int32)) * (10 : Int32)) w_COMPACT_STRINGS w_coder_a2 n_w_value_a2 A_w_value_a2)))])) _
      refine XS.ifNo X4.here hx rfl (hb hby at_70) rfl ((if0 _ _).trans (teq hc70).2) ?_
      show Steps p.tables e below (T4.setTop (mkF m 73 #[.val (.int i0), .val (.int i1), .val (.ref a2), .val (.int i3), .val (.int i4), .val (.int u0), .val (.int (own_f2_0 ((i1 &&& (2147483647 : Int32)) - ((i1 &&& (2147483647 : Int32)) / (10 : Int32)) * (10 : Int32)) w_COMPACT_STRINGS w_coder_a2 n_w_value_a2 A_w_value_a2))] [])) _
      refine XS.iconst X4.here hx rfl (hb hby at_73) ?_
      show Steps p.tables e below (T4.setTop (mkF m 74 #[.val (.int i0), .val (.int i1), .val (.ref a2), .val (.int i3), .val (.int i4), .val (.int u0), .val (.int (own_f2_0 ((i1 &&& (2147483647 : Int32)) - ((i1 &&& (2147483647 : Int32)) / (10 : Int32)) * (10 : Int32)) w_COMPACT_STRINGS w_coder_a2 n_w_value_a2 A_w_value_a2))] [(.int (0 : Int32))])) _
      exact retN X4 hx (t := .boolean) hret (by simp) (hb hby at_74) hr
    · obtain ⟨_, _, ⟨T6, L6, k6, n6⟩, -, X6, ⟨Lc6, hQ6, l6, y6, z6⟩, st6⟩ := Jvm.LawKit.callS X4 hx (y := (⟨"com/example/vedette/vedette/core/Subfield", "isDigitCode", "(C)Z"⟩ : MethodName)) hown (mvT hZ (hw _ (List.mem_of_getElem? (i := 8) rfl))) (mvT hZ (hw _ (List.mem_of_getElem? (i := 9) rfl))) (mvT hZ (hw _ (List.mem_of_getElem? (i := 10) rfl))) (mvT hZ (hw _ (List.mem_of_getElem? (i := 11) rfl))) (by decide) (backOf (W := 0) (rm1 l Z a0_ hw [] (47 : Int32)  h0 0 (Nat.zero_le _) ) hZ (hw _ (List.mem_of_getElem? (i := 11) rfl)) (hw _ (List.mem_of_getElem? (i := 10) rfl)) (by decide) (by decide)) (g := (mkF m 77 #[.val (.int i0), .val (.int i1), .val (.ref a2), .val (.int i3), .val (.int i4), .val (.int u0), .val (.int (own_f2_0 ((i1 &&& (2147483647 : Int32)) - ((i1 &&& (2147483647 : Int32)) / (10 : Int32)) * (10 : Int32)) w_COMPACT_STRINGS w_coder_a2 n_w_value_a2 A_w_value_a2))] [(.int (47 : Int32))])) rfl (by rw [hml]; rfl) (argsL := [(.int (47 : Int32))]) (rest := []) (lenOf pd_0_0 rfl) rfl (by show 2 * 0 + _ ≤ _; exact Nat.le_of_eq rfl) (hb hby at_77) (fun _ _ => ⟨rfl, e4, hcl, hsl⟩)
      dsimp only [Pt.U, Pt.locs, Pt.cells, Pt.slots] at X6 l6 y6 z6 st6 hQ6
      subst l6 y6 z6
      obtain ⟨rfl, rfl, e6⟩ := hQ6
      rw [List.append_nil] at X6
      have pre7 : ∀ target, Steps p.tables e below (T6.setTop (mkF m 80 #[.val (.int i0), .val (.int i1), .val (.ref a2), .val (.int i3), .val (.int i4), .val (.int u0), .val (.int (own_f2_0 ((i1 &&& (2147483647 : Int32)) - ((i1 &&& (2147483647 : Int32)) / (10 : Int32)) * (10 : Int32)) w_COMPACT_STRINGS w_coder_a2 n_w_value_a2 A_w_value_a2))] [(.int (own_f1_0 (47 : Int32)))])) target → Steps p.tables e below (T0.setTop (mkF m 39 #[.val (.int i0), .val (.int i1), .val (.ref a2), .val (.int i3), .val (.int i4), .unset, .unset] [(.int u0)])) target := by
        intro target kt
        refine pre5 target ?_
        show Steps p.tables e below (T4.setTop (mkF m 70 #[.val (.int i0), .val (.int i1), .val (.ref a2), .val (.int i3), .val (.int i4), .val (.int u0), .val (.int (own_f2_0 ((i1 &&& (2147483647 : Int32)) - ((i1 &&& (2147483647 : Int32)) / (10 : Int32)) * (10 : Int32)) w_COMPACT_STRINGS w_coder_a2 n_w_value_a2 A_w_value_a2))] [(.int (own_f1_0 (own_f2_0 ((i1 &&& (2147483647 : Int32)) - ((i1 &&& (2147483647 : Int32)) / (10 : Int32)) * (10 : Int32)) w_COMPACT_STRINGS w_coder_a2 n_w_value_a2 A_w_value_a2)))])) _
        refine XS.ifYes X4.here hx rfl (pc0 := 70) (pc' := 75) rfl (hb hby at_70) rfl ((if0 _ _).trans (feq hc70).2) (by decide) (by decide) ?_
        show Steps p.tables e below (T4.setTop (mkF m 75 #[.val (.int i0), .val (.int i1), .val (.ref a2), .val (.int i3), .val (.int i4), .val (.int u0), .val (.int (own_f2_0 ((i1 &&& (2147483647 : Int32)) - ((i1 &&& (2147483647 : Int32)) / (10 : Int32)) * (10 : Int32)) w_COMPACT_STRINGS w_coder_a2 n_w_value_a2 A_w_value_a2))] [])) _
        refine XS.bipush X4.here hx rfl (hb hby at_75) ?_
        show Steps p.tables e below (T4.setTop (mkF m 77 #[.val (.int i0), .val (.int i1), .val (.ref a2), .val (.int i3), .val (.int i4), .val (.int u0), .val (.int (own_f2_0 ((i1 &&& (2147483647 : Int32)) - ((i1 &&& (2147483647 : Int32)) / (10 : Int32)) * (10 : Int32)) w_COMPACT_STRINGS w_coder_a2 n_w_value_a2 A_w_value_a2))] [(.int (47 : Int32))])) _
        refine st6 _ ?_
        exact kt
      by_cases hc80 : (own_f1_0 (47 : Int32)) = (0 : Int32)
      · obtain ⟨_, _, ⟨T8, L8, k8, n8⟩, -, X8, ⟨Lc8, hQ8, l8, y8, z8⟩, st8⟩ := Jvm.LawKit.callS X6 hx (y := (⟨"com/example/vedette/vedette/core/Subfield", "isDigitCode", "(C)Z"⟩ : MethodName)) hown (mvT hZ (hw _ (List.mem_of_getElem? (i := 8) rfl))) (mvT hZ (hw _ (List.mem_of_getElem? (i := 9) rfl))) (mvT hZ (hw _ (List.mem_of_getElem? (i := 10) rfl))) (mvT hZ (hw _ (List.mem_of_getElem? (i := 11) rfl))) (by decide) (backOf (W := 0) (rm1 l Z a0_ hw [] (58 : Int32)  h0 0 (Nat.zero_le _) ) hZ (hw _ (List.mem_of_getElem? (i := 11) rfl)) (hw _ (List.mem_of_getElem? (i := 10) rfl)) (by decide) (by decide)) (g := (mkF m 85 #[.val (.int i0), .val (.int i1), .val (.ref a2), .val (.int i3), .val (.int i4), .val (.int u0), .val (.int (own_f2_0 ((i1 &&& (2147483647 : Int32)) - ((i1 &&& (2147483647 : Int32)) / (10 : Int32)) * (10 : Int32)) w_COMPACT_STRINGS w_coder_a2 n_w_value_a2 A_w_value_a2))] [(.int (58 : Int32))])) rfl (by rw [hml]; rfl) (argsL := [(.int (58 : Int32))]) (rest := []) (lenOf pd_0_0 rfl) rfl (by show 2 * 0 + _ ≤ _; exact Nat.le_of_eq rfl) (hb hby at_85) (fun _ _ => ⟨rfl, e6, hcl, hsl⟩)
        dsimp only [Pt.U, Pt.locs, Pt.cells, Pt.slots] at X8 l8 y8 z8 st8 hQ8
        subst l8 y8 z8
        obtain ⟨rfl, rfl, e8⟩ := hQ8
        rw [List.append_nil] at X8
        have pre9 : ∀ target, Steps p.tables e below (T8.setTop (mkF m 88 #[.val (.int i0), .val (.int i1), .val (.ref a2), .val (.int i3), .val (.int i4), .val (.int u0), .val (.int (own_f2_0 ((i1 &&& (2147483647 : Int32)) - ((i1 &&& (2147483647 : Int32)) / (10 : Int32)) * (10 : Int32)) w_COMPACT_STRINGS w_coder_a2 n_w_value_a2 A_w_value_a2))] [(.int (own_f1_0 (58 : Int32)))])) target → Steps p.tables e below (T0.setTop (mkF m 39 #[.val (.int i0), .val (.int i1), .val (.ref a2), .val (.int i3), .val (.int i4), .unset, .unset] [(.int u0)])) target := by
          intro target kt
          refine pre7 target ?_
          show Steps p.tables e below (T6.setTop (mkF m 80 #[.val (.int i0), .val (.int i1), .val (.ref a2), .val (.int i3), .val (.int i4), .val (.int u0), .val (.int (own_f2_0 ((i1 &&& (2147483647 : Int32)) - ((i1 &&& (2147483647 : Int32)) / (10 : Int32)) * (10 : Int32)) w_COMPACT_STRINGS w_coder_a2 n_w_value_a2 A_w_value_a2))] [(.int (own_f1_0 (47 : Int32)))])) _
          refine XS.ifNo X6.here hx rfl (hb hby at_80) rfl ((if0 _ _).trans (teq hc80).2) ?_
          show Steps p.tables e below (T6.setTop (mkF m 83 #[.val (.int i0), .val (.int i1), .val (.ref a2), .val (.int i3), .val (.int i4), .val (.int u0), .val (.int (own_f2_0 ((i1 &&& (2147483647 : Int32)) - ((i1 &&& (2147483647 : Int32)) / (10 : Int32)) * (10 : Int32)) w_COMPACT_STRINGS w_coder_a2 n_w_value_a2 A_w_value_a2))] [])) _
          refine XS.bipush X6.here hx rfl (hb hby at_83) ?_
          show Steps p.tables e below (T6.setTop (mkF m 85 #[.val (.int i0), .val (.int i1), .val (.ref a2), .val (.int i3), .val (.int i4), .val (.int u0), .val (.int (own_f2_0 ((i1 &&& (2147483647 : Int32)) - ((i1 &&& (2147483647 : Int32)) / (10 : Int32)) * (10 : Int32)) w_COMPACT_STRINGS w_coder_a2 n_w_value_a2 A_w_value_a2))] [(.int (58 : Int32))])) _
          refine st8 _ ?_
          exact kt
        by_cases hc88 : (own_f1_0 (58 : Int32)) = (0 : Int32)
        · refine ⟨T8, X8, e8, fun fs hr => ?_⟩
          have hv : (own_f0_39 i0 i1 i3 i4 u0 w_COMPACT_STRINGS w_coder_a2 n_w_value_a2 A_w_value_a2) = (1 : Int32) := by unfold own_f0_39; rw [if_pos hc47, if_neg hc70, if_pos hc80, if_pos hc88]
          rw [hv] at hr
          refine pre9 _ ?_
          show Steps p.tables e below (T8.setTop (mkF m 88 #[.val (.int i0), .val (.int i1), .val (.ref a2), .val (.int i3), .val (.int i4), .val (.int u0), .val (.int (own_f2_0 ((i1 &&& (2147483647 : Int32)) - ((i1 &&& (2147483647 : Int32)) / (10 : Int32)) * (10 : Int32)) w_COMPACT_STRINGS w_coder_a2 n_w_value_a2 A_w_value_a2))] [(.int (own_f1_0 (58 : Int32)))])) _
          refine XS.ifYes X8.here hx rfl (pc0 := 88) (pc' := 93) rfl (hb hby at_88) rfl ((if0 _ _).trans (teq hc88).1) (by decide) (by decide) ?_
          show Steps p.tables e below (T8.setTop (mkF m 93 #[.val (.int i0), .val (.int i1), .val (.ref a2), .val (.int i3), .val (.int i4), .val (.int u0), .val (.int (own_f2_0 ((i1 &&& (2147483647 : Int32)) - ((i1 &&& (2147483647 : Int32)) / (10 : Int32)) * (10 : Int32)) w_COMPACT_STRINGS w_coder_a2 n_w_value_a2 A_w_value_a2))] [])) _
          refine XS.iconst X8.here hx rfl (hb hby at_93) ?_
          show Steps p.tables e below (T8.setTop (mkF m 94 #[.val (.int i0), .val (.int i1), .val (.ref a2), .val (.int i3), .val (.int i4), .val (.int u0), .val (.int (own_f2_0 ((i1 &&& (2147483647 : Int32)) - ((i1 &&& (2147483647 : Int32)) / (10 : Int32)) * (10 : Int32)) w_COMPACT_STRINGS w_coder_a2 n_w_value_a2 A_w_value_a2))] [(.int (1 : Int32))])) _
          exact retN X8 hx (t := .boolean) hret (by simp) (hb hby at_94) hr
        · refine ⟨T8, X8, e8, fun fs hr => ?_⟩
          have hv : (own_f0_39 i0 i1 i3 i4 u0 w_COMPACT_STRINGS w_coder_a2 n_w_value_a2 A_w_value_a2) = (0 : Int32) := by unfold own_f0_39; rw [if_pos hc47, if_neg hc70, if_pos hc80, if_neg hc88]
          rw [hv] at hr
          refine pre9 _ ?_
          show Steps p.tables e below (T8.setTop (mkF m 88 #[.val (.int i0), .val (.int i1), .val (.ref a2), .val (.int i3), .val (.int i4), .val (.int u0), .val (.int (own_f2_0 ((i1 &&& (2147483647 : Int32)) - ((i1 &&& (2147483647 : Int32)) / (10 : Int32)) * (10 : Int32)) w_COMPACT_STRINGS w_coder_a2 n_w_value_a2 A_w_value_a2))] [(.int (own_f1_0 (58 : Int32)))])) _
          refine XS.ifNo X8.here hx rfl (hb hby at_88) rfl ((if0 _ _).trans (feq hc88).1) ?_
          show Steps p.tables e below (T8.setTop (mkF m 91 #[.val (.int i0), .val (.int i1), .val (.ref a2), .val (.int i3), .val (.int i4), .val (.int u0), .val (.int (own_f2_0 ((i1 &&& (2147483647 : Int32)) - ((i1 &&& (2147483647 : Int32)) / (10 : Int32)) * (10 : Int32)) w_COMPACT_STRINGS w_coder_a2 n_w_value_a2 A_w_value_a2))] [])) _
          refine XS.iconst X8.here hx rfl (hb hby at_91) ?_
          show Steps p.tables e below (T8.setTop (mkF m 92 #[.val (.int i0), .val (.int i1), .val (.ref a2), .val (.int i3), .val (.int i4), .val (.int u0), .val (.int (own_f2_0 ((i1 &&& (2147483647 : Int32)) - ((i1 &&& (2147483647 : Int32)) / (10 : Int32)) * (10 : Int32)) w_COMPACT_STRINGS w_coder_a2 n_w_value_a2 A_w_value_a2))] [(.int (0 : Int32))])) _
          exact retN X8 hx (t := .boolean) hret (by simp) (hb hby at_92) hr
      · refine ⟨T6, X6, e6, fun fs hr => ?_⟩
        have hv : (own_f0_39 i0 i1 i3 i4 u0 w_COMPACT_STRINGS w_coder_a2 n_w_value_a2 A_w_value_a2) = (0 : Int32) := by unfold own_f0_39; rw [if_pos hc47, if_neg hc70, if_neg hc80]
        rw [hv] at hr
        refine pre7 _ ?_
        show Steps p.tables e below (T6.setTop (mkF m 80 #[.val (.int i0), .val (.int i1), .val (.ref a2), .val (.int i3), .val (.int i4), .val (.int u0), .val (.int (own_f2_0 ((i1 &&& (2147483647 : Int32)) - ((i1 &&& (2147483647 : Int32)) / (10 : Int32)) * (10 : Int32)) w_COMPACT_STRINGS w_coder_a2 n_w_value_a2 A_w_value_a2))] [(.int (own_f1_0 (47 : Int32)))])) _
        refine XS.ifYes X6.here hx rfl (pc0 := 80) (pc' := 91) rfl (hb hby at_80) rfl ((if0 _ _).trans (feq hc80).2) (by decide) (by decide) ?_
        show Steps p.tables e below (T6.setTop (mkF m 91 #[.val (.int i0), .val (.int i1), .val (.ref a2), .val (.int i3), .val (.int i4), .val (.int u0), .val (.int (own_f2_0 ((i1 &&& (2147483647 : Int32)) - ((i1 &&& (2147483647 : Int32)) / (10 : Int32)) * (10 : Int32)) w_COMPACT_STRINGS w_coder_a2 n_w_value_a2 A_w_value_a2))] [])) _
        refine XS.iconst X6.here hx rfl (hb hby at_91) ?_
        show Steps p.tables e below (T6.setTop (mkF m 92 #[.val (.int i0), .val (.int i1), .val (.ref a2), .val (.int i3), .val (.int i4), .val (.int u0), .val (.int (own_f2_0 ((i1 &&& (2147483647 : Int32)) - ((i1 &&& (2147483647 : Int32)) / (10 : Int32)) * (10 : Int32)) w_COMPACT_STRINGS w_coder_a2 n_w_value_a2 A_w_value_a2))] [(.int (0 : Int32))])) _
        exact retN X6 hx (t := .boolean) hret (by simp) (hb hby at_92) hr
  · refine ⟨T1, X1, e1, fun fs hr => ?_⟩
    have hv : (own_f0_39 i0 i1 i3 i4 u0 w_COMPACT_STRINGS w_coder_a2 n_w_value_a2 A_w_value_a2) = (0 : Int32) := by unfold own_f0_39; rw [if_neg hc47]
    rw [hv] at hr
    refine pre2 _ ?_
    show Steps p.tables e below (T1.setTop (mkF m 47 #[.val (.int i0), .val (.int i1), .val (.ref a2), .val (.int i3), .val (.int i4), .val (.int u0), .unset] [(.int u0), (.int (own_f1_0 i3))])) _
    refine XS.icmpNo X1.here hx rfl (hb hby at_47) rfl (feq hc47).1 ?_
    show Steps p.tables e below (T1.setTop (mkF m 50 #[.val (.int i0), .val (.int i1), .val (.ref a2), .val (.int i3), .val (.int i4), .val (.int u0), .unset] [])) _
    refine XS.iconst X1.here hx rfl (hb hby at_50) ?_
    show Steps p.tables e below (T1.setTop (mkF m 51 #[.val (.int i0), .val (.int i1), .val (.ref a2), .val (.int i3), .val (.int i4), .val (.int u0), .unset] [(.int (0 : Int32))])) _
    exact retN X1 hx (t := .boolean) hret (by simp) (hb hby at_51) hr
set_option maxRecDepth 65536 in
set_option maxHeartbeats 40000000 in
theorem own_b0_38 {p : Program} {l : Launch} {e : Env} {s : State} {m : MethodId} {args : Array Value} {below : List Frame} {meth : Method} {c : Code} {Z : State} {a0_ : Array Value} (hx : p.tables.exec = Jvm.exec) (hZ : Z.Warmed39 s.vm) (hw : ∀ d ∈ tables_1, d.before a0_ Z = true) (hby : c.code = code) (hml : c.maxLocals = 7) (hown : s.vm.findClass "com/example/vedette/vedette/core/SubfieldIsDigitCodePinLaw" = some m.cls) (hret : meth.sig.returnType = some .boolean) {T0 : State} {locs : List Loc} {cells slots : Nat} {h0 : Heap} (i0 : Int32) (i1 : Int32) (a2 : Addr) (i3 : Int32) (i4 : Int32) (w_COMPACT_STRINGS : Int32) (w_coder_a2 : Int32) (w_value_a2 : Addr) (n_w_value_a2 : Int32) (A_w_value_a2 : Nat → Int32) (w_SIOOBE_FORMATTER : Value)
    (X0 : Stand p l e room_1 s m args below meth c T0 locs cells slots) (e0 : T0.heap = h0) (hcl : cells ≤ room_1.cells) (hsl : slots ≤ room_1.slots) (S_COMPACT_STRINGS : Sta Z h0 "java/lang/String" "COMPACT_STRINGS" "Z" (.int w_COMPACT_STRINGS)) (F_coder_a2 : Fld Z h0 a2 "java/lang/String" "coder" "B" (.int w_coder_a2)) (E_a2 : Exa Z h0 a2 "java/lang/String") (F_value_a2 : Fld Z h0 a2 "java/lang/String" "value" "[B" (.ref w_value_a2)) (V_w_value_a2 : own_Ar Z h0 w_value_a2 .byte n_w_value_a2 A_w_value_a2) (S_SIOOBE_FORMATTER : Sta Z h0 "jdk/internal/util/Preconditions" "SIOOBE_FORMATTER" "Ljava/util/function/BiFunction;" w_SIOOBE_FORMATTER) (r_w_SIOOBE_FORMATTER : w_SIOOBE_FORMATTER.isRef = true) (hI : ¬ w_COMPACT_STRINGS = 0 ∧ w_coder_a2 = 0 ∧ n_w_value_a2 = 10) :
    ∃ T', Stand p l e room_1 s m args below meth c T' locs cells slots ∧ T'.heap = h0 ∧ ∀ fs, (∀ (f : JFrame) (acts : List Action), f.method = m → f.locked = none → f.entered = [] → (doReturn e (T'.setTop f) acts (some (.int (own_f0_38 i0 i1 i3 i4 w_COMPACT_STRINGS w_coder_a2 n_w_value_a2 A_w_value_a2)))).1 = T'.setFrames fs) → Steps p.tables e below (T0.setTop (mkF m 38 #[.val (.int i0), .val (.int i1), .val (.ref a2), .val (.int i3), .val (.int i4), .unset, .unset] [])) (T'.setFrames fs) := by
  have pre1 : ∀ target, Steps p.tables e below (T0.setTop (mkF m 39 #[.val (.int i0), .val (.int i1), .val (.ref a2), .val (.int i3), .val (.int i4), .unset, .unset] [(.int (0 : Int32))])) target → Steps p.tables e below (T0.setTop (mkF m 38 #[.val (.int i0), .val (.int i1), .val (.ref a2), .val (.int i3), .val (.int i4), .unset, .unset] [])) target := by
    intro target kt
    show Steps p.tables e below (T0.setTop (mkF m 38 #[.val (.int i0), .val (.int i1), .val (.ref a2), .val (.int i3), .val (.int i4), .unset, .unset] [])) _
    refine XS.iconst X0.here hx rfl (hb hby at_38) ?_
    exact kt
  have hI2 : ¬ w_COMPACT_STRINGS = 0 ∧ w_coder_a2 = 0 ∧ n_w_value_a2 = 10 := by exact hI
  obtain ⟨T2, X2, e2, st2⟩ := own_b0_39 hx hZ hw hby hml hown hret i0 i1 a2 i3 i4 (0 : Int32) w_COMPACT_STRINGS w_coder_a2 w_value_a2 n_w_value_a2 A_w_value_a2 w_SIOOBE_FORMATTER X0 e0 hcl hsl S_COMPACT_STRINGS F_coder_a2 E_a2 F_value_a2 V_w_value_a2 S_SIOOBE_FORMATTER r_w_SIOOBE_FORMATTER hI2
  have hv : (own_f0_38 i0 i1 i3 i4 w_COMPACT_STRINGS w_coder_a2 n_w_value_a2 A_w_value_a2) = (own_f0_39 i0 i1 i3 i4 (0 : Int32) w_COMPACT_STRINGS w_coder_a2 n_w_value_a2 A_w_value_a2) := by unfold own_f0_38; rfl
  exact ⟨T2, X2, e2, fun fs hr => pre1 _ (st2 fs (by rw [hv] at hr; exact hr))⟩
set_option maxRecDepth 65536 in
set_option maxHeartbeats 40000000 in
theorem own_b0_2 {p : Program} {l : Launch} {e : Env} {s : State} {m : MethodId} {args : Array Value} {below : List Frame} {meth : Method} {c : Code} {Z : State} {a0_ : Array Value} (hx : p.tables.exec = Jvm.exec) (hZ : Z.Warmed39 s.vm) (hw : ∀ d ∈ tables_1, d.before a0_ Z = true) (hby : c.code = code) (hml : c.maxLocals = 7) (hown : s.vm.findClass "com/example/vedette/vedette/core/SubfieldIsDigitCodePinLaw" = some m.cls) (hret : meth.sig.returnType = some .boolean) {T0 : State} {locs : List Loc} {cells slots : Nat} {h0 : Heap} (i0 : Int32) (i1 : Int32) (a2 : Addr) (w_COMPACT_STRINGS : Int32) (w_coder_a2 : Int32) (w_value_a2 : Addr) (n_w_value_a2 : Int32) (A_w_value_a2 : Nat → Int32) (w_SIOOBE_FORMATTER : Value)
    (X0 : Stand p l e room_1 s m args below meth c T0 locs cells slots) (e0 : T0.heap = h0) (hcl : cells ≤ room_1.cells) (hsl : slots ≤ room_1.slots) (S_COMPACT_STRINGS : Sta Z h0 "java/lang/String" "COMPACT_STRINGS" "Z" (.int w_COMPACT_STRINGS)) (F_coder_a2 : Fld Z h0 a2 "java/lang/String" "coder" "B" (.int w_coder_a2)) (E_a2 : Exa Z h0 a2 "java/lang/String") (F_value_a2 : Fld Z h0 a2 "java/lang/String" "value" "[B" (.ref w_value_a2)) (V_w_value_a2 : own_Ar Z h0 w_value_a2 .byte n_w_value_a2 A_w_value_a2) (S_SIOOBE_FORMATTER : Sta Z h0 "jdk/internal/util/Preconditions" "SIOOBE_FORMATTER" "Ljava/util/function/BiFunction;" w_SIOOBE_FORMATTER) (r_w_SIOOBE_FORMATTER : w_SIOOBE_FORMATTER.isRef = true) (hI : ¬ w_COMPACT_STRINGS = 0 ∧ w_coder_a2 = 0 ∧ n_w_value_a2 = 10) :
    ∃ T', Stand p l e room_1 s m args below meth c T' locs cells slots ∧ T'.heap = h0 ∧ ∀ fs, (∀ (f : JFrame) (acts : List Action), f.method = m → f.locked = none → f.entered = [] → (doReturn e (T'.setTop f) acts (some (.int (own_f0_2 i0 i1 w_COMPACT_STRINGS w_coder_a2 n_w_value_a2 A_w_value_a2)))).1 = T'.setFrames fs) → Steps p.tables e below (T0.setTop (mkF m 2 #[.val (.int i0), .val (.int i1), .unset, .unset, .unset, .unset, .unset] [(.ref a2)])) (T'.setFrames fs) := by
  have pre1 : ∀ target, Steps p.tables e below (T0.setTop (mkF m 14 #[.val (.int i0), .val (.int i1), .val (.ref a2), .val (.int (i0.toUInt32.toUInt16.toUInt32.toInt32)), .val (.int ((i0.toUInt32.toUInt16.toUInt32.toInt32) - (48 : Int32))), .unset, .unset] [(.int ((i0.toUInt32.toUInt16.toUInt32.toInt32) - (48 : Int32)))])) target → Steps p.tables e below (T0.setTop (mkF m 2 #[.val (.int i0), .val (.int i1), .unset, .unset, .unset, .unset, .unset] [(.ref a2)])) target := by
    intro target kt
    show Steps p.tables e below (T0.setTop (mkF m 2 #[.val (.int i0), .val (.int i1), .unset, .unset, .unset, .unset, .unset] [(.ref a2)])) _
    refine XS.astoreN X0.here hx rfl (hb hby at_2) rfl rfl (l' := #[.val (.int i0), .val (.int i1), .val (.ref a2), .unset, .unset, .unset, .unset]) rfl ?_
    show Steps p.tables e below (T0.setTop (mkF m 3 #[.val (.int i0), .val (.int i1), .val (.ref a2), .unset, .unset, .unset, .unset] [])) _
    refine XS.iloadN X0.here hx rfl (hb hby at_3) rfl ?_
    show Steps p.tables e below (T0.setTop (mkF m 4 #[.val (.int i0), .val (.int i1), .val (.ref a2), .unset, .unset, .unset, .unset] [(.int i0)])) _
    refine XS.i2c X0.here hx rfl (hb hby at_4) rfl ?_
    show Steps p.tables e below (T0.setTop (mkF m 5 #[.val (.int i0), .val (.int i1), .val (.ref a2), .unset, .unset, .unset, .unset] [(.int (i0.toUInt32.toUInt16.toUInt32.toInt32))])) _
    refine XS.istoreN X0.here hx rfl (hb hby at_5) rfl (l' := #[.val (.int i0), .val (.int i1), .val (.ref a2), .val (.int (i0.toUInt32.toUInt16.toUInt32.toInt32)), .unset, .unset, .unset]) rfl ?_
    show Steps p.tables e below (T0.setTop (mkF m 6 #[.val (.int i0), .val (.int i1), .val (.ref a2), .val (.int (i0.toUInt32.toUInt16.toUInt32.toInt32)), .unset, .unset, .unset] [])) _
    refine XS.iloadN X0.here hx rfl (hb hby at_6) rfl ?_
    show Steps p.tables e below (T0.setTop (mkF m 7 #[.val (.int i0), .val (.int i1), .val (.ref a2), .val (.int (i0.toUInt32.toUInt16.toUInt32.toInt32)), .unset, .unset, .unset] [(.int (i0.toUInt32.toUInt16.toUInt32.toInt32))])) _
    refine XS.bipush X0.here hx rfl (hb hby at_7) ?_
    show Steps p.tables e below (T0.setTop (mkF m 9 #[.val (.int i0), .val (.int i1), .val (.ref a2), .val (.int (i0.toUInt32.toUInt16.toUInt32.toInt32)), .unset, .unset, .unset] [(.int (48 : Int32)), (.int (i0.toUInt32.toUInt16.toUInt32.toInt32))])) _
    refine XS.isub X0.here hx rfl (hb hby at_9) rfl ?_
    show Steps p.tables e below (T0.setTop (mkF m 10 #[.val (.int i0), .val (.int i1), .val (.ref a2), .val (.int (i0.toUInt32.toUInt16.toUInt32.toInt32)), .unset, .unset, .unset] [(.int ((i0.toUInt32.toUInt16.toUInt32.toInt32) - (48 : Int32)))])) _
    refine XS.istore X0.here hx rfl (hb hby at_10) rfl (l' := #[.val (.int i0), .val (.int i1), .val (.ref a2), .val (.int (i0.toUInt32.toUInt16.toUInt32.toInt32)), .val (.int ((i0.toUInt32.toUInt16.toUInt32.toInt32) - (48 : Int32))), .unset, .unset]) rfl ?_
    show Steps p.tables e below (T0.setTop (mkF m 12 #[.val (.int i0), .val (.int i1), .val (.ref a2), .val (.int (i0.toUInt32.toUInt16.toUInt32.toInt32)), .val (.int ((i0.toUInt32.toUInt16.toUInt32.toInt32) - (48 : Int32))), .unset, .unset] [])) _
    refine XS.iload X0.here hx rfl (hb hby at_12) rfl ?_
    exact kt
  by_cases hc14 : ((i0.toUInt32.toUInt16.toUInt32.toInt32) - (48 : Int32)) < (0 : Int32)
  · have pre2 : ∀ target, Steps p.tables e below (T0.setTop (mkF m 38 #[.val (.int i0), .val (.int i1), .val (.ref a2), .val (.int (i0.toUInt32.toUInt16.toUInt32.toInt32)), .val (.int ((i0.toUInt32.toUInt16.toUInt32.toInt32) - (48 : Int32))), .unset, .unset] [])) target → Steps p.tables e below (T0.setTop (mkF m 2 #[.val (.int i0), .val (.int i1), .unset, .unset, .unset, .unset, .unset] [(.ref a2)])) target := by
      intro target kt
      refine pre1 target ?_
      show Steps p.tables e below (T0.setTop (mkF m 14 #[.val (.int i0), .val (.int i1), .val (.ref a2), .val (.int (i0.toUInt32.toUInt16.toUInt32.toInt32)), .val (.int ((i0.toUInt32.toUInt16.toUInt32.toInt32) - (48 : Int32))), .unset, .unset] [(.int ((i0.toUInt32.toUInt16.toUInt32.toInt32) - (48 : Int32)))])) _
      refine XS.ifYes X0.here hx rfl (pc0 := 14) (pc' := 38) rfl (hb hby at_14) rfl ((if0 _ _).trans (tlt hc14).1) (by decide) (by decide) ?_
      exact kt
    have hI3 : ¬ w_COMPACT_STRINGS = 0 ∧ w_coder_a2 = 0 ∧ n_w_value_a2 = 10 := by exact hI
    obtain ⟨T3, X3, e3, st3⟩ := own_b0_38 hx hZ hw hby hml hown hret i0 i1 a2 (i0.toUInt32.toUInt16.toUInt32.toInt32) ((i0.toUInt32.toUInt16.toUInt32.toInt32) - (48 : Int32)) w_COMPACT_STRINGS w_coder_a2 w_value_a2 n_w_value_a2 A_w_value_a2 w_SIOOBE_FORMATTER X0 e0 hcl hsl S_COMPACT_STRINGS F_coder_a2 E_a2 F_value_a2 V_w_value_a2 S_SIOOBE_FORMATTER r_w_SIOOBE_FORMATTER hI3
    have hv : (own_f0_2 i0 i1 w_COMPACT_STRINGS w_coder_a2 n_w_value_a2 A_w_value_a2) = (own_f0_38 i0 i1 (i0.toUInt32.toUInt16.toUInt32.toInt32) ((i0.toUInt32.toUInt16.toUInt32.toInt32) - (48 : Int32)) w_COMPACT_STRINGS w_coder_a2 n_w_value_a2 A_w_value_a2) := by unfold own_f0_2; rw [if_pos hc14]
    exact ⟨T3, X3, e3, fun fs hr => pre2 _ (st3 fs (by rw [hv] at hr; exact hr))⟩
  · have pre4 : ∀ target, Steps p.tables e below (T0.setTop (mkF m 21 #[.val (.int i0), .val (.int i1), .val (.ref a2), .val (.int (i0.toUInt32.toUInt16.toUInt32.toInt32)), .val (.int ((i0.toUInt32.toUInt16.toUInt32.toInt32) - (48 : Int32))), .unset, .unset] [(.int (10 : Int32)), (.int ((i0.toUInt32.toUInt16.toUInt32.toInt32) - (48 : Int32)))])) target → Steps p.tables e below (T0.setTop (mkF m 2 #[.val (.int i0), .val (.int i1), .unset, .unset, .unset, .unset, .unset] [(.ref a2)])) target := by
      intro target kt
      refine pre1 target ?_
      show Steps p.tables e below (T0.setTop (mkF m 14 #[.val (.int i0), .val (.int i1), .val (.ref a2), .val (.int (i0.toUInt32.toUInt16.toUInt32.toInt32)), .val (.int ((i0.toUInt32.toUInt16.toUInt32.toInt32) - (48 : Int32))), .unset, .unset] [(.int ((i0.toUInt32.toUInt16.toUInt32.toInt32) - (48 : Int32)))])) _
      refine XS.ifNo X0.here hx rfl (hb hby at_14) rfl ((if0 _ _).trans (flt hc14).1) ?_
      show Steps p.tables e below (T0.setTop (mkF m 17 #[.val (.int i0), .val (.int i1), .val (.ref a2), .val (.int (i0.toUInt32.toUInt16.toUInt32.toInt32)), .val (.int ((i0.toUInt32.toUInt16.toUInt32.toInt32) - (48 : Int32))), .unset, .unset] [])) _
      refine XS.iload X0.here hx rfl (hb hby at_17) rfl ?_
      show Steps p.tables e below (T0.setTop (mkF m 19 #[.val (.int i0), .val (.int i1), .val (.ref a2), .val (.int (i0.toUInt32.toUInt16.toUInt32.toInt32)), .val (.int ((i0.toUInt32.toUInt16.toUInt32.toInt32) - (48 : Int32))), .unset, .unset] [(.int ((i0.toUInt32.toUInt16.toUInt32.toInt32) - (48 : Int32)))])) _
      refine XS.bipush X0.here hx rfl (hb hby at_19) ?_
      exact kt
    by_cases hc21 : ((i0.toUInt32.toUInt16.toUInt32.toInt32) - (48 : Int32)) < (10 : Int32)
    · have hJ5 : ¬ w_COMPACT_STRINGS = 0 ∧ w_coder_a2 = 0 ∧ ¬ ((i0.toUInt32.toUInt16.toUInt32.toInt32) - (48 : Int32)) < 0 ∧ ((i0.toUInt32.toUInt16.toUInt32.toInt32) - (48 : Int32)) < n_w_value_a2 := by exact own_cc hI hc14 hc21
      obtain ⟨cq5, kq5, q5a, q5b, q5c⟩ := isOf hZ e0 E_a2
      obtain ⟨_, _, ⟨T5, L5, k5, n5⟩, -, X5, ⟨Lc5, hQ5, l5, y5, z5⟩, st5⟩ := X0.virtualBack hx (y := (⟨"java/lang/String", "charAt", "(I)C"⟩ : MethodName)) (z := (⟨"java/lang/String", "charAt", "(I)C"⟩ : MethodName)) hown (mvT hZ (hw _ (List.mem_of_getElem? (i := 13) rfl))) (mvT hZ (hw _ (List.mem_of_getElem? (i := 14) rfl))) (notFace_of_selects (args := #[]) (mvT hZ (hw _ (List.mem_of_getElem? (i := 16) rfl)))) (mvT hZ (hw _ (List.mem_of_getElem? (i := 16) rfl))) (mvT hZ (hw _ (List.mem_of_getElem? (i := 15) rfl))) (by decide) (backOf (W := 0) (rm2 l Z a0_ hw [] a2 ((i0.toUInt32.toUInt16.toUInt32.toInt32) - (48 : Int32)) w_COMPACT_STRINGS w_coder_a2 w_value_a2 n_w_value_a2 A_w_value_a2 w_SIOOBE_FORMATTER h0 0 (Nat.zero_le _) S_COMPACT_STRINGS F_coder_a2 E_a2 F_value_a2 V_w_value_a2 S_SIOOBE_FORMATTER r_w_SIOOBE_FORMATTER hJ5) hZ (hw _ (List.mem_of_getElem? (i := 17) rfl)) (hw _ (List.mem_of_getElem? (i := 1) rfl)) (by decide) (by decide)) q5a q5c (g := (mkF m 27 #[.val (.int i0), .val (.int i1), .val (.ref a2), .val (.int (i0.toUInt32.toUInt16.toUInt32.toInt32)), .val (.int ((i0.toUInt32.toUInt16.toUInt32.toInt32) - (48 : Int32))), .unset, .unset] [(.int ((i0.toUInt32.toUInt16.toUInt32.toInt32) - (48 : Int32))), (.ref a2)])) rfl (by rw [hml]; rfl) (Steps.refl _) (argsL := [(.int ((i0.toUInt32.toUInt16.toUInt32.toInt32) - (48 : Int32)))]) (rest := []) (lenOf pd_0_1 rfl) rfl (by show 2 * 0 + _ ≤ _; exact Nat.le_of_eq rfl) (hb hby at_27) (fun _ _ => ⟨rfl, e0, hcl, hsl⟩)
      dsimp only [Pt.U, Pt.locs, Pt.cells, Pt.slots] at X5 l5 y5 z5 st5 hQ5
      subst l5 y5 z5
      obtain ⟨rfl, rfl, e5⟩ := hQ5
      rw [List.append_nil] at X5
      have pre6 : ∀ target, Steps p.tables e below (T5.setTop (mkF m 31 #[.val (.int i0), .val (.int i1), .val (.ref a2), .val (.int (i0.toUInt32.toUInt16.toUInt32.toInt32)), .val (.int ((i0.toUInt32.toUInt16.toUInt32.toInt32) - (48 : Int32))), .unset, .unset] [(.int (i0.toUInt32.toUInt16.toUInt32.toInt32)), (.int (own_f2_0 ((i0.toUInt32.toUInt16.toUInt32.toInt32) - (48 : Int32)) w_COMPACT_STRINGS w_coder_a2 n_w_value_a2 A_w_value_a2))])) target → Steps p.tables e below (T0.setTop (mkF m 2 #[.val (.int i0), .val (.int i1), .unset, .unset, .unset, .unset, .unset] [(.ref a2)])) target := by
        intro target kt
        refine pre4 target ?_
        show Steps p.tables e below (T0.setTop (mkF m 21 #[.val (.int i0), .val (.int i1), .val (.ref a2), .val (.int (i0.toUInt32.toUInt16.toUInt32.toInt32)), .val (.int ((i0.toUInt32.toUInt16.toUInt32.toInt32) - (48 : Int32))), .unset, .unset] [(.int (10 : Int32)), (.int ((i0.toUInt32.toUInt16.toUInt32.toInt32) - (48 : Int32)))])) _
        refine XS.icmpNo X0.here hx rfl (hb hby at_21) rfl (tlt hc21).2.1 ?_
        show Steps p.tables e below (T0.setTop (mkF m 24 #[.val (.int i0), .val (.int i1), .val (.ref a2), .val (.int (i0.toUInt32.toUInt16.toUInt32.toInt32)), .val (.int ((i0.toUInt32.toUInt16.toUInt32.toInt32) - (48 : Int32))), .unset, .unset] [])) _
        refine XS.aloadN X0.here hx rfl (hb hby at_24) rfl rfl ?_
        show Steps p.tables e below (T0.setTop (mkF m 25 #[.val (.int i0), .val (.int i1), .val (.ref a2), .val (.int (i0.toUInt32.toUInt16.toUInt32.toInt32)), .val (.int ((i0.toUInt32.toUInt16.toUInt32.toInt32) - (48 : Int32))), .unset, .unset] [(.ref a2)])) _
        refine XS.iload X0.here hx rfl (hb hby at_25) rfl ?_
        show Steps p.tables e below (T0.setTop (mkF m 27 #[.val (.int i0), .val (.int i1), .val (.ref a2), .val (.int (i0.toUInt32.toUInt16.toUInt32.toInt32)), .val (.int ((i0.toUInt32.toUInt16.toUInt32.toInt32) - (48 : Int32))), .unset, .unset] [(.int ((i0.toUInt32.toUInt16.toUInt32.toInt32) - (48 : Int32))), (.ref a2)])) _
        refine st5.trans ?_
        show Steps p.tables e below (T5.setTop (mkF m 30 #[.val (.int i0), .val (.int i1), .val (.ref a2), .val (.int (i0.toUInt32.toUInt16.toUInt32.toInt32)), .val (.int ((i0.toUInt32.toUInt16.toUInt32.toInt32) - (48 : Int32))), .unset, .unset] [(.int (own_f2_0 ((i0.toUInt32.toUInt16.toUInt32.toInt32) - (48 : Int32)) w_COMPACT_STRINGS w_coder_a2 n_w_value_a2 A_w_value_a2))])) _
        refine XS.iloadN X5.here hx rfl (hb hby at_30) rfl ?_
        exact kt
      by_cases hc31 : (own_f2_0 ((i0.toUInt32.toUInt16.toUInt32.toInt32) - (48 : Int32)) w_COMPACT_STRINGS w_coder_a2 n_w_value_a2 A_w_value_a2) = (i0.toUInt32.toUInt16.toUInt32.toInt32)
      · have pre7 : ∀ target, Steps p.tables e below (T5.setTop (mkF m 39 #[.val (.int i0), .val (.int i1), .val (.ref a2), .val (.int (i0.toUInt32.toUInt16.toUInt32.toInt32)), .val (.int ((i0.toUInt32.toUInt16.toUInt32.toInt32) - (48 : Int32))), .unset, .unset] [(.int (1 : Int32))])) target → Steps p.tables e below (T0.setTop (mkF m 2 #[.val (.int i0), .val (.int i1), .unset, .unset, .unset, .unset, .unset] [(.ref a2)])) target := by
          intro target kt
          refine pre6 target ?_
          show Steps p.tables e below (T5.setTop (mkF m 31 #[.val (.int i0), .val (.int i1), .val (.ref a2), .val (.int (i0.toUInt32.toUInt16.toUInt32.toInt32)), .val (.int ((i0.toUInt32.toUInt16.toUInt32.toInt32) - (48 : Int32))), .unset, .unset] [(.int (i0.toUInt32.toUInt16.toUInt32.toInt32)), (.int (own_f2_0 ((i0.toUInt32.toUInt16.toUInt32.toInt32) - (48 : Int32)) w_COMPACT_STRINGS w_coder_a2 n_w_value_a2 A_w_value_a2))])) _
          refine XS.icmpNo X5.here hx rfl (hb hby at_31) rfl (teq hc31).2 ?_
          show Steps p.tables e below (T5.setTop (mkF m 34 #[.val (.int i0), .val (.int i1), .val (.ref a2), .val (.int (i0.toUInt32.toUInt16.toUInt32.toInt32)), .val (.int ((i0.toUInt32.toUInt16.toUInt32.toInt32) - (48 : Int32))), .unset, .unset] [])) _
          refine XS.iconst X5.here hx rfl (hb hby at_34) ?_
          show Steps p.tables e below (T5.setTop (mkF m 35 #[.val (.int i0), .val (.int i1), .val (.ref a2), .val (.int (i0.toUInt32.toUInt16.toUInt32.toInt32)), .val (.int ((i0.toUInt32.toUInt16.toUInt32.toInt32) - (48 : Int32))), .unset, .unset] [(.int (1 : Int32))])) _
          refine XS.goto X5.here hx rfl (pc0 := 35) (pc' := 39) rfl (hb hby at_35) (by decide) (by decide) ?_
          exact kt
        have hI8 : ¬ w_COMPACT_STRINGS = 0 ∧ w_coder_a2 = 0 ∧ n_w_value_a2 = 10 := by exact hI
        obtain ⟨T8, X8, e8, st8⟩ := own_b0_39 hx hZ hw hby hml hown hret i0 i1 a2 (i0.toUInt32.toUInt16.toUInt32.toInt32) ((i0.toUInt32.toUInt16.toUInt32.toInt32) - (48 : Int32)) (1 : Int32) w_COMPACT_STRINGS w_coder_a2 w_value_a2 n_w_value_a2 A_w_value_a2 w_SIOOBE_FORMATTER X5 e5 hcl hsl S_COMPACT_STRINGS F_coder_a2 E_a2 F_value_a2 V_w_value_a2 S_SIOOBE_FORMATTER r_w_SIOOBE_FORMATTER hI8
        have hv : (own_f0_2 i0 i1 w_COMPACT_STRINGS w_coder_a2 n_w_value_a2 A_w_value_a2) = (own_f0_39 i0 i1 (i0.toUInt32.toUInt16.toUInt32.toInt32) ((i0.toUInt32.toUInt16.toUInt32.toInt32) - (48 : Int32)) (1 : Int32) w_COMPACT_STRINGS w_coder_a2 n_w_value_a2 A_w_value_a2) := by unfold own_f0_2; rw [if_neg hc14, if_pos hc21, if_pos hc31]
        exact ⟨T8, X8, e8, fun fs hr => pre7 _ (st8 fs (by rw [hv] at hr; exact hr))⟩
      · have pre9 : ∀ target, Steps p.tables e below (T5.setTop (mkF m 38 #[.val (.int i0), .val (.int i1), .val (.ref a2), .val (.int (i0.toUInt32.toUInt16.toUInt32.toInt32)), .val (.int ((i0.toUInt32.toUInt16.toUInt32.toInt32) - (48 : Int32))), .unset, .unset] [])) target → Steps p.tables e below (T0.setTop (mkF m 2 #[.val (.int i0), .val (.int i1), .unset, .unset, .unset, .unset, .unset] [(.ref a2)])) target := by
          intro target kt
          refine pre6 target ?_
          show Steps p.tables e below (T5.setTop (mkF m 31 #[.val (.int i0), .val (.int i1), .val (.ref a2), .val (.int (i0.toUInt32.toUInt16.toUInt32.toInt32)), .val (.int ((i0.toUInt32.toUInt16.toUInt32.toInt32) - (48 : Int32))), .unset, .unset] [(.int (i0.toUInt32.toUInt16.toUInt32.toInt32)), (.int (own_f2_0 ((i0.toUInt32.toUInt16.toUInt32.toInt32) - (48 : Int32)) w_COMPACT_STRINGS w_coder_a2 n_w_value_a2 A_w_value_a2))])) _
          refine XS.icmpYes X5.here hx rfl (pc0 := 31) (pc' := 38) rfl (hb hby at_31) rfl (feq hc31).2 (by decide) (by decide) ?_
          exact kt
        have hI10 : ¬ w_COMPACT_STRINGS = 0 ∧ w_coder_a2 = 0 ∧ n_w_value_a2 = 10 := by exact hI
        obtain ⟨T10, X10, e10, st10⟩ := own_b0_38 hx hZ hw hby hml hown hret i0 i1 a2 (i0.toUInt32.toUInt16.toUInt32.toInt32) ((i0.toUInt32.toUInt16.toUInt32.toInt32) - (48 : Int32)) w_COMPACT_STRINGS w_coder_a2 w_value_a2 n_w_value_a2 A_w_value_a2 w_SIOOBE_FORMATTER X5 e5 hcl hsl S_COMPACT_STRINGS F_coder_a2 E_a2 F_value_a2 V_w_value_a2 S_SIOOBE_FORMATTER r_w_SIOOBE_FORMATTER hI10
        have hv : (own_f0_2 i0 i1 w_COMPACT_STRINGS w_coder_a2 n_w_value_a2 A_w_value_a2) = (own_f0_38 i0 i1 (i0.toUInt32.toUInt16.toUInt32.toInt32) ((i0.toUInt32.toUInt16.toUInt32.toInt32) - (48 : Int32)) w_COMPACT_STRINGS w_coder_a2 n_w_value_a2 A_w_value_a2) := by unfold own_f0_2; rw [if_neg hc14, if_pos hc21, if_neg hc31]
        exact ⟨T10, X10, e10, fun fs hr => pre9 _ (st10 fs (by rw [hv] at hr; exact hr))⟩
    · have pre11 : ∀ target, Steps p.tables e below (T0.setTop (mkF m 38 #[.val (.int i0), .val (.int i1), .val (.ref a2), .val (.int (i0.toUInt32.toUInt16.toUInt32.toInt32)), .val (.int ((i0.toUInt32.toUInt16.toUInt32.toInt32) - (48 : Int32))), .unset, .unset] [])) target → Steps p.tables e below (T0.setTop (mkF m 2 #[.val (.int i0), .val (.int i1), .unset, .unset, .unset, .unset, .unset] [(.ref a2)])) target := by
        intro target kt
        refine pre4 target ?_
        show Steps p.tables e below (T0.setTop (mkF m 21 #[.val (.int i0), .val (.int i1), .val (.ref a2), .val (.int (i0.toUInt32.toUInt16.toUInt32.toInt32)), .val (.int ((i0.toUInt32.toUInt16.toUInt32.toInt32) - (48 : Int32))), .unset, .unset] [(.int (10 : Int32)), (.int ((i0.toUInt32.toUInt16.toUInt32.toInt32) - (48 : Int32)))])) _
        refine XS.icmpYes X0.here hx rfl (pc0 := 21) (pc' := 38) rfl (hb hby at_21) rfl (flt hc21).2.1 (by decide) (by decide) ?_
        exact kt
      have hI12 : ¬ w_COMPACT_STRINGS = 0 ∧ w_coder_a2 = 0 ∧ n_w_value_a2 = 10 := by exact hI
      obtain ⟨T12, X12, e12, st12⟩ := own_b0_38 hx hZ hw hby hml hown hret i0 i1 a2 (i0.toUInt32.toUInt16.toUInt32.toInt32) ((i0.toUInt32.toUInt16.toUInt32.toInt32) - (48 : Int32)) w_COMPACT_STRINGS w_coder_a2 w_value_a2 n_w_value_a2 A_w_value_a2 w_SIOOBE_FORMATTER X0 e0 hcl hsl S_COMPACT_STRINGS F_coder_a2 E_a2 F_value_a2 V_w_value_a2 S_SIOOBE_FORMATTER r_w_SIOOBE_FORMATTER hI12
      have hv : (own_f0_2 i0 i1 w_COMPACT_STRINGS w_coder_a2 n_w_value_a2 A_w_value_a2) = (own_f0_38 i0 i1 (i0.toUInt32.toUInt16.toUInt32.toInt32) ((i0.toUInt32.toUInt16.toUInt32.toInt32) - (48 : Int32)) w_COMPACT_STRINGS w_coder_a2 n_w_value_a2 A_w_value_a2) := by unfold own_f0_2; rw [if_neg hc14, if_neg hc21]
      exact ⟨T12, X12, e12, fun fs hr => pre11 _ (st12 fs (by rw [hv] at hr; exact hr))⟩
/-- what the constant's ten places hold -/
def own_dg : Nat → Int32 := fun k => if k < 10 then Int32.ofNat (48 + k) else 0
theorem own_nar : ∀ k : Fin 10, (nar .char (nar .char (((Int32.ofNat (48 + k.val)) &&& (255 : Int32)).toUInt32.toUInt16.toUInt32.toInt32))) = Int32.ofNat (48 + k.val) := by decide +kernel
theorem own_ch (z j : Int32) (hz : ¬ z = 0) (h0 : ¬ j < 0) (h1 : j < 10) : (own_f2_0 j z 0 10 own_dg).toInt = 48 + j.toInt := by
  have l0 : (0 : Int32).toInt = 0 := by decide +kernel
  have l10 : (10 : Int32).toInt = 10 := by decide +kernel
  rw [Int32.lt_iff_toInt_lt] at h0 h1
  have x : j.toNatClampNeg = j.toInt.toNat := rfl
  unfold own_f2_0
  rw [if_neg (own_lat hz rfl)]
  unfold own_f4_0
  rw [x]
  have e : own_dg j.toInt.toNat = Int32.ofNat (48 + j.toInt.toNat) := if_pos (by omega)
  rw [e, own_nar ⟨j.toInt.toNat, by omega⟩, Int32.toInt_ofNat_small (by show 48 + j.toInt.toNat < 2 ^ 31; omega)]
  show ((48 + j.toInt.toNat : Nat) : Int) = _
  omega
theorem own_val (i0 i1 z : Int32) (hz : ¬ z = 0) : own_f0_2 i0 i1 z 0 10 own_dg = 1 := by
  have l0 : (0 : Int32).toInt = 0 := by decide +kernel
  have l1 : (1 : Int32).toInt = 1 := by decide +kernel
  have l10 : (10 : Int32).toInt = 10 := by decide +kernel
  have l48 : (48 : Int32).toInt = 48 := by decide +kernel
  have l57 : (57 : Int32).toInt = 57 := by decide +kernel
  have dc : ∀ x : Int32, own_f1_0 x = if 48 ≤ x.toInt ∧ x.toInt ≤ 57 then 1 else 0 := fun x => by
    simp only [own_f1_0, Int32.lt_iff_toInt_lt, l48, l57]
    generalize x.toInt = y
    repeat' split
    all_goals first | rfl | omega
  have fin : ∀ (c u i4 : Int32), own_f1_0 c = u → own_f0_39 i0 i1 c i4 u z 0 10 own_dg = 1 := fun c u i4 h => by
    have q := own_cq (z := z) (cd := 0) (n := 10) ⟨hz, rfl, rfl⟩ i1
    have v := own_ch z _ hz q.2.2.1 q.2.2.2
    have q1 := q.2.2.1
    have q2 := q.2.2.2
    unfold own_f0_39
    generalize ((i1 &&& (2147483647 : Int32)) - ((i1 &&& (2147483647 : Int32)) / (10 : Int32)) * (10 : Int32)) = j at *
    rw [Int32.lt_iff_toInt_lt] at q1 q2
    have e : own_f1_0 (own_f2_0 j z 0 10 own_dg) = 1 := by rw [dc, if_pos (by omega)]
    rw [if_pos h, e, if_neg (by decide +kernel)]
    decide +kernel
  have rc := c_i2c i0
  unfold own_f0_2 own_f0_38
  generalize (i0.toUInt32.toUInt16.toUInt32.toInt32) = c at *
  have s := c_isub c 48
  have sr := rng32 (c - 48)
  rw [l48] at s
  have se : (c - 48).toInt = c.toInt - 48 := by omega
  by_cases c1 : (c - (48 : Int32)) < (0 : Int32)
  · rw [if_pos c1]
    rw [Int32.lt_iff_toInt_lt] at c1
    exact fin _ _ _ (by rw [dc, if_neg (by omega)])
  rw [if_neg c1]
  by_cases c2 : (c - (48 : Int32)) < (10 : Int32)
  · rw [if_pos c2]
    have v := own_ch z _ hz c1 c2
    rw [if_pos (Int32.toInt_inj.mp (by omega))]
    rw [Int32.lt_iff_toInt_lt] at c1 c2
    exact fin _ _ _ (by rw [dc, if_pos (by omega)])
  · rw [if_neg c2]
    rw [Int32.lt_iff_toInt_lt] at c1 c2
    exact fin _ _ _ (by rw [dc, if_neg (by omega)])
theorem own_arv {Z : State} {h : Heap} {b : Addr} {k : ClassId} (F : Arv Z h b k .byte 10 [.int 48, .int 49, .int 50, .int 51, .int 52, .int 53, .int 54, .int 55, .int 56, .int 57] (.int 0)) : own_Ar Z h b .byte 10 own_dg := by
  obtain ⟨c, A, -, S, N, H, -⟩ := F
  refine ⟨c, A, S, N, fun i hi => ?_⟩
  rw [H i hi]
  have x : (10 : Int32).toNatClampNeg = 10 := by decide +kernel
  rw [S, x] at hi
  have q : ∀ k : Fin 10, ([.int 48, .int 49, .int 50, .int 51, .int 52, .int 53, .int 54, .int 55, .int 56, .int 57] : List Value).getD k.val (.int 0) = .int (own_dg k.val) := by decide +kernel
  rw [q ⟨i, hi⟩]
set_option maxRecDepth 65536 in
set_option maxHeartbeats 40000000 in
theorem rm0 (l : Launch) (Z : State) (a0_ : Array Value) (hw : ∀ d ∈ tables_1, d.before a0_ Z = true) (ws : List Jvm.Cond) (i0 i1 z : Int32) (fm : Value) (hz : ¬ z = 0) (rf : fm.isRef = true) (S1 : Sta Z Z.heap "java/lang/String" "COMPACT_STRINGS" "Z" (.int z)) (S2 : Sta Z Z.heap "jdk/internal/util/Preconditions" "SIOOBE_FORMATTER" "Ljava/util/function/BiFunction;" fm)
    (hh : Jvm.Lit.constHeld Z "com/example/vedette/vedette/core/SubfieldIsDigitCodePinLaw" 7) (hcw : Jvm.Lit.compactW.before a0_ Z = true) :
    MetFree l x (head1 (Jvm.Cond.code x code maxLocals ret :: ws) room_1) (fun a U => a = #[(.int i0), (.int i1)] ∧ U = Z) (fun _ _ _ _ _ => True) (fun _ U o U' => o = .returned (some (.int 1)) ∧ ReturnedEndW U o U' [] room_1.cells room_1.slots) := by
  refine MetFree.of_bodySF (plainFor_of_name pn_0) hisR ?_
  intro p e s m args below meth c s₁ Bd hml0 hP hK
  obtain ⟨rfl, hs⟩ := hP
  subst hs
  have hx := Bd.exec
  have hby := Bd.bytes
  have hml : c.maxLocals = 7 := hml0
  have hown : s.vm.findClass "com/example/vedette/vedette/core/SubfieldIsDigitCodePinLaw" = some m.cls := findClass_of_methodNamed Bd.named
  have X0 : Stand p l e room_1 s m #[(.int i0), (.int i1)] below meth c s₁ [] 0 0 := Stand.of_body Bd
  have X0' : Stand p l e room_1 (s.setVm s.vm) m #[(.int i0), (.int i1)] below meth c s₁ [] 0 0 := by rw [State.setVm_self]; exact X0
  have e0 : s₁.heap = s.heap := by rw [Bd.state]; rfl
  have wS : ∀ d ∈ Bundle.stringAtoms, d.before a0_ s = true := fun d hd => hw d ((by decide +kernel : ∀ d ∈ Bundle.stringAtoms, d ∈ tables_1) d hd)
  have hS : s.Since s.vm s.heap.size := ⟨State.Warmed39.refl s, fun j q h1 h2 => absurd (Array.getElem?_eq_some_iff.mp h2).1 (Nat.not_lt.mpr h1)⟩
  obtain ⟨a, T1, h1, k1, b, kb, X1, e1, E1, hS1, hk1, hZ1, hown1, EA, FC, FV, AV, -, -, -, st1⟩ := ldcSV X0' hx (State.Warmed39.refl s) hown (hw _ (List.mem_of_getElem? (i := 0) rfl)) wS e0 hS (Nat.le_refl _) (Fr.nil _) (fun _ _ h => h) IB.start (List.not_mem_nil) hh hcw (vs := [.int 48, .int 49, .int 50, .int 51, .int 52, .int 53, .int 54, .int 55, .int 56, .int 57]) (z := 10) ⟨by decide +kernel, by decide +kernel⟩ (by decide +kernel) (by decide +kernel) (g := (mkF m 0 #[.val (.int i0), .val (.int i1), .unset, .unset, .unset, .unset, .unset] [])) rfl (hb hby at_0) (n := 40) (by decide +kernel) (by decide +kernel) (by decide +kernel) (by decide +kernel)
  obtain ⟨T', X', e', st'⟩ := own_b0_2 hx hZ1 hw hby hml hown1 Bd.returns i0 i1 a z 0 b 10 own_dg fm X1 e1 (by decide +kernel) (by decide +kernel) (S1.ext E1) FC EA FV (own_arv AV) (S2.ext E1) rf ⟨hz, rfl, rfl⟩
  obtain ⟨fs, hr, hrun, hended, hW⟩ := X'.leaveW hS1 (by rw [e']; exact hk1) (v := some (.int 1)) (fun h => by rw [Bd.returns] at h; cases h)
  rw [own_val i0 i1 z hz] at st'
  refine ⟨_, _, castTop (ef_0 m i0 i1) (st1 _ (st' fs hr)), hrun, hended, rfl, hW.1, hW.2.1, hW.2.2.1, hW.2.2.2.mono (by decide +kernel) (by decide +kernel)⟩
set_option maxRecDepth 65536 in
set_option maxHeartbeats 40000000 in
theorem comes_1 {Post : Tables → Env → Array Value → State → Outcome → State → Prop} (hpost : ∀ tb e args s v u, (limb_1_1.after args s (.returned v) u = true ∧ limb_1_2.after args s (.returned v) u = true ∧ True) → ReturnedEndW s (.returned v) u (Jvm.fieldLocs frame_1_writes args s ++ Jvm.arrayLocs frame_1_arrays args s ++ Jvm.staticLocs frame_1_statics s) 8 1088 → Post tb e args s (.returned v) u) :
    ArmFor flags0 classFile x code maxLocals ret World_1 tables_1 room_1 Calls_1 rest_1 Pre_1 Post := by
  intro l hfl _ _ p e ha hc hk s m args below hf hA hF happ hP
  obtain ⟨hcalls, hrest, hpre⟩ := hP
  obtain ⟨-, -, -, hnamed, -, -, -, hat⟩ := (Spec.applies_iff hf).mp happ
  obtain ⟨hg, hn⟩ := and_e (Cond.before_iff.mp (show (Jvm.Cond.and given_1 narrow_1).before args s = true from hpre))
  obtain ⟨hcount, hg⟩ := and_e hg
  obtain ⟨g0, g1⟩ := and_e hg
  obtain ⟨w0, w1, rfl⟩ : ∃ w0 w1 : Value, args = #[w0, w1] := by
    have hs : args.size = 2 := by simpa [Cond.value, given_1] using hcount
    obtain ⟨L⟩ := args
    match L, hs with
    | [w0, w1], _ => exact ⟨w0, w1, rfl⟩
  have hw := fun d (hd : d ∈ tables_1) => atoms_spec (ws := Jvm.Cond.code x code maxLocals ret :: tables_1) hat d (List.mem_cons_of_mem _ hd)
  obtain ⟨hsets, hown0⟩ := atoms_of _ (rest_1_c_eq ▸ (show rest_1_c.before _ s = true from hrest))
  have n5 := not_v (Cond.before_iff.mp (hsets _ (List.mem_of_getElem? (i := 2) rfl)))
  obtain ⟨i0, ei0⟩ := is_v g0
  obtain rfl : w0 = (.int i0) := Option.some.inj ei0
  obtain ⟨i1, ei1⟩ := is_v g1
  obtain rfl : w1 = (.int i1) := Option.some.inj ei1
  obtain ⟨z, ez⟩ := is_v (Cond.before_iff.mp (hsets _ (List.mem_of_getElem? (i := 1) rfl)))
  have S12 : Sta s s.heap "java/lang/String" "COMPACT_STRINGS" "Z" (.int z) := Sta.start ez (Or.inl (hsets _ (List.mem_of_getElem? (i := 0) rfl)))
  obtain ⟨fm, ef, rf⟩ := isR_v (Cond.before_iff.mp (hsets _ (List.mem_of_getElem? (i := 8) rfl)))
  have S16 : Sta s s.heap "jdk/internal/util/Preconditions" "SIOOBE_FORMATTER" "Ljava/util/function/BiFunction;" fm := Sta.start ef (Or.inl (hsets _ (List.mem_of_getElem? (i := 7) rfl)))
  have c17 : ¬ (z = (0 : Int32)) := gotF (Cond.eq_ints ez (Term.int_eval (0))) n5
  have hh : Jvm.Lit.constHeld s "com/example/vedette/vedette/core/SubfieldIsDigitCodePinLaw" 7 := hcalls.1 ("com/example/vedette/vedette/core/SubfieldIsDigitCodePinLaw", 7) (List.mem_singleton.mpr rfl)
  obtain ⟨n, o, h1, h2, h3, rfl, hq⟩ := rm0 l s _ hw tables_1 i0 i1 z fm c17 rf S12 S16 hh (hsets _ (List.mem_of_getElem? (i := 2) rfl)) p e ha hc hk s m _ below hf ((Spec.applies_iff_loose hf).mp happ).1 ⟨rfl, rfl⟩ trivial
  exact ⟨n, _, h1, h2, h3, hpost _ _ _ _ _ _ ⟨Cond.after_iff.mpr rfl, Cond.after_iff.mpr (eq_i res_at (Term.int_eval (1)) rfl), trivial⟩ hq⟩
theorem main_1_1 : Claimed_1_1 := comes_1 fun _ _ _ _ _ _ h hF => ⟨h.1, hF⟩
theorem main_1_2 : Claimed_1_2 := comes_1 fun _ _ _ _ _ _ h hF => ⟨h.2.1, hF⟩
end Jvm.Pilot.@@N@@
namespace Jvm.Pilot.@@N@@
open Jvm Jvm.ClassFile Sem Op Lib Jvm.Free Jvm.Stand Jvm.Pilot.@@N@@.Jvm.D
/-! MADE BY PROGRAM (witnessworld.py) out of the Statement's table words and the real class files: 18 classes; the members and pool entries that the words name. The judged class is class 1, her method 1. -/
namespace start1
open Jvm.ClassFile
def u (s : String) : CpInfo := .utf8 (stringToUtf16 s)
/-- a pool by its gaps: so many unusable entries, then the entry; so many at the end -/
def gap : Nat → List CpInfo → List CpInfo
  | 0, r => r
  | n + 1, r => .unusable :: gap n r
def poolList (es : List (Nat × CpInfo)) (last : Nat) : List CpInfo := es.foldr (fun e r => gap e.1 (e.2 :: r)) (gap last [])
def pool (es : List (Nat × CpInfo)) (last : Nat) : Array CpInfo := ⟨poolList es last⟩
def fileOf (pool : Array CpInfo) (this : Nat) (attrs : Array Attribute := #[]) (ms : Array MethodInfo := #[]) (fl : Nat := 33) (sup : Nat := 0) (ifs : Array Nat := #[]) (fds : Array FieldInfo := #[]) : ClassFile where
  minorVersion := 0
  majorVersion := 65
  constantPool := pool
  accessFlags := fl
  thisClass := this
  superClass := sup
  interfaces := ifs
  fields := fds
  methods := ms
  attributes := attrs
def plain (name : String) (sup : Option ClassId) : Class where
  name := name
  kind := .ordinary
  loader := none
  accessFlags := 33
  super := sup
  interfaces := #[]
  cf := none
  fields := #[]
  methods := #[]
  instanceTypes := #[]
  staticTypes := #[]
  resolved := #[]
  callSites := []
  init := .initialized
  statics := none
  mirror := none

def pool0 : Array CpInfo := pool [(5, u "<init>"), (0, u "()V"), (1, .class_ 10), (1, u "java/lang/Object")] 113

def k0m0 : Method := { name := "<init>", desc := "()V", sig := { parameters := [], returnType := none }, accessFlags := 1, code := none }
/-- java/lang/Object -/
def k0 : Class := { plain "java/lang/Object" none with
  accessFlags := 33
  interfaces := #[]
  cf := some (fileOf pool0 8 #[] #[{ accessFlags := 1, nameIndex := 5, descriptorIndex := 6, attributes := #[] }] 33 0 #[] #[])
  fields := #[]
  methods := #[k0m0]
  instanceTypes := #[]
  staticTypes := #[]
  resolved := Array.replicate 124 none
  statics := none }

def pool1 : Array CpInfo := pool [(2, .class_ 4), (1, u "java/lang/Object"), (0, u "<init>"), (0, u "()V"), (0, .string 8), (0, u "0123456789"), (0, .methodref 10 11), (0, .class_ 12), (0, .nameAndType 13 14), (0, u "java/lang/String"), (0, u "charAt"), (0, u "(I)C"), (0, .methodref 16 17), (0, .class_ 18), (0, .nameAndType 19 20), (0, u "com/example/vedette/vedette/core/Subfield"), (0, u "isDigitCode"), (0, u "(C)Z"), (0, .integer 2147483647), (0, .class_ 23), (0, u "com/example/vedette/vedette/core/SubfieldIsDigitCodePinLaw"), (2, u "law"), (0, u "(II)Z")] 3

def k1m0 : Method := { name := "<init>", desc := "()V", sig := { parameters := [], returnType := none }, accessFlags := 1, code := none }
def k1c1 : Code := { maxStack := 3, maxLocals := 7, code := code, exceptionTable := #[], attributes := #[] }
def k1m1 : Method := { name := "law", desc := "(II)Z", sig := { parameters := [.int, .int], returnType := some .boolean }, accessFlags := 9, code := some k1c1 }
/-- com/example/vedette/vedette/core/SubfieldIsDigitCodePinLaw -/
def k1 : Class := { plain "com/example/vedette/vedette/core/SubfieldIsDigitCodePinLaw" (some 0) with
  accessFlags := 49
  interfaces := #[]
  cf := some (fileOf pool1 22 #[] #[{ accessFlags := 1, nameIndex := 5, descriptorIndex := 6, attributes := #[] }, { accessFlags := 9, nameIndex := 26, descriptorIndex := 27, attributes := #[] }] 49 2 #[] #[])
  fields := #[]
  methods := #[k1m0, k1m1]
  instanceTypes := #[]
  staticTypes := #[]
  resolved := Array.replicate 31 none
  statics := none }

def pool2 : Array CpInfo := pool [(1, .class_ 2), (0, u "java/io/Serializable"), (0, .class_ 4), (0, u "java/lang/Object")] 2

/-- java/io/Serializable -/
def k2 : Class := { plain "java/io/Serializable" (some 0) with
  accessFlags := 1537
  interfaces := #[]
  cf := some (fileOf pool2 1 #[] #[] 1537 3 #[] #[])
  fields := #[]
  methods := #[]
  instanceTypes := #[]
  staticTypes := #[]
  resolved := Array.replicate 7 none
  statics := none }

def pool3 : Array CpInfo := pool [(1, .class_ 2), (0, u "java/lang/Comparable"), (0, .class_ 4), (0, u "java/lang/Object")] 7

/-- java/lang/Comparable -/
def k3 : Class := { plain "java/lang/Comparable" (some 0) with
  accessFlags := 1537
  interfaces := #[]
  cf := some (fileOf pool3 1 #[] #[] 1537 3 #[] #[])
  fields := #[]
  methods := #[]
  instanceTypes := #[]
  staticTypes := #[]
  resolved := Array.replicate 12 none
  statics := none }

def pool4 : Array CpInfo := pool [(2, .class_ 4), (1, u "java/lang/CharSequence"), (42, .class_ 48), (0, u "java/lang/CharSequence$1CodePointIterator"), (10, .class_ 60), (0, u "java/lang/CharSequence$1CharIterator"), (5, .class_ 67), (0, u "java/lang/Object")] 63

/-- java/lang/CharSequence -/
def k4 : Class := { plain "java/lang/CharSequence" (some 0) with
  accessFlags := 1537
  interfaces := #[]
  cf := some (fileOf pool4 2 #[.nestMembers #[47, 59]] #[] 1537 66 #[] #[])
  fields := #[]
  methods := #[]
  instanceTypes := #[]
  staticTypes := #[]
  resolved := Array.replicate 131 none
  statics := none }

def pool5 : Array CpInfo := pool [(1, .class_ 2), (0, u "java/lang/constant/Constable"), (0, .class_ 4), (0, u "java/lang/Object")] 6

/-- java/lang/constant/Constable -/
def k5 : Class := { plain "java/lang/constant/Constable" (some 0) with
  accessFlags := 1537
  interfaces := #[]
  cf := some (fileOf pool5 1 #[] #[] 1537 3 #[] #[])
  fields := #[]
  methods := #[]
  instanceTypes := #[]
  staticTypes := #[]
  resolved := Array.replicate 11 none
  statics := none }

def pool6 : Array CpInfo := pool [(1, .class_ 2), (0, u "java/lang/constant/ConstantDesc"), (0, .class_ 4), (0, u "java/lang/Object")] 32

/-- java/lang/constant/ConstantDesc -/
def k6 : Class := { plain "java/lang/constant/ConstantDesc" (some 0) with
  accessFlags := 1537
  interfaces := #[]
  cf := some (fileOf pool6 1 #[] #[] 1537 3 #[] #[])
  fields := #[]
  methods := #[]
  instanceTypes := #[]
  staticTypes := #[]
  resolved := Array.replicate 37 none
  statics := none }

def pool7 : Array CpInfo := pool [(2, .class_ 4), (1, u "java/lang/Object"), (0, u "<init>"), (0, u "()V"), (2, .fieldref 10 11), (0, .class_ 12), (0, .nameAndType 13 14), (0, u "java/lang/String"), (0, u "value"), (0, u "[B"), (0, .fieldref 10 16), (0, .nameAndType 17 18), (0, u "coder"), (0, u "B"), (2, u "hash"), (0, u "I"), (2, u "hashIsZero"), (0, u "Z"), (11, .fieldref 10 39), (0, .nameAndType 40 26), (0, u "COMPACT_STRINGS"), (66, .class_ 109), (1, u "java/lang/StringLatin1"), (32, u "()Z"), (220, u "([BI)C"), (27, u "(II)V"), (35, u "(I)C"), (64, .methodref 10 493), (0, .nameAndType 494 142), (0, u "isLatin1"), (0, .methodref 107 496), (0, .nameAndType 497 363), (0, u "charAt"), (3, u "checkIndex"), (73, .class_ 576), (0, u "java/lang/CharSequence"), (22, u "CASE_INSENSITIVE_ORDER"), (0, u "Ljava/util/Comparator;"), (452, .fieldref 1054 1055), (0, .class_ 1056), (0, .nameAndType 1057 1058), (0, u "jdk/internal/util/Preconditions"), (0, u "SIOOBE_FORMATTER"), (0, u "Ljava/util/function/BiFunction;"), (0, .methodref 1054 1060), (0, .nameAndType 501 1061), (0, u "(IILjava/util/function/BiFunction;)I"), (39, u "serialPersistentFields"), (0, u "[Ljava/io/ObjectStreamField;"), (0, .class_ 1104), (0, u "java/lang/String$CaseInsensitiveComparator"), (1, .class_ 1107), (0, u "java/io/Serializable"), (0, .class_ 1109), (0, u "java/lang/Comparable"), (0, .class_ 1111), (0, u "java/lang/constant/Constable"), (0, .class_ 1113), (0, u "java/lang/constant/ConstantDesc"), (2, u "serialVersionUID"), (0, u "J"), (3, u "REPL"), (0, u "C"), (2, u "LATIN1"), (1, u "UTF16")] 323

def k7m0 : Method := { name := "<init>", desc := "()V", sig := { parameters := [], returnType := none }, accessFlags := 1, code := none }
def k7c1 : Code := { maxStack := 2, maxLocals := 2, code := jdk_42_method_56_code, exceptionTable := #[], attributes := #[] }
def k7m1 : Method := { name := "charAt", desc := "(I)C", sig := { parameters := [.int], returnType := some .char }, accessFlags := 1, code := some k7c1 }
def k7c2 : Code := { maxStack := 1, maxLocals := 1, code := jdk_42_method_154_code, exceptionTable := #[], attributes := #[] }
def k7m2 : Method := { name := "isLatin1", desc := "()Z", sig := { parameters := [], returnType := some .boolean }, accessFlags := 0, code := some k7c2 }
def k7c3 : Code := { maxStack := 3, maxLocals := 2, code := jdk_42_method_155_code, exceptionTable := #[], attributes := #[] }
def k7m3 : Method := { name := "checkIndex", desc := "(II)V", sig := { parameters := [.int, .int], returnType := none }, accessFlags := 8, code := some k7c3 }
/-- java/lang/String -/
def k7 : Class := { plain "java/lang/String" (some 0) with
  accessFlags := 49
  interfaces := #[2, 3, 4, 5, 6]
  cf := some (fileOf pool7 10 #[.nestMembers #[1103]] #[{ accessFlags := 1, nameIndex := 5, descriptorIndex := 6, attributes := #[] }, { accessFlags := 1, nameIndex := 497, descriptorIndex := 427, attributes := #[] }, { accessFlags := 0, nameIndex := 494, descriptorIndex := 142, attributes := #[] }, { accessFlags := 8, nameIndex := 501, descriptorIndex := 391, attributes := #[] }] 49 2 #[1106, 1108, 575, 1110, 1112] #[{ accessFlags := 18, nameIndex := 13, descriptorIndex := 14, attributes := #[] }, { accessFlags := 18, nameIndex := 17, descriptorIndex := 18, attributes := #[] }, { accessFlags := 2, nameIndex := 21, descriptorIndex := 22, attributes := #[] }, { accessFlags := 2, nameIndex := 25, descriptorIndex := 26, attributes := #[] }, { accessFlags := 26, nameIndex := 1116, descriptorIndex := 1117, attributes := #[] }, { accessFlags := 24, nameIndex := 40, descriptorIndex := 26, attributes := #[] }, { accessFlags := 26, nameIndex := 1101, descriptorIndex := 1102, attributes := #[] }, { accessFlags := 26, nameIndex := 1121, descriptorIndex := 1122, attributes := #[] }, { accessFlags := 25, nameIndex := 599, descriptorIndex := 600, attributes := #[] }, { accessFlags := 24, nameIndex := 1125, descriptorIndex := 18, attributes := #[] }, { accessFlags := 24, nameIndex := 1127, descriptorIndex := 18, attributes := #[] }])
  fields := #[{ name := "value", type := (.array .byte), accessFlags := 18, slot := 0, constantValue := 0 }, { name := "coder", type := .byte, accessFlags := 18, slot := 1, constantValue := 0 }, { name := "hash", type := .int, accessFlags := 2, slot := 2, constantValue := 0 }, { name := "hashIsZero", type := .boolean, accessFlags := 2, slot := 3, constantValue := 0 }, { name := "serialVersionUID", type := .long, accessFlags := 26, slot := 0, constantValue := 0 }, { name := "COMPACT_STRINGS", type := .boolean, accessFlags := 24, slot := 1, constantValue := 0 }, { name := "serialPersistentFields", type := (.array (.object "java/io/ObjectStreamField")), accessFlags := 26, slot := 2, constantValue := 0 }, { name := "REPL", type := .char, accessFlags := 26, slot := 3, constantValue := 0 }, { name := "CASE_INSENSITIVE_ORDER", type := (.object "java/util/Comparator"), accessFlags := 25, slot := 4, constantValue := 0 }, { name := "LATIN1", type := .byte, accessFlags := 24, slot := 5, constantValue := 0 }, { name := "UTF16", type := .byte, accessFlags := 24, slot := 6, constantValue := 0 }]
  methods := #[k7m0, k7m1, k7m2, k7m3]
  instanceTypes := #[(.array .byte), .byte, .int, .boolean]
  staticTypes := #[.long, .boolean, (.array (.object "java/io/ObjectStreamField")), .char, (.object "java/util/Comparator"), .byte, .byte]
  resolved := Array.replicate 1451 none
  statics := some 0 }

def pool8 : Array CpInfo := pool [(2, .class_ 4), (1, u "java/lang/Object"), (0, u "<init>"), (0, u "()V"), (0, .class_ 8), (0, u "java/lang/Record")] 13

def k8m0 : Method := { name := "<init>", desc := "()V", sig := { parameters := [], returnType := none }, accessFlags := 4, code := none }
/-- java/lang/Record -/
def k8 : Class := { plain "java/lang/Record" (some 0) with
  accessFlags := 1057
  interfaces := #[]
  cf := some (fileOf pool8 7 #[] #[{ accessFlags := 4, nameIndex := 5, descriptorIndex := 6, attributes := #[] }] 1057 2 #[] #[])
  fields := #[]
  methods := #[k8m0]
  instanceTypes := #[]
  staticTypes := #[]
  resolved := Array.replicate 22 none
  statics := none }

def pool9 : Array CpInfo := pool [(2, .class_ 4), (1, u "java/lang/Record"), (3, .class_ 10), (1, u "com/example/vedette/vedette/core/Subfield"), (0, u "code"), (0, u "C"), (2, u "value"), (0, u "Ljava/lang/String;"), (22, u "isDigitCode"), (0, u "(C)Z")] 33

def k9c0 : Code := { maxStack := 2, maxLocals := 1, code := prog_48_method_3_code, exceptionTable := #[], attributes := #[] }
def k9m0 : Method := { name := "isDigitCode", desc := "(C)Z", sig := { parameters := [.char], returnType := some .boolean }, accessFlags := 9, code := some k9c0 }
/-- com/example/vedette/vedette/core/Subfield -/
def k9 : Class := { plain "com/example/vedette/vedette/core/Subfield" (some 8) with
  accessFlags := 49
  interfaces := #[]
  cf := some (fileOf pool9 8 #[] #[{ accessFlags := 9, nameIndex := 39, descriptorIndex := 40, attributes := #[] }] 49 2 #[] #[{ accessFlags := 18, nameIndex := 11, descriptorIndex := 12, attributes := #[] }, { accessFlags := 18, nameIndex := 15, descriptorIndex := 16, attributes := #[] }])
  fields := #[{ name := "code", type := .char, accessFlags := 18, slot := 0, constantValue := 0 }, { name := "value", type := (.object "java/lang/String"), accessFlags := 18, slot := 1, constantValue := 0 }]
  methods := #[k9m0]
  instanceTypes := #[.char, (.object "java/lang/String")]
  staticTypes := #[]
  resolved := Array.replicate 74 none
  statics := none }

def pool10 : Array CpInfo := pool [(1, .class_ 2), (0, u "java/lang/String"), (1, .class_ 6), (1, u "java/lang/Object"), (0, u "<init>"), (0, u "()V"), (0, .methodref 1 10), (0, .nameAndType 11 12), (0, u "checkIndex"), (0, u "(II)V"), (1, .class_ 16), (1, u "java/lang/StringLatin1"), (36, u "([BI)C"), (67, u "$assertionsDisabled"), (0, u "Z"), (98, .class_ 223), (1, u "java/lang/StringLatin1$LinesSpliterator"), (28, u "charAt"), (137, .class_ 391), (0, u "java/lang/StringLatin1$CharsSpliterator")] 3

def k10m0 : Method := { name := "<init>", desc := "()V", sig := { parameters := [], returnType := none }, accessFlags := 0, code := none }
def k10c1 : Code := { maxStack := 2, maxLocals := 2, code := jdk_43_method_2_code, exceptionTable := #[], attributes := #[] }
def k10m1 : Method := { name := "charAt", desc := "([BI)C", sig := { parameters := [(.array .byte), .int], returnType := some .char }, accessFlags := 9, code := some k10c1 }
/-- java/lang/StringLatin1 -/
def k10 : Class := { plain "java/lang/StringLatin1" (some 0) with
  accessFlags := 48
  interfaces := #[]
  cf := some (fileOf pool10 14 #[.nestMembers #[390, 221]] #[{ accessFlags := 0, nameIndex := 7, descriptorIndex := 8, attributes := #[] }, { accessFlags := 9, nameIndex := 252, descriptorIndex := 53, attributes := #[] }] 48 4 #[] #[{ accessFlags := 4120, nameIndex := 121, descriptorIndex := 122, attributes := #[] }])
  fields := #[{ name := "$assertionsDisabled", type := .boolean, accessFlags := 4120, slot := 0, constantValue := 0 }]
  methods := #[k10m0, k10m1]
  instanceTypes := #[]
  staticTypes := #[.boolean]
  resolved := Array.replicate 395 none
  statics := none }

def pool11 : Array CpInfo := pool [(2, .class_ 4), (1, u "java/lang/Object"), (0, u "<init>"), (0, u "()V"), (17, .class_ 26), (1, u "jdk/internal/util/Preconditions"), (6, u "checkIndex"), (21, .class_ 56), (0, u "jdk/internal/util/Preconditions$4"), (57, .class_ 115), (0, u "jdk/internal/util/Preconditions$1"), (7, u "SIOOBE_FORMATTER"), (0, u "Ljava/util/function/BiFunction;"), (0, .class_ 126), (0, u "jdk/internal/util/Preconditions$2"), (3, u "AIOOBE_FORMATTER"), (0, .class_ 132), (0, u "jdk/internal/util/Preconditions$3"), (3, u "IOOBE_FORMATTER"), (41, u "(IILjava/util/function/BiFunction;)I")] 15

def k11m0 : Method := { name := "<init>", desc := "()V", sig := { parameters := [], returnType := none }, accessFlags := 1, code := none }
def k11c1 : Code := { maxStack := 3, maxLocals := 3, code := jdk_41_method_11_code, exceptionTable := #[], attributes := #[] }
def k11m1 : Method := { name := "checkIndex", desc := "(IILjava/util/function/BiFunction;)I", sig := { parameters := [.int, .int, (.object "java/util/function/BiFunction")], returnType := some .int }, accessFlags := 9, code := some k11c1 }
/-- jdk/internal/util/Preconditions -/
def k11 : Class := { plain "jdk/internal/util/Preconditions" (some 0) with
  accessFlags := 33
  interfaces := #[]
  cf := some (fileOf pool11 24 #[.nestMembers #[55, 131, 125, 114]] #[{ accessFlags := 1, nameIndex := 5, descriptorIndex := 6, attributes := #[] }, { accessFlags := 9, nameIndex := 33, descriptorIndex := 178, attributes := #[] }] 33 2 #[] #[{ accessFlags := 25, nameIndex := 123, descriptorIndex := 124, attributes := #[] }, { accessFlags := 25, nameIndex := 130, descriptorIndex := 124, attributes := #[] }, { accessFlags := 25, nameIndex := 136, descriptorIndex := 124, attributes := #[] }])
  fields := #[{ name := "SIOOBE_FORMATTER", type := (.object "java/util/function/BiFunction"), accessFlags := 25, slot := 0, constantValue := 0 }, { name := "AIOOBE_FORMATTER", type := (.object "java/util/function/BiFunction"), accessFlags := 25, slot := 1, constantValue := 0 }, { name := "IOOBE_FORMATTER", type := (.object "java/util/function/BiFunction"), accessFlags := 25, slot := 2, constantValue := 0 }]
  methods := #[k11m0, k11m1]
  instanceTypes := #[]
  staticTypes := #[(.object "java/util/function/BiFunction"), (.object "java/util/function/BiFunction"), (.object "java/util/function/BiFunction")]
  resolved := Array.replicate 194 none
  statics := some 1 }

def pool12 : Array CpInfo := pool [(9, u "<init>"), (6, .class_ 18), (1, u "java/lang/Object"), (0, u "()V"), (1, .class_ 23), (1, u "jdk/internal/util/ArraysSupport"), (0, u "LOG2_ARRAY_LONG_INDEX_SCALE"), (0, u "I"), (2, u "U"), (0, u "Ljdk/internal/misc/Unsafe;"), (8, u "BIG_ENDIAN"), (0, u "Z"), (8, u "LOG2_BYTE_BIT_SIZE"), (4, u "LOG2_ARRAY_INT_INDEX_SCALE"), (54, u "JLA"), (0, u "Ljdk/internal/access/JavaLangAccess;"), (11, u "LOG2_ARRAY_BOOLEAN_INDEX_SCALE"), (9, u "LOG2_ARRAY_BYTE_INDEX_SCALE"), (5, u "LOG2_ARRAY_CHAR_INDEX_SCALE"), (5, u "LOG2_ARRAY_SHORT_INDEX_SCALE"), (18, u "LOG2_ARRAY_FLOAT_INDEX_SCALE"), (24, u "LOG2_ARRAY_DOUBLE_INDEX_SCALE"), (89, u "T_BOOLEAN"), (2, u "T_CHAR"), (1, u "T_FLOAT"), (1, u "T_DOUBLE"), (1, u "T_BYTE"), (1, u "T_SHORT"), (1, u "T_INT"), (1, u "T_LONG"), (1, u "SOFT_MAX_ARRAY_LENGTH")] 83

def k12m0 : Method := { name := "<init>", desc := "()V", sig := { parameters := [], returnType := none }, accessFlags := 2, code := none }
/-- jdk/internal/util/ArraysSupport -/
def k12 : Class := { plain "jdk/internal/util/ArraysSupport" (some 0) with
  accessFlags := 33
  interfaces := #[]
  cf := some (fileOf pool12 21 #[] #[{ accessFlags := 2, nameIndex := 9, descriptorIndex := 19, attributes := #[] }] 33 16 #[] #[{ accessFlags := 24, nameIndex := 28, descriptorIndex := 29, attributes := #[] }, { accessFlags := 26, nameIndex := 38, descriptorIndex := 39, attributes := #[] }, { accessFlags := 25, nameIndex := 121, descriptorIndex := 25, attributes := #[] }, { accessFlags := 25, nameIndex := 131, descriptorIndex := 25, attributes := #[] }, { accessFlags := 25, nameIndex := 137, descriptorIndex := 25, attributes := #[] }, { accessFlags := 25, nameIndex := 143, descriptorIndex := 25, attributes := #[] }, { accessFlags := 25, nameIndex := 53, descriptorIndex := 25, attributes := #[] }, { accessFlags := 25, nameIndex := 24, descriptorIndex := 25, attributes := #[] }, { accessFlags := 25, nameIndex := 162, descriptorIndex := 25, attributes := #[] }, { accessFlags := 25, nameIndex := 187, descriptorIndex := 25, attributes := #[] }, { accessFlags := 26, nameIndex := 48, descriptorIndex := 25, attributes := #[] }, { accessFlags := 25, nameIndex := 277, descriptorIndex := 25, attributes := #[] }, { accessFlags := 25, nameIndex := 280, descriptorIndex := 25, attributes := #[] }, { accessFlags := 25, nameIndex := 282, descriptorIndex := 25, attributes := #[] }, { accessFlags := 25, nameIndex := 284, descriptorIndex := 25, attributes := #[] }, { accessFlags := 25, nameIndex := 286, descriptorIndex := 25, attributes := #[] }, { accessFlags := 25, nameIndex := 288, descriptorIndex := 25, attributes := #[] }, { accessFlags := 25, nameIndex := 290, descriptorIndex := 25, attributes := #[] }, { accessFlags := 25, nameIndex := 292, descriptorIndex := 25, attributes := #[] }, { accessFlags := 26, nameIndex := 108, descriptorIndex := 109, attributes := #[] }, { accessFlags := 25, nameIndex := 294, descriptorIndex := 25, attributes := #[] }])
  fields := #[{ name := "U", type := (.object "jdk/internal/misc/Unsafe"), accessFlags := 24, slot := 0, constantValue := 0 }, { name := "BIG_ENDIAN", type := .boolean, accessFlags := 26, slot := 1, constantValue := 0 }, { name := "LOG2_ARRAY_BOOLEAN_INDEX_SCALE", type := .int, accessFlags := 25, slot := 2, constantValue := 0 }, { name := "LOG2_ARRAY_BYTE_INDEX_SCALE", type := .int, accessFlags := 25, slot := 3, constantValue := 0 }, { name := "LOG2_ARRAY_CHAR_INDEX_SCALE", type := .int, accessFlags := 25, slot := 4, constantValue := 0 }, { name := "LOG2_ARRAY_SHORT_INDEX_SCALE", type := .int, accessFlags := 25, slot := 5, constantValue := 0 }, { name := "LOG2_ARRAY_INT_INDEX_SCALE", type := .int, accessFlags := 25, slot := 6, constantValue := 0 }, { name := "LOG2_ARRAY_LONG_INDEX_SCALE", type := .int, accessFlags := 25, slot := 7, constantValue := 0 }, { name := "LOG2_ARRAY_FLOAT_INDEX_SCALE", type := .int, accessFlags := 25, slot := 8, constantValue := 0 }, { name := "LOG2_ARRAY_DOUBLE_INDEX_SCALE", type := .int, accessFlags := 25, slot := 9, constantValue := 0 }, { name := "LOG2_BYTE_BIT_SIZE", type := .int, accessFlags := 26, slot := 10, constantValue := 0 }, { name := "T_BOOLEAN", type := .int, accessFlags := 25, slot := 11, constantValue := 0 }, { name := "T_CHAR", type := .int, accessFlags := 25, slot := 12, constantValue := 0 }, { name := "T_FLOAT", type := .int, accessFlags := 25, slot := 13, constantValue := 0 }, { name := "T_DOUBLE", type := .int, accessFlags := 25, slot := 14, constantValue := 0 }, { name := "T_BYTE", type := .int, accessFlags := 25, slot := 15, constantValue := 0 }, { name := "T_SHORT", type := .int, accessFlags := 25, slot := 16, constantValue := 0 }, { name := "T_INT", type := .int, accessFlags := 25, slot := 17, constantValue := 0 }, { name := "T_LONG", type := .int, accessFlags := 25, slot := 18, constantValue := 0 }, { name := "JLA", type := (.object "jdk/internal/access/JavaLangAccess"), accessFlags := 26, slot := 19, constantValue := 0 }, { name := "SOFT_MAX_ARRAY_LENGTH", type := .int, accessFlags := 25, slot := 20, constantValue := 0 }]
  methods := #[k12m0]
  instanceTypes := #[]
  staticTypes := #[(.object "jdk/internal/misc/Unsafe"), .boolean, .int, .int, .int, .int, .int, .int, .int, .int, .int, .int, .int, .int, .int, .int, .int, .int, .int, (.object "jdk/internal/access/JavaLangAccess"), .int]
  resolved := Array.replicate 378 none
  statics := none }

def pool13 : Array CpInfo := pool [(1, u "java/lang/Cloneable"), (0, .class_ 1), (0, u "java/lang/Object"), (0, .class_ 3)] 3

/-- java/lang/Cloneable -/
def k13 : Class := { plain "java/lang/Cloneable" (some 0) with
  accessFlags := 1537
  interfaces := #[]
  cf := some (fileOf pool13 2 #[] #[] 1537 4 #[] #[])
  fields := #[]
  methods := #[]
  instanceTypes := #[]
  staticTypes := #[]
  resolved := Array.replicate 8 none
  statics := none }

/-- the primitive byte -/
def k14 : Class := { plain "byte" none with kind := .primitive 'B', accessFlags := 0x411 }
/-- [B -/
def k15 : Class := { plain "[B" (some 0) with kind := .array 14 .byte, interfaces := #[13, 2], accessFlags := 1041 }

/-- the primitive int -/
def k16 : Class := { plain "int" none with kind := .primitive 'I', accessFlags := 0x411 }
/-- [I -/
def k17 : Class := { plain "[I" (some 0) with kind := .array 16 .int, interfaces := #[13, 2], accessFlags := 1041 }

def heap : Heap := #[{ cls := 7, slots := #[.long 0, .int 1, .null, .int 0, .null, .int 0, .int 0], vm := .statics 7 },
  { cls := 11, slots := #[.null, .null, .null], vm := .statics 11 }]
def classes : Array Class := #[k0, k1, k2, k3, k4, k5, k6, k7, k8, k9, k10, k11, k12, k13, k14, k15, k16, k17]
def interned : List (Array UInt16 × Addr) := []
def slotsUsed : Nat := 10
def theMethod : MethodId := ⟨1, 1⟩
def args0 : Array Value := #[.int 5, .int 6]
def aboutOver (below : List Frame) : State where
  vm := { classes := classes, interned := interned.toArray }
  heap := heap
  slotsUsed := slotsUsed
  threads := #[{ frames := .invoking theMethod args0 :: below }]
def below0 : List Frame := [.native { method := ⟨0, 0⟩, args := #[] }]
def about1 : State := aboutOver below0
def p0 : Program := .bare "" "" ""
def e0 : Env := launch0.env 0 0 0
theorem w_frames : about1.frames = Frame.invoking theMethod args0 :: below0 := rfl
set_option maxRecDepth 65536 in
theorem w_args : argsFit about1.vm theMethod args0 = true := by decide +kernel
set_option maxRecDepth 65536 in
theorem w_heap : heapFits about1 = true := by decide +kernel
set_option maxRecDepth 65536 in
theorem w_runnable : about1.curStatus? = some .runnable := by decide +kernel
set_option maxRecDepth 65536 in
theorem w_alone : about1.alone = true := by decide +kernel
set_option maxRecDepth 65536 in
theorem w_named : about1.methodNamed? x = some theMethod := by decide +kernel
set_option maxRecDepth 65536 in
theorem w_hears : about1.hears theMethod below0 = true := by decide +kernel
set_option maxRecDepth 65536 in
theorem w_ripe : about1.ripe theMethod args0 below0 = true := by decide +kernel
theorem w_running : about1.status = .running := rfl
set_option maxRecDepth 65536 in
theorem w_room : about1.hasRoom e0.platform room_1 = true :=
  launch0.hasRoom_least _ room_1 (by decide +kernel) (by decide +kernel) (by decide +kernel) (by decide +kernel) (by decide +kernel) (by decide +kernel)
theorem allAtoms_all (ts : List Jvm.Cond) (a : Array Jvm.Value) (st : Jvm.State) : (allAtoms ts).before a st = ts.all (fun c => c.before a st) := by
  induction ts with
  | nil => rfl
  | cons c t ih =>
    show (Jvm.Cond.and c (allAtoms t)).before a st = _
    rw [Jvm.Cond.before_and, ih, List.all_cons]
def words1 : List Jvm.Cond := Jvm.Cond.code x code maxLocals ret :: tables_1
/-- a 'code' word, met by the world's own term for the bytes: nothing is compared byte by byte -/
theorem code_word {y : MethodName} {bytes : ByteArray} {mx : Nat} {rt : Option FieldType} {a : Array Value} {s : State} {m : MethodId} {meth : Method} {c : Code} (h1 : s.methodNamed? y = some m) (h2 : s.vm.method? m = some meth) (h3 : meth.code = some c) (h4 : c.code = bytes)
    (h5 : (c.maxLocals == mx && c.exceptionTable.isEmpty && decide (c.maxStack ≤ mostOperands) && decide (meth.sig.returnType = rt) && !meth.locks && decide (parseMethodDescriptor y.desc = some meth.sig)) = true) : (Jvm.Cond.code y bytes mx rt).before a s = true := by
  simp only [Bool.and_eq_true, beq_iff_eq, Bool.not_eq_true', decide_eq_true_eq] at h5
  obtain ⟨⟨⟨⟨⟨g1, g2⟩, g3⟩, g4⟩, g5⟩, g6⟩ := h5
  simp [Cond.before, Cond.holds, Cond.value, h1, h2, h3, h4, g1, g2, g3, g4, g5, g6]
def isCode : Jvm.Cond → Bool
  | .code _ _ _ _ => true
  | _ => false
theorem all_split {L : List Jvm.Cond} {P : Jvm.Cond → Bool} (h1 : L.all (fun c => isCode c || P c) = true) (h2 : ∀ c ∈ L.filter isCode, P c = true) : L.all P = true := by
  refine List.all_eq_true.mpr fun c hc => ?_
  have h := List.all_eq_true.mp h1 c hc
  rcases Bool.eq_false_or_eq_true (isCode c) with hi | hi
  · exact h2 c (List.mem_filter.mpr ⟨hc, hi⟩)
  · simpa [hi] using h
set_option maxRecDepth 65536 in
theorem w_c0 : (Jvm.Cond.code x code maxLocals ret).before args0 about1 = true := code_word (m := ⟨1, 1⟩) (meth := k1m1) (c := k1c1) (by decide +kernel) rfl rfl rfl (by decide +kernel)
set_option maxRecDepth 65536 in
theorem w_c1 : (Jvm.Cond.code ({ cls := "com/example/vedette/vedette/core/Subfield", name := "isDigitCode", desc := "(C)Z" } : Jvm.MethodName) prog_48_method_3_code (1 : Nat) (Option.some Jvm.ClassFile.FieldType.boolean)).before args0 about1 = true := code_word (m := ⟨9, 0⟩) (meth := k9m0) (c := k9c0) (by decide +kernel) rfl rfl rfl (by decide +kernel)
set_option maxRecDepth 65536 in
theorem w_c2 : (Jvm.Cond.code ({ cls := "java/lang/String", name := "charAt", desc := "(I)C" } : Jvm.MethodName) jdk_42_method_56_code (2 : Nat) (Option.some Jvm.ClassFile.FieldType.char)).before args0 about1 = true := code_word (m := ⟨7, 1⟩) (meth := k7m1) (c := k7c1) (by decide +kernel) rfl rfl rfl (by decide +kernel)
set_option maxRecDepth 65536 in
theorem w_c3 : (Jvm.Cond.code ({ cls := "java/lang/String", name := "isLatin1", desc := "()Z" } : Jvm.MethodName) jdk_42_method_154_code (1 : Nat) (Option.some Jvm.ClassFile.FieldType.boolean)).before args0 about1 = true := code_word (m := ⟨7, 2⟩) (meth := k7m2) (c := k7c2) (by decide +kernel) rfl rfl rfl (by decide +kernel)
set_option maxRecDepth 65536 in
theorem w_c4 : (Jvm.Cond.code ({ cls := "java/lang/StringLatin1", name := "charAt", desc := "([BI)C" } : Jvm.MethodName) jdk_43_method_2_code (2 : Nat) (Option.some Jvm.ClassFile.FieldType.char)).before args0 about1 = true := code_word (m := ⟨10, 1⟩) (meth := k10m1) (c := k10c1) (by decide +kernel) rfl rfl rfl (by decide +kernel)
set_option maxRecDepth 65536 in
theorem w_c5 : (Jvm.Cond.code ({ cls := "java/lang/String", name := "checkIndex", desc := "(II)V" } : Jvm.MethodName) jdk_42_method_155_code (2 : Nat) (Option.none : Option Jvm.ClassFile.FieldType)).before args0 about1 = true := code_word (m := ⟨7, 3⟩) (meth := k7m3) (c := k7c3) (by decide +kernel) rfl rfl rfl (by decide +kernel)
set_option maxRecDepth 65536 in
theorem w_c6 : (Jvm.Cond.code ({ cls := "jdk/internal/util/Preconditions", name := "checkIndex", desc := "(IILjava/util/function/BiFunction;)I" } : Jvm.MethodName) jdk_41_method_11_code (3 : Nat) (Option.some Jvm.ClassFile.FieldType.int)).before args0 about1 = true := code_word (m := ⟨11, 1⟩) (meth := k11m1) (c := k11c1) (by decide +kernel) rfl rfl rfl (by decide +kernel)
def codes1 : List Jvm.Cond := [Jvm.Cond.code x code maxLocals ret, Jvm.Cond.code ({ cls := "com/example/vedette/vedette/core/Subfield", name := "isDigitCode", desc := "(C)Z" } : Jvm.MethodName) prog_48_method_3_code (1 : Nat) (Option.some Jvm.ClassFile.FieldType.boolean), Jvm.Cond.code ({ cls := "java/lang/String", name := "charAt", desc := "(I)C" } : Jvm.MethodName) jdk_42_method_56_code (2 : Nat) (Option.some Jvm.ClassFile.FieldType.char), Jvm.Cond.code ({ cls := "java/lang/String", name := "isLatin1", desc := "()Z" } : Jvm.MethodName) jdk_42_method_154_code (1 : Nat) (Option.some Jvm.ClassFile.FieldType.boolean), Jvm.Cond.code ({ cls := "java/lang/StringLatin1", name := "charAt", desc := "([BI)C" } : Jvm.MethodName) jdk_43_method_2_code (2 : Nat) (Option.some Jvm.ClassFile.FieldType.char), Jvm.Cond.code ({ cls := "java/lang/String", name := "checkIndex", desc := "(II)V" } : Jvm.MethodName) jdk_42_method_155_code (2 : Nat) (Option.none : Option Jvm.ClassFile.FieldType), Jvm.Cond.code ({ cls := "jdk/internal/util/Preconditions", name := "checkIndex", desc := "(IILjava/util/function/BiFunction;)I" } : Jvm.MethodName) jdk_41_method_11_code (3 : Nat) (Option.some Jvm.ClassFile.FieldType.int)]
set_option maxRecDepth 65536 in
theorem codes_eq : words1.filter isCode = codes1 := rfl
theorem w_codes : ∀ c ∈ words1.filter isCode, c.before args0 about1 = true := by
  rw [codes_eq]
  intro c hc
  simp only [codes1, List.mem_cons, List.not_mem_nil, or_false] at hc
  rcases hc with rfl | rfl | rfl | rfl | rfl | rfl | rfl
  · exact w_c0
  · exact w_c1
  · exact w_c2
  · exact w_c3
  · exact w_c4
  · exact w_c5
  · exact w_c6
set_option maxRecDepth 65536 in
theorem w_t1 : (words1.take 24).all (fun c => isCode c || c.before args0 about1) = true := by decide +kernel
set_option maxRecDepth 65536 in
theorem w_t2 : (words1.drop 24).all (fun c => isCode c || c.before args0 about1) = true := by decide +kernel
theorem w_tables : (allAtoms (Jvm.Cond.code x code maxLocals ret :: tables_1)).before args0 about1 = true := by
  rw [allAtoms_all]
  show words1.all (fun c => c.before args0 about1) = true
  refine all_split ?_ w_codes
  rw [← List.take_append_drop 24 words1, List.all_append, w_t1, w_t2]
  rfl
set_option maxRecDepth 65536 in
theorem w_rest : rest_1_c.before args0 about1 = true := by decide +kernel
set_option maxRecDepth 65536 in
theorem w_case : (Jvm.Cond.and given_1 narrow_1).before args0 about1 = true := by decide +kernel
set_option maxRecDepth 65536 in
theorem w_consts : constsHeld consts_1 about1 := Jvm.Lit.constsHeldB_iff.mp (by decide +kernel)
theorem w_applies : (headSpec (Jvm.Cond.code x code maxLocals ret :: tables_1) room_1).applies x e0.platform about1 = true :=
  (Spec.applies_iff w_frames).mpr ⟨w_running, w_runnable, w_alone, w_named, w_hears, w_ripe, w_room, w_tables⟩
theorem atStart : AtStart classFile x code maxLocals ret World_1 tables_1 room_1 Calls_1 rest_1 Pre_1 launch0 p0 e0 about1 theMethod args0 below0 :=
  ⟨lists_1, trivial, launch0.admits_env _ _ _, launch0.least_env, fairChoices_fair.cas, fairChoices_fair.clock, w_frames, w_args, w_heap, w_applies, ⟨w_consts, trivial⟩, w_rest, w_case⟩
end start1
theorem witness_1 : WitnessClaimed_1 := ⟨start1.p0, start1.e0, start1.about1, start1.theMethod, start1.args0, start1.below0, start1.atStart⟩
end Jvm.Pilot.@@N@@
