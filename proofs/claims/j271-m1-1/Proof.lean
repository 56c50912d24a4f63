import JvmDerived
import JvmDerived.Pilot.@@N@@Statement
import JvmDerived.Pilot.@@N@@Code
set_option linter.unusedVariables false
set_option linter.unusedSimpArgs false
set_option maxHeartbeats 40000000
set_option maxRecDepth 65536
namespace Jvm.RoadKit
open Sem ClassFile Op Lib Jvm.Stand Jvm.Free Jvm.LawKit
section New
variable {p : Program} {l : Launch} {e : Env} {R : Room} {s : State} {m : MethodId} {args : Array Value} {below : List Frame} {meth : Method} {c : Code} {T : State} {locs : List Loc} {cells slots : Nat}
theorem retI (X : Stand p l e R s m args below meth c T locs cells slots) (hx : p.tables.exec = Jvm.exec) {pc : Nat} {Ls : Array Slot} {z : Int32} {rest : List Value} (hret : meth.sig.returnType = some .int) (hd : decode c.code pc = .ok (.ireturn, 1)) {fs : List Frame}
    (hl : ∀ (f : JFrame) (acts : List Action), f.method = m → f.locked = none → f.entered = [] → (doReturn e (T.setTop f) acts (some (.int z))).1 = T.setFrames fs) : Steps p.tables e below (T.setTop (mkF m pc Ls (.int z :: rest))) (T.setFrames fs) := by
  have hm' : T.vm.method? m = some meth := X.method'
  have hn : narrow .int (.int z) = .int z := rfl
  show Steps p.tables e below (T.setTop { method := m, pc := pc, locals := Ls, stack := _ :: rest, locked := none }) _
  jvm_step X.here [X.here.top, hx, hd, hm', hret, hn]
  first | (intro acts; rw [hl _ acts rfl rfl rfl]) | rw [hl _ _ rfl rfl rfl]
  exact Steps.refl _
end New
end Jvm.RoadKit
namespace Jvm.Pilot.@@N@@
open Jvm Jvm.ClassFile Sem Op Lib Jvm.Free Jvm.Stand Jvm.LawKit Jvm.RoadKit Bundle Jvm.Pilot.@@N@@.Jvm.D
/-- an array of n places of ints, bytes ..: place i holds A i -/
def own_Ar (Z : State) (h : Heap) (a : Addr) (ty : FieldType) (n : Int32) (A : Nat → Int32) : Prop := ∃ c : Cell, Arr Z h a c ty ∧ c.slots.size = n.toNatClampNeg ∧ ¬ n < 0 ∧ ∀ i, i < c.slots.size → c.slots[i]? = some (.int (A i))
def own_up (A : Nat → Int32) (k : Nat) (v : Int32) : Nat → Int32 := fun i => if i = k then v else A i
theorem own_up_hit (A : Nat → Int32) (k : Nat) (v : Int32) : own_up A k v k = v := if_pos rfl
theorem own_up_miss (A : Nat → Int32) (k : Nat) (v : Int32) {i : Nat} (h : i ≠ k) : own_up A k v i = A i := if_neg h
theorem own_slots (c : Cell) (k : Nat) (v : Value) : (c.setSlot k v).slots = c.slots.setIfInBounds k v := rfl
theorem own_slotsN (k : ClassId) (ty : FieldType) (n : Int32) : (newA k ty n).slots = Array.replicate n.toNatClampNeg (defaultValue ty) := rfl
section OwnArr
variable {Z : State} {h h' : Heap} {a b : Addr} {ty : FieldType} {n : Int32} {A : Nat → Int32} {sl : Nat} {v : Value} {ws : List Addr}
theorem own_Ar.lt (F : own_Ar Z h a ty n A) : a < h.size := by obtain ⟨c, B, -⟩ := F; exact B.lt
theorem own_Ar.ext (F : own_Ar Z h a ty n A) (E : Ext h h') : own_Ar Z h' a ty n A := by obtain ⟨c, B, r⟩ := F; exact ⟨c, B.ext E, r⟩
theorem own_Ar.other (F : own_Ar Z h b ty n A) (W : Wr h h' a sl v) (q : b ≠ a) : own_Ar Z h' b ty n A := by obtain ⟨c, B, r⟩ := F; exact ⟨c, B.other W q, r⟩
theorem own_Ar.keep (F : own_Ar Z h a ty n A) (K : Keep h h' ws) (q : a ∉ ws) : own_Ar Z h' a ty n A := by obtain ⟨c, B, r⟩ := F; exact ⟨c, ⟨K.2.1 a c B.1 q, B.2⟩, r⟩
theorem own_Ar.new {k : ClassId} (B : Arr Z h a (newA k ty n) ty) (q : ¬ n < 0) (hd : defaultValue ty = .int 0) : own_Ar Z h a ty n (fun _ => 0) := by
  refine ⟨_, B, sz_new _ _ _, q, fun i hi => ?_⟩
  rw [sz_new] at hi
  rw [own_slotsN, hd, Array.getElem?_replicate, if_pos hi]
theorem own_Ar.put {cl : Cell} {k : Nat} {x : Int32} (B : Arr Z h a cl ty) (S : cl.slots.size = n.toNatClampNeg) (N : ¬ n < 0) (H : ∀ i, i < cl.slots.size → cl.slots[i]? = some (.int (A i))) (W : Wr h h' a k (.int x)) : own_Ar Z h' a ty n (own_up A k x) := by
  refine ⟨_, B.same W, by rw [sz_set]; exact S, N, fun i hi => ?_⟩
  rw [sz_set] at hi
  rw [own_slots]
  by_cases u : i = k
  · subst u
    rw [own_up_hit, Array.getElem?_setIfInBounds_self_of_lt hi]
  · rw [own_up_miss _ _ _ u, Array.getElem?_setIfInBounds_ne (fun z => u z.symm)]
    exact H i hi
end OwnArr
section OwnArrSteps
variable {p : Program} {l : Launch} {e : Env} {R : Room} {s : State} {m : MethodId} {args : Array Value} {below : List Frame} {meth : Method} {c : Code} {T : State} {locs : List Loc} {cells slots : Nat} {Z : State} {h : Heap} {a : Addr} {ty : FieldType} {n : Int32} {A : Nat → Int32}
theorem own_ldI (X : Stand p l e R s m args below meth c T locs cells slots) (hx : p.tables.exec = Jvm.exec) (hZ : Z.Warmed39 s.vm) (eT : T.heap = h) (F : own_Ar Z h a .int n A) {j : Int32} (hj : ¬ j < 0 ∧ j < n) {g : JFrame} (hg : g.method = m) {rest : List Value} (hs : g.stack = .int j :: .ref a :: rest) (hd : decode c.code g.pc = .ok (.iaload, 1)) (target : State)
    (k : Steps p.tables e below (T.setTop { g with pc := g.pc + 1, stack := .int (A j.toNatClampNeg) :: rest }) target) : Steps p.tables e below (T.setTop g) target := by
  obtain ⟨cl, B, S, N, H⟩ := F
  have hin := inb_of S hj
  exact X.iaload hx (by rw [eT]; exact B.1) (State.isArrayOf_alike hZ.alike B.2.1) B.2.2 hin (H _ (Nat.lt_of_not_le fun y => hin (Or.inr y))) hg hs hd target k
theorem own_ldB (X : Stand p l e R s m args below meth c T locs cells slots) (hx : p.tables.exec = Jvm.exec) (hZ : Z.Warmed39 s.vm) (eT : T.heap = h) (F : own_Ar Z h a .byte n A) {j : Int32} (hj : ¬ j < 0 ∧ j < n) {g : JFrame} (hg : g.method = m) {rest : List Value} (hs : g.stack = .int j :: .ref a :: rest) (hd : decode c.code g.pc = .ok (.baload, 1)) (target : State)
    (k : Steps p.tables e below (T.setTop { g with pc := g.pc + 1, stack := .int (A j.toNatClampNeg) :: rest }) target) : Steps p.tables e below (T.setTop g) target := by
  obtain ⟨cl, B, S, N, H⟩ := F
  have hin := inb_of S hj
  exact X.baloadBytes hx (by rw [eT]; exact B.1) (State.isArrayOf_alike hZ.alike B.2.1) B.2.2 hin (H _ (Nat.lt_of_not_le fun y => hin (Or.inr y))) hg hs hd target k
theorem own_alen (X : Stand p l e R s m args below meth c T locs cells slots) (hx : p.tables.exec = Jvm.exec) (hZ : Z.Warmed39 s.vm) (eT : T.heap = h) (F : own_Ar Z h a ty n A) {g : JFrame} (hg : g.method = m) {rest : List Value} (hs : g.stack = .ref a :: rest) (hd : decode c.code g.pc = .ok (.arraylength, 1)) (target : State)
    (k : Steps p.tables e below (T.setTop { g with pc := g.pc + 1, stack := .int n :: rest }) target) : Steps p.tables e below (T.setTop g) target := by
  obtain ⟨cl, B, S, N, H⟩ := F
  exact X.arraylength hx (by rw [eT]; exact B.1) (State.isArrayOf_alike hZ.alike B.2.1) hg hs hd target (by rw [len_of S N]; exact k)
theorem own_stI (X : Stand p l e R s m args below meth c T locs cells slots) (hx : p.tables.exec = Jvm.exec) (hZ : Z.Warmed39 s.vm) (eT : T.heap = h) (F : own_Ar Z h a .int n A) {j x : Int32} (hj : ¬ j < 0 ∧ j < n) {g : JFrame} (hg : g.method = m) {rest : List Value} (hs : g.stack = .int x :: .int j :: .ref a :: rest) (hd : decode c.code g.pc = .ok (.iastore, 1)) :
    ∃ T' h', Stand p l e R s m args below meth c T' (locs ++ [⟨a, j.toNatClampNeg⟩]) cells slots ∧ T'.heap = h' ∧ Wr h h' a j.toNatClampNeg (.int x) ∧ own_Ar Z h' a .int n (own_up A j.toNatClampNeg x) ∧ ∀ target, Steps p.tables e below (T'.setTop { g with pc := g.pc + 1, stack := rest }) target → Steps p.tables e below (T.setTop g) target := by
  obtain ⟨cl, B, S, N, H⟩ := F
  obtain ⟨T', h', X', e', W, st⟩ := stI X hx hZ eT B (j := j) (inb_of S hj) hg hs hd
  exact ⟨T', h', X', e', W, own_Ar.put B S N H W, st⟩
theorem own_stB (X : Stand p l e R s m args below meth c T locs cells slots) (hx : p.tables.exec = Jvm.exec) (hZ : Z.Warmed39 s.vm) (eT : T.heap = h) (F : own_Ar Z h a .byte n A) {j x : Int32} (hj : ¬ j < 0 ∧ j < n) {g : JFrame} (hg : g.method = m) {rest : List Value} (hs : g.stack = .int x :: .int j :: .ref a :: rest) (hd : decode c.code g.pc = .ok (.bastore, 1)) :
    ∃ T' h', Stand p l e R s m args below meth c T' (locs ++ [⟨a, j.toNatClampNeg⟩]) cells slots ∧ T'.heap = h' ∧ Wr h h' a j.toNatClampNeg (.int x.toInt8.toInt32) ∧ own_Ar Z h' a .byte n (own_up A j.toNatClampNeg x.toInt8.toInt32) ∧ ∀ target, Steps p.tables e below (T'.setTop { g with pc := g.pc + 1, stack := rest }) target → Steps p.tables e below (T.setTop g) target := by
  obtain ⟨cl, B, S, N, H⟩ := F
  obtain ⟨T', h', X', e', W, st⟩ := stB X hx hZ eT B (j := j) (inb_of S hj) hg hs hd
  exact ⟨T', h', X', e', W, own_Ar.put B S N H W, st⟩
end OwnArrSteps
theorem own_ix0 {n i1 : Int32} (hI : n = 5 ∧ (i1 = 0 ∨ i1 = 1)) : ¬ i1 < 0 ∧ i1 < n := by
  obtain ⟨rfl, rfl | rfl⟩ := hI <;> decide +kernel
theorem own_ix1 {n i1 : Int32} (hI : n = 5 ∧ (i1 = 0 ∨ i1 = 1)) : ¬ (i1 + (1 : Int32)) < 0 ∧ (i1 + (1 : Int32)) < n := by
  obtain ⟨rfl, rfl | rfl⟩ := hI <;> decide +kernel
theorem own_ix2 {n i1 i4 i8 : Int32} (hI : n = 5 ∧ (i1 = 0 ∨ i1 = 1) ∧ i4.toInt ≤ 4 ∧ 2 ≤ i8.toInt) (hc : i8 < i4) : ¬ (i1 + i8) < 0 ∧ (i1 + i8) < n := by
  have l0 : (0 : Int32).toInt = 0 := by decide +kernel
  have l1 : (1 : Int32).toInt = 1 := by decide +kernel
  have l5 : (5 : Int32).toInt = 5 := by decide +kernel
  obtain ⟨rfl, h1, h2, h3⟩ := hI
  rw [Int32.lt_iff_toInt_lt] at hc
  have a := c_iadd i1 i8
  have r := rng32 (i1 + i8)
  rw [Int32.lt_iff_toInt_lt, Int32.lt_iff_toInt_lt, l0, l5]
  rcases h1 with rfl | rfl
  · rw [l0] at a; omega
  · rw [l1] at a; omega
theorem own_inc {i8 : Int32} (h : i8.toInt < 4) : (i8 + (1 : Int32)).toInt = i8.toInt + 1 := by
  have l1 : (1 : Int32).toInt = 1 := by decide +kernel
  have a := c_iadd i8 1
  have r := rng32 (i8 + 1)
  have s := rng32 i8
  rw [l1] at a
  omega
theorem own_iv {n i1 i4 i8 : Int32} (hI : n = 5 ∧ (i1 = 0 ∨ i1 = 1) ∧ i4.toInt ≤ 4 ∧ 2 ≤ i8.toInt) (hc : i8 < i4) : n = 5 ∧ (i1 = 0 ∨ i1 = 1) ∧ i4.toInt ≤ 4 ∧ 2 ≤ (i8 + (1 : Int32)).toInt := by
  rw [Int32.lt_iff_toInt_lt] at hc
  have e := own_inc (i8 := i8) (by omega)
  exact ⟨hI.1, hI.2.1, hI.2.2.1, by omega⟩
theorem own_mu {n i1 i4 i8 : Int32} {k : Nat} (hI : n = 5 ∧ (i1 = 0 ∨ i1 = 1) ∧ i4.toInt ≤ 4 ∧ 2 ≤ i8.toInt) (hc : i8 < i4) (hk : (4 - i8.toInt).toNat < k + 1) : (4 - (i8 + (1 : Int32)).toInt).toNat < k := by
  rw [Int32.lt_iff_toInt_lt] at hc
  have e := own_inc (i8 := i8) (by omega)
  omega
theorem own_lc (s : Int32) : (5 : Int32) = 5 ∧ ((s &&& (1 : Int32)) = 0 ∨ (s &&& (1 : Int32)) = 1) := by
  have l0 : (0 : Int32).toInt = 0 := by decide +kernel
  have l1 : (1 : Int32).toInt = 1 := by decide +kernel
  have m := c_mask s 1 1 (by decide +kernel) (by decide +kernel)
  refine ⟨rfl, ?_⟩
  by_cases h : s.toInt % 2 = 0
  · exact Or.inl (Int32.toInt_inj.mp (by rw [l0]; omega))
  · exact Or.inr (Int32.toInt_inj.mp (by rw [l1]; omega))
theorem own_lx0 (s : Int32) : ¬ (s &&& (1 : Int32)) < 0 ∧ (s &&& (1 : Int32)) < (5 : Int32) := by
  rcases (own_lc s).2 with h | h <;> rw [h] <;> decide +kernel
theorem own_lx1 (s : Int32) : ¬ ((s &&& (1 : Int32)) + (1 : Int32)) < 0 ∧ ((s &&& (1 : Int32)) + (1 : Int32)) < (5 : Int32) := by
  rcases (own_lc s).2 with h | h <;> rw [h] <;> decide +kernel
theorem own_lx2 (s : Int32) : ¬ ((s &&& (1 : Int32)) + (2 : Int32)) < 0 ∧ ((s &&& (1 : Int32)) + (2 : Int32)) < (5 : Int32) := by
  rcases (own_lc s).2 with h | h <;> rw [h] <;> decide +kernel
theorem own_lx3 (s : Int32) : ¬ ((s &&& (1 : Int32)) + (3 : Int32)) < 0 ∧ ((s &&& (1 : Int32)) + (3 : Int32)) < (5 : Int32) := by
  rcases (own_lc s).2 with h | h <;> rw [h] <;> decide +kernel
theorem d1_0 : decode prog_97_method_3_code 0 = .ok (.aload_n 0, 1) := by decide +kernel
theorem d1_1 : decode prog_97_method_3_code 1 = .ok (.iload_n 1, 1) := by decide +kernel
theorem d1_2 : decode prog_97_method_3_code 2 = .ok (.baload, 1) := by decide +kernel
theorem d1_3 : decode prog_97_method_3_code 3 = .ok (.sipush 255, 3) := by decide +kernel
theorem d1_6 : decode prog_97_method_3_code 6 = .ok (.iand, 1) := by decide +kernel
theorem d1_7 : decode prog_97_method_3_code 7 = .ok (.istore_n 3, 1) := by decide +kernel
theorem d1_8 : decode prog_97_method_3_code 8 = .ok (.sipush 128, 3) := by decide +kernel
theorem d1_11 : decode prog_97_method_3_code 11 = .ok (.istore 5, 2) := by decide +kernel
theorem d1_13 : decode prog_97_method_3_code 13 = .ok (.sipush 191, 3) := by decide +kernel
theorem d1_16 : decode prog_97_method_3_code 16 = .ok (.istore 6, 2) := by decide +kernel
theorem d1_18 : decode prog_97_method_3_code 18 = .ok (.iload_n 3, 1) := by decide +kernel
theorem d1_19 : decode prog_97_method_3_code 19 = .ok (.sipush 225, 3) := by decide +kernel
theorem d1_22 : decode prog_97_method_3_code 22 = .ok (.if_icmp .lt 23, 3) := by decide +kernel
theorem d1_25 : decode prog_97_method_3_code 25 = .ok (.iload_n 3, 1) := by decide +kernel
theorem d1_26 : decode prog_97_method_3_code 26 = .ok (.sipush 239, 3) := by decide +kernel
theorem d1_29 : decode prog_97_method_3_code 29 = .ok (.if_icmp .gt 16, 3) := by decide +kernel
theorem d1_32 : decode prog_97_method_3_code 32 = .ok (.iload_n 3, 1) := by decide +kernel
theorem d1_33 : decode prog_97_method_3_code 33 = .ok (.sipush 237, 3) := by decide +kernel
theorem d1_36 : decode prog_97_method_3_code 36 = .ok (.if_icmp .eq 9, 3) := by decide +kernel
theorem d1_39 : decode prog_97_method_3_code 39 = .ok (.iconst 3, 1) := by decide +kernel
theorem d1_40 : decode prog_97_method_3_code 40 = .ok (.istore 4, 2) := by decide +kernel
theorem d1_42 : decode prog_97_method_3_code 42 = .ok (.goto 117, 3) := by decide +kernel
theorem d1_45 : decode prog_97_method_3_code 45 = .ok (.iload_n 3, 1) := by decide +kernel
theorem d1_46 : decode prog_97_method_3_code 46 = .ok (.sipush 194, 3) := by decide +kernel
theorem d1_49 : decode prog_97_method_3_code 49 = .ok (.if_icmp .lt 16, 3) := by decide +kernel
theorem d1_52 : decode prog_97_method_3_code 52 = .ok (.iload_n 3, 1) := by decide +kernel
theorem d1_53 : decode prog_97_method_3_code 53 = .ok (.sipush 223, 3) := by decide +kernel
theorem d1_56 : decode prog_97_method_3_code 56 = .ok (.if_icmp .gt 9, 3) := by decide +kernel
theorem d1_59 : decode prog_97_method_3_code 59 = .ok (.iconst 2, 1) := by decide +kernel
theorem d1_60 : decode prog_97_method_3_code 60 = .ok (.istore 4, 2) := by decide +kernel
theorem d1_62 : decode prog_97_method_3_code 62 = .ok (.goto 97, 3) := by decide +kernel
theorem d1_65 : decode prog_97_method_3_code 65 = .ok (.iload_n 3, 1) := by decide +kernel
theorem d1_66 : decode prog_97_method_3_code 66 = .ok (.sipush 224, 3) := by decide +kernel
theorem d1_69 : decode prog_97_method_3_code 69 = .ok (.if_icmp .ne 14, 3) := by decide +kernel
theorem d1_72 : decode prog_97_method_3_code 72 = .ok (.iconst 3, 1) := by decide +kernel
theorem d1_73 : decode prog_97_method_3_code 73 = .ok (.istore 4, 2) := by decide +kernel
theorem d1_75 : decode prog_97_method_3_code 75 = .ok (.sipush 160, 3) := by decide +kernel
theorem d1_78 : decode prog_97_method_3_code 78 = .ok (.istore 5, 2) := by decide +kernel
theorem d1_80 : decode prog_97_method_3_code 80 = .ok (.goto 79, 3) := by decide +kernel
theorem d1_83 : decode prog_97_method_3_code 83 = .ok (.iload_n 3, 1) := by decide +kernel
theorem d1_84 : decode prog_97_method_3_code 84 = .ok (.sipush 237, 3) := by decide +kernel
theorem d1_87 : decode prog_97_method_3_code 87 = .ok (.if_icmp .ne 14, 3) := by decide +kernel
theorem d1_90 : decode prog_97_method_3_code 90 = .ok (.iconst 3, 1) := by decide +kernel
theorem d1_91 : decode prog_97_method_3_code 91 = .ok (.istore 4, 2) := by decide +kernel
theorem d1_93 : decode prog_97_method_3_code 93 = .ok (.sipush 159, 3) := by decide +kernel
theorem d1_96 : decode prog_97_method_3_code 96 = .ok (.istore 6, 2) := by decide +kernel
theorem d1_98 : decode prog_97_method_3_code 98 = .ok (.goto 61, 3) := by decide +kernel
theorem d1_101 : decode prog_97_method_3_code 101 = .ok (.iload_n 3, 1) := by decide +kernel
theorem d1_102 : decode prog_97_method_3_code 102 = .ok (.sipush 240, 3) := by decide +kernel
theorem d1_105 : decode prog_97_method_3_code 105 = .ok (.if_icmp .ne 14, 3) := by decide +kernel
theorem d1_108 : decode prog_97_method_3_code 108 = .ok (.iconst 4, 1) := by decide +kernel
theorem d1_109 : decode prog_97_method_3_code 109 = .ok (.istore 4, 2) := by decide +kernel
theorem d1_111 : decode prog_97_method_3_code 111 = .ok (.sipush 144, 3) := by decide +kernel
theorem d1_114 : decode prog_97_method_3_code 114 = .ok (.istore 5, 2) := by decide +kernel
theorem d1_116 : decode prog_97_method_3_code 116 = .ok (.goto 43, 3) := by decide +kernel
theorem d1_119 : decode prog_97_method_3_code 119 = .ok (.iload_n 3, 1) := by decide +kernel
theorem d1_120 : decode prog_97_method_3_code 120 = .ok (.sipush 241, 3) := by decide +kernel
theorem d1_123 : decode prog_97_method_3_code 123 = .ok (.if_icmp .lt 16, 3) := by decide +kernel
theorem d1_126 : decode prog_97_method_3_code 126 = .ok (.iload_n 3, 1) := by decide +kernel
theorem d1_127 : decode prog_97_method_3_code 127 = .ok (.sipush 243, 3) := by decide +kernel
theorem d1_130 : decode prog_97_method_3_code 130 = .ok (.if_icmp .gt 9, 3) := by decide +kernel
theorem d1_133 : decode prog_97_method_3_code 133 = .ok (.iconst 4, 1) := by decide +kernel
theorem d1_134 : decode prog_97_method_3_code 134 = .ok (.istore 4, 2) := by decide +kernel
theorem d1_136 : decode prog_97_method_3_code 136 = .ok (.goto 23, 3) := by decide +kernel
theorem d1_139 : decode prog_97_method_3_code 139 = .ok (.iload_n 3, 1) := by decide +kernel
theorem d1_140 : decode prog_97_method_3_code 140 = .ok (.sipush 244, 3) := by decide +kernel
theorem d1_143 : decode prog_97_method_3_code 143 = .ok (.if_icmp .ne 14, 3) := by decide +kernel
theorem d1_146 : decode prog_97_method_3_code 146 = .ok (.iconst 4, 1) := by decide +kernel
theorem d1_147 : decode prog_97_method_3_code 147 = .ok (.istore 4, 2) := by decide +kernel
theorem d1_149 : decode prog_97_method_3_code 149 = .ok (.sipush 143, 3) := by decide +kernel
theorem d1_152 : decode prog_97_method_3_code 152 = .ok (.istore 6, 2) := by decide +kernel
theorem d1_154 : decode prog_97_method_3_code 154 = .ok (.goto 5, 3) := by decide +kernel
theorem d1_157 : decode prog_97_method_3_code 157 = .ok (.iconst 0, 1) := by decide +kernel
theorem d1_158 : decode prog_97_method_3_code 158 = .ok (.ireturn, 1) := by decide +kernel
theorem d1_159 : decode prog_97_method_3_code 159 = .ok (.iload_n 2, 1) := by decide +kernel
theorem d1_160 : decode prog_97_method_3_code 160 = .ok (.iload_n 1, 1) := by decide +kernel
theorem d1_161 : decode prog_97_method_3_code 161 = .ok (.isub, 1) := by decide +kernel
theorem d1_162 : decode prog_97_method_3_code 162 = .ok (.iload 4, 2) := by decide +kernel
theorem d1_164 : decode prog_97_method_3_code 164 = .ok (.if_icmp .ge 5, 3) := by decide +kernel
theorem d1_167 : decode prog_97_method_3_code 167 = .ok (.iconst 0, 1) := by decide +kernel
theorem d1_168 : decode prog_97_method_3_code 168 = .ok (.ireturn, 1) := by decide +kernel
theorem d1_169 : decode prog_97_method_3_code 169 = .ok (.aload_n 0, 1) := by decide +kernel
theorem d1_170 : decode prog_97_method_3_code 170 = .ok (.iload_n 1, 1) := by decide +kernel
theorem d1_171 : decode prog_97_method_3_code 171 = .ok (.iconst 1, 1) := by decide +kernel
theorem d1_172 : decode prog_97_method_3_code 172 = .ok (.iadd, 1) := by decide +kernel
theorem d1_173 : decode prog_97_method_3_code 173 = .ok (.baload, 1) := by decide +kernel
theorem d1_174 : decode prog_97_method_3_code 174 = .ok (.sipush 255, 3) := by decide +kernel
theorem d1_177 : decode prog_97_method_3_code 177 = .ok (.iand, 1) := by decide +kernel
theorem d1_178 : decode prog_97_method_3_code 178 = .ok (.istore 7, 2) := by decide +kernel
theorem d1_180 : decode prog_97_method_3_code 180 = .ok (.iload 7, 2) := by decide +kernel
theorem d1_182 : decode prog_97_method_3_code 182 = .ok (.iload 5, 2) := by decide +kernel
theorem d1_184 : decode prog_97_method_3_code 184 = .ok (.if_icmp .lt 10, 3) := by decide +kernel
theorem d1_187 : decode prog_97_method_3_code 187 = .ok (.iload 7, 2) := by decide +kernel
theorem d1_189 : decode prog_97_method_3_code 189 = .ok (.iload 6, 2) := by decide +kernel
theorem d1_191 : decode prog_97_method_3_code 191 = .ok (.if_icmp .le 5, 3) := by decide +kernel
theorem d1_194 : decode prog_97_method_3_code 194 = .ok (.iconst 0, 1) := by decide +kernel
theorem d1_195 : decode prog_97_method_3_code 195 = .ok (.ireturn, 1) := by decide +kernel
theorem d1_196 : decode prog_97_method_3_code 196 = .ok (.iconst 2, 1) := by decide +kernel
theorem d1_197 : decode prog_97_method_3_code 197 = .ok (.istore 8, 2) := by decide +kernel
theorem d1_199 : decode prog_97_method_3_code 199 = .ok (.iload 8, 2) := by decide +kernel
theorem d1_201 : decode prog_97_method_3_code 201 = .ok (.iload 4, 2) := by decide +kernel
theorem d1_203 : decode prog_97_method_3_code 203 = .ok (.if_icmp .ge 27, 3) := by decide +kernel
theorem d1_206 : decode prog_97_method_3_code 206 = .ok (.aload_n 0, 1) := by decide +kernel
theorem d1_207 : decode prog_97_method_3_code 207 = .ok (.iload_n 1, 1) := by decide +kernel
theorem d1_208 : decode prog_97_method_3_code 208 = .ok (.iload 8, 2) := by decide +kernel
theorem d1_210 : decode prog_97_method_3_code 210 = .ok (.iadd, 1) := by decide +kernel
theorem d1_211 : decode prog_97_method_3_code 211 = .ok (.baload, 1) := by decide +kernel
theorem d1_212 : decode prog_97_method_3_code 212 = .ok (.sipush 192, 3) := by decide +kernel
theorem d1_215 : decode prog_97_method_3_code 215 = .ok (.iand, 1) := by decide +kernel
theorem d1_216 : decode prog_97_method_3_code 216 = .ok (.sipush 128, 3) := by decide +kernel
theorem d1_219 : decode prog_97_method_3_code 219 = .ok (.if_icmp .eq 5, 3) := by decide +kernel
theorem d1_222 : decode prog_97_method_3_code 222 = .ok (.iconst 0, 1) := by decide +kernel
theorem d1_223 : decode prog_97_method_3_code 223 = .ok (.ireturn, 1) := by decide +kernel
theorem d1_224 : decode prog_97_method_3_code 224 = .ok (.iinc 8 1, 3) := by decide +kernel
theorem d1_227 : decode prog_97_method_3_code 227 = .ok (.goto (-28), 3) := by decide +kernel
theorem d1_230 : decode prog_97_method_3_code 230 = .ok (.iload 4, 2) := by decide +kernel
theorem d1_232 : decode prog_97_method_3_code 232 = .ok (.ireturn, 1) := by decide +kernel
theorem pn_1 : plainName "com/example/open_brace/openbrace/text/Utf8" = true := by first | (simp [plainName, overriddenIn]; done) | decide +kernel
theorem ef_1 (m : MethodId) (a0 : Addr) (i1 : Int32) (i2 : Int32) : entryFrame m #[(.ref a0), (.int i1), (.int i2)] 9 = mkF m 0 #[.val (.ref a0), .val (.int i1), .val (.int i2), .unset, .unset, .unset, .unset, .unset, .unset] [] := by first | (simp [entryFrame, mkF, argsToLocals, Value.category]; done) | rfl
def own_f1_199 : Nat → (Int32) → (Int32) → (Int32) → (Int32) → (Int32) → (Int32) → (Int32) → (Int32) → (Int32) → (Nat → Int32) → (Int32)
  | 0, _, _, _, _, _, _, _, _, _, _ => 0
  | k + 1, i1, i2, i3, i4, i5, i6, i7, i8, n_a0, A_a0 => (if i8 < i4 then (if ((A_a0 (i1 + i8).toNatClampNeg) &&& (192 : Int32)) = (128 : Int32) then (own_f1_199 k i1 i2 i3 i4 i5 i6 i7 (i8 + (1 : Int32)) n_a0 A_a0) else (0 : Int32)) else i4)
theorem own_f1_199_s (k : Nat) (i1 : Int32) (i2 : Int32) (i3 : Int32) (i4 : Int32) (i5 : Int32) (i6 : Int32) (i7 : Int32) (i8 : Int32) (n_a0 : Int32) (A_a0 : Nat → Int32) : own_f1_199 (k + 1) i1 i2 i3 i4 i5 i6 i7 i8 n_a0 A_a0 =
  (if i8 < i4 then (if ((A_a0 (i1 + i8).toNatClampNeg) &&& (192 : Int32)) = (128 : Int32) then (own_f1_199 k i1 i2 i3 i4 i5 i6 i7 (i8 + (1 : Int32)) n_a0 A_a0) else (0 : Int32)) else i4) := rfl
def own_f1_159 (i1 : Int32) (i2 : Int32) (i3 : Int32) (i4 : Int32) (i5 : Int32) (i6 : Int32) (n_a0 : Int32) (A_a0 : Nat → Int32) : Int32 :=
  (if (i2 - i1) < i4 then (0 : Int32) else (if ((A_a0 (i1 + (1 : Int32)).toNatClampNeg) &&& (255 : Int32)) < i5 then (0 : Int32) else (if i6 < ((A_a0 (i1 + (1 : Int32)).toNatClampNeg) &&& (255 : Int32)) then (0 : Int32) else (own_f1_199 ((4 - (2 : Int32).toInt).toNat + 1) i1 i2 i3 i4 i5 i6 ((A_a0 (i1 + (1 : Int32)).toNatClampNeg) &&& (255 : Int32)) (2 : Int32) n_a0 A_a0))))
def own_f1_139 (i1 : Int32) (i2 : Int32) (i3 : Int32) (i5 : Int32) (i6 : Int32) (n_a0 : Int32) (A_a0 : Nat → Int32) : Int32 :=
  (if i3 = (244 : Int32) then (own_f1_159 i1 i2 i3 (4 : Int32) i5 (143 : Int32) n_a0 A_a0) else (0 : Int32))
def own_f1_65 (i1 : Int32) (i2 : Int32) (i3 : Int32) (i5 : Int32) (i6 : Int32) (n_a0 : Int32) (A_a0 : Nat → Int32) : Int32 :=
  (if i3 = (224 : Int32) then (own_f1_159 i1 i2 i3 (3 : Int32) (160 : Int32) i6 n_a0 A_a0) else (if i3 = (237 : Int32) then (own_f1_159 i1 i2 i3 (3 : Int32) i5 (159 : Int32) n_a0 A_a0) else (if i3 = (240 : Int32) then (own_f1_159 i1 i2 i3 (4 : Int32) (144 : Int32) i6 n_a0 A_a0) else (if i3 < (241 : Int32) then (own_f1_139 i1 i2 i3 i5 i6 n_a0 A_a0) else (if (243 : Int32) < i3 then (own_f1_139 i1 i2 i3 i5 i6 n_a0 A_a0) else (own_f1_159 i1 i2 i3 (4 : Int32) i5 i6 n_a0 A_a0))))))
def own_f1_45 (i1 : Int32) (i2 : Int32) (i3 : Int32) (i5 : Int32) (i6 : Int32) (n_a0 : Int32) (A_a0 : Nat → Int32) : Int32 :=
  (if i3 < (194 : Int32) then (own_f1_65 i1 i2 i3 i5 i6 n_a0 A_a0) else (if (223 : Int32) < i3 then (own_f1_65 i1 i2 i3 i5 i6 n_a0 A_a0) else (own_f1_159 i1 i2 i3 (2 : Int32) i5 i6 n_a0 A_a0)))
def own_f1_0 (i1 : Int32) (i2 : Int32) (n_a0 : Int32) (A_a0 : Nat → Int32) : Int32 :=
  (if ((A_a0 i1.toNatClampNeg) &&& (255 : Int32)) < (225 : Int32) then (own_f1_45 i1 i2 ((A_a0 i1.toNatClampNeg) &&& (255 : Int32)) (128 : Int32) (191 : Int32) n_a0 A_a0) else (if (239 : Int32) < ((A_a0 i1.toNatClampNeg) &&& (255 : Int32)) then (own_f1_45 i1 i2 ((A_a0 i1.toNatClampNeg) &&& (255 : Int32)) (128 : Int32) (191 : Int32) n_a0 A_a0) else (if ((A_a0 i1.toNatClampNeg) &&& (255 : Int32)) = (237 : Int32) then (own_f1_45 i1 i2 ((A_a0 i1.toNatClampNeg) &&& (255 : Int32)) (128 : Int32) (191 : Int32) n_a0 A_a0) else (own_f1_159 i1 i2 ((A_a0 i1.toNatClampNeg) &&& (255 : Int32)) (3 : Int32) (128 : Int32) (191 : Int32) n_a0 A_a0))))
set_option maxRecDepth 65536 in
set_option maxHeartbeats 40000000 in
theorem own_b1_199 {p : Program} {l : Launch} {e : Env} {s : State} {m : MethodId} {args : Array Value} {below : List Frame} {meth : Method} {c : Code} {Z : State} {a0_ : Array Value} (hx : p.tables.exec = Jvm.exec) (hZ : Z.Warmed39 s.vm) (hw : ∀ d ∈ tables_1, d.before a0_ Z = true) (hby : c.code = prog_97_method_3_code) (hml : c.maxLocals = 9) (hown : s.vm.findClass "com/example/open_brace/openbrace/text/Utf8" = some m.cls) (hret : meth.sig.returnType = some .int) :
    ∀ (k : Nat) {T0 : State} {locs : List Loc} {cells slots : Nat} {h0 : Heap} (a0 : Addr) (i1 : Int32) (i2 : Int32) (i3 : Int32) (i4 : Int32) (i5 : Int32) (i6 : Int32) (i7 : Int32) (i8 : Int32) (n_a0 : Int32) (A_a0 : Nat → Int32) (X0 : Stand p l e ({ frames := 0, cells := 0, slots := 0, locals := 0 } : Room) s m args below meth c T0 locs cells slots) (e0 : T0.heap = h0) (hcl : cells ≤ ({ frames := 0, cells := 0, slots := 0, locals := 0 } : Room).cells) (hsl : slots ≤ ({ frames := 0, cells := 0, slots := 0, locals := 0 } : Room).slots) (V_a0 : own_Ar Z h0 a0 .byte n_a0 A_a0) (hI : n_a0 = 5 ∧ (i1 = 0 ∨ i1 = 1) ∧ i4.toInt ≤ 4 ∧ 2 ≤ i8.toInt) (hk : (4 - i8.toInt).toNat < k),
    ∃ T', Stand p l e ({ frames := 0, cells := 0, slots := 0, locals := 0 } : Room) s m args below meth c T' locs cells slots ∧ T'.heap = h0 ∧ ∀ fs, (∀ (f : JFrame) (acts : List Action), f.method = m → f.locked = none → f.entered = [] → (doReturn e (T'.setTop f) acts (some (.int (own_f1_199 k i1 i2 i3 i4 i5 i6 i7 i8 n_a0 A_a0)))).1 = T'.setFrames fs) → Steps p.tables e below (T0.setTop (mkF m 199 #[.val (.ref a0), .val (.int i1), .val (.int i2), .val (.int i3), .val (.int i4), .val (.int i5), .val (.int i6), .val (.int i7), .val (.int i8)] [])) (T'.setFrames fs) := by
  intro k
  induction k with
  | zero => intro T0 locs cells slots h0 a0 i1 i2 i3 i4 i5 i6 i7 i8 n_a0 A_a0 X0 e0 hcl hsl V_a0 hI hk; exact absurd hk (Nat.not_lt_zero _)
  | succ k ih =>
    intro T0 locs cells slots h0 a0 i1 i2 i3 i4 i5 i6 i7 i8 n_a0 A_a0 X0 e0 hcl hsl V_a0 hI hk
    have pre1 : ∀ target, Steps p.tables e below (T0.setTop (mkF m 203 #[.val (.ref a0), .val (.int i1), .val (.int i2), .val (.int i3), .val (.int i4), .val (.int i5), .val (.int i6), .val (.int i7), .val (.int i8)] [(.int i4), (.int i8)])) target → Steps p.tables e below (T0.setTop (mkF m 199 #[.val (.ref a0), .val (.int i1), .val (.int i2), .val (.int i3), .val (.int i4), .val (.int i5), .val (.int i6), .val (.int i7), .val (.int i8)] [])) target := by
      intro target kt
      show Steps p.tables e below (T0.setTop (mkF m 199 #[.val (.ref a0), .val (.int i1), .val (.int i2), .val (.int i3), .val (.int i4), .val (.int i5), .val (.int i6), .val (.int i7), .val (.int i8)] [])) _
      refine XS.iload X0.here hx rfl (hb hby d1_199) rfl ?_
      show Steps p.tables e below (T0.setTop (mkF m 201 #[.val (.ref a0), .val (.int i1), .val (.int i2), .val (.int i3), .val (.int i4), .val (.int i5), .val (.int i6), .val (.int i7), .val (.int i8)] [(.int i8)])) _
      refine XS.iload X0.here hx rfl (hb hby d1_201) rfl ?_
      exact kt
    by_cases hc203 : i8 < i4
    · have hix211 : ¬ (i1 + i8) < 0 ∧ (i1 + i8) < n_a0 := by exact own_ix2 hI hc203
      have pre2 : ∀ target, Steps p.tables e below (T0.setTop (mkF m 219 #[.val (.ref a0), .val (.int i1), .val (.int i2), .val (.int i3), .val (.int i4), .val (.int i5), .val (.int i6), .val (.int i7), .val (.int i8)] [(.int (128 : Int32)), (.int ((A_a0 (i1 + i8).toNatClampNeg) &&& (192 : Int32)))])) target → Steps p.tables e below (T0.setTop (mkF m 199 #[.val (.ref a0), .val (.int i1), .val (.int i2), .val (.int i3), .val (.int i4), .val (.int i5), .val (.int i6), .val (.int i7), .val (.int i8)] [])) target := by
        intro target kt
        refine pre1 target ?_
        show Steps p.tables e below (T0.setTop (mkF m 203 #[.val (.ref a0), .val (.int i1), .val (.int i2), .val (.int i3), .val (.int i4), .val (.int i5), .val (.int i6), .val (.int i7), .val (.int i8)] [(.int i4), (.int i8)])) _
        refine XS.icmpNo X0.here hx rfl (hb hby d1_203) rfl (tlt hc203).2.1 ?_
        show Steps p.tables e below (T0.setTop (mkF m 206 #[.val (.ref a0), .val (.int i1), .val (.int i2), .val (.int i3), .val (.int i4), .val (.int i5), .val (.int i6), .val (.int i7), .val (.int i8)] [])) _
        refine XS.aloadN X0.here hx rfl (hb hby d1_206) rfl rfl ?_
        show Steps p.tables e below (T0.setTop (mkF m 207 #[.val (.ref a0), .val (.int i1), .val (.int i2), .val (.int i3), .val (.int i4), .val (.int i5), .val (.int i6), .val (.int i7), .val (.int i8)] [(.ref a0)])) _
        refine XS.iloadN X0.here hx rfl (hb hby d1_207) rfl ?_
        show Steps p.tables e below (T0.setTop (mkF m 208 #[.val (.ref a0), .val (.int i1), .val (.int i2), .val (.int i3), .val (.int i4), .val (.int i5), .val (.int i6), .val (.int i7), .val (.int i8)] [(.int i1), (.ref a0)])) _
        refine XS.iload X0.here hx rfl (hb hby d1_208) rfl ?_
        show Steps p.tables e below (T0.setTop (mkF m 210 #[.val (.ref a0), .val (.int i1), .val (.int i2), .val (.int i3), .val (.int i4), .val (.int i5), .val (.int i6), .val (.int i7), .val (.int i8)] [(.int i8), (.int i1), (.ref a0)])) _
        refine XS.iadd X0.here hx rfl (hb hby d1_210) rfl ?_
        show Steps p.tables e below (T0.setTop (mkF m 211 #[.val (.ref a0), .val (.int i1), .val (.int i2), .val (.int i3), .val (.int i4), .val (.int i5), .val (.int i6), .val (.int i7), .val (.int i8)] [(.int (i1 + i8)), (.ref a0)])) _
        refine own_ldB X0 hx hZ e0 V_a0 hix211 (g := (mkF m 211 #[.val (.ref a0), .val (.int i1), .val (.int i2), .val (.int i3), .val (.int i4), .val (.int i5), .val (.int i6), .val (.int i7), .val (.int i8)] [(.int (i1 + i8)), (.ref a0)])) rfl rfl (hb hby d1_211) _ ?_
        show Steps p.tables e below (T0.setTop (mkF m 212 #[.val (.ref a0), .val (.int i1), .val (.int i2), .val (.int i3), .val (.int i4), .val (.int i5), .val (.int i6), .val (.int i7), .val (.int i8)] [(.int (A_a0 (i1 + i8).toNatClampNeg))])) _
        refine XS.sipush X0.here hx rfl (hb hby d1_212) ?_
        show Steps p.tables e below (T0.setTop (mkF m 215 #[.val (.ref a0), .val (.int i1), .val (.int i2), .val (.int i3), .val (.int i4), .val (.int i5), .val (.int i6), .val (.int i7), .val (.int i8)] [(.int (192 : Int32)), (.int (A_a0 (i1 + i8).toNatClampNeg))])) _
        refine XS.iand X0.here hx rfl (hb hby d1_215) rfl ?_
        show Steps p.tables e below (T0.setTop (mkF m 216 #[.val (.ref a0), .val (.int i1), .val (.int i2), .val (.int i3), .val (.int i4), .val (.int i5), .val (.int i6), .val (.int i7), .val (.int i8)] [(.int ((A_a0 (i1 + i8).toNatClampNeg) &&& (192 : Int32)))])) _
        refine XS.sipush X0.here hx rfl (hb hby d1_216) ?_
        exact kt
      by_cases hc219 : ((A_a0 (i1 + i8).toNatClampNeg) &&& (192 : Int32)) = (128 : Int32)
      · have pre3 : ∀ target, Steps p.tables e below (T0.setTop (mkF m 199 #[.val (.ref a0), .val (.int i1), .val (.int i2), .val (.int i3), .val (.int i4), .val (.int i5), .val (.int i6), .val (.int i7), .val (.int (i8 + (1 : Int32)))] [])) target → Steps p.tables e below (T0.setTop (mkF m 199 #[.val (.ref a0), .val (.int i1), .val (.int i2), .val (.int i3), .val (.int i4), .val (.int i5), .val (.int i6), .val (.int i7), .val (.int i8)] [])) target := by
          intro target kt
          refine pre2 target ?_
          show Steps p.tables e below (T0.setTop (mkF m 219 #[.val (.ref a0), .val (.int i1), .val (.int i2), .val (.int i3), .val (.int i4), .val (.int i5), .val (.int i6), .val (.int i7), .val (.int i8)] [(.int (128 : Int32)), (.int ((A_a0 (i1 + i8).toNatClampNeg) &&& (192 : Int32)))])) _
          refine XS.icmpYes X0.here hx rfl (pc0 := 219) (pc' := 224) rfl (hb hby d1_219) rfl (teq hc219).1 (by decide) (by decide) ?_
          show Steps p.tables e below (T0.setTop (mkF m 224 #[.val (.ref a0), .val (.int i1), .val (.int i2), .val (.int i3), .val (.int i4), .val (.int i5), .val (.int i6), .val (.int i7), .val (.int i8)] [])) _
          refine XS.iinc X0.here hx rfl (hb hby d1_224) rfl (l' := #[.val (.ref a0), .val (.int i1), .val (.int i2), .val (.int i3), .val (.int i4), .val (.int i5), .val (.int i6), .val (.int i7), .val (.int (i8 + (1 : Int32)))]) rfl ?_
          show Steps p.tables e below (T0.setTop (mkF m 227 #[.val (.ref a0), .val (.int i1), .val (.int i2), .val (.int i3), .val (.int i4), .val (.int i5), .val (.int i6), .val (.int i7), .val (.int (i8 + (1 : Int32)))] [])) _
          refine XS.goto X0.here hx rfl (pc0 := 227) (pc' := 199) rfl (hb hby d1_227) (by decide) (by decide) ?_
          exact kt
        have hI4 : n_a0 = 5 ∧ (i1 = 0 ∨ i1 = 1) ∧ i4.toInt ≤ 4 ∧ 2 ≤ (i8 + (1 : Int32)).toInt := by exact own_iv hI hc203
        have hk4 : (4 - (i8 + (1 : Int32)).toInt).toNat < k := by exact own_mu hI hc203 hk
        obtain ⟨T4, X4, e4, st4⟩ := ih a0 i1 i2 i3 i4 i5 i6 i7 (i8 + (1 : Int32)) n_a0 A_a0 X0 e0 hcl hsl V_a0 hI4 hk4
        have hv : (own_f1_199 (k + 1) i1 i2 i3 i4 i5 i6 i7 i8 n_a0 A_a0) = (own_f1_199 k i1 i2 i3 i4 i5 i6 i7 (i8 + (1 : Int32)) n_a0 A_a0) := by rw [own_f1_199_s]; rw [if_pos hc203, if_pos hc219]
        exact ⟨T4, X4, e4, fun fs hr => pre3 _ (st4 fs (by rw [hv] at hr; exact hr))⟩
      · refine ⟨T0, X0, e0, fun fs hr => ?_⟩
        have hv : (own_f1_199 (k + 1) i1 i2 i3 i4 i5 i6 i7 i8 n_a0 A_a0) = (0 : Int32) := by rw [own_f1_199_s]; rw [if_pos hc203, if_neg hc219]
        rw [hv] at hr
        refine pre2 _ ?_
        show Steps p.tables e below (T0.setTop (mkF m 219 #[.val (.ref a0), .val (.int i1), .val (.int i2), .val (.int i3), .val (.int i4), .val (.int i5), .val (.int i6), .val (.int i7), .val (.int i8)] [(.int (128 : Int32)), (.int ((A_a0 (i1 + i8).toNatClampNeg) &&& (192 : Int32)))])) _
        refine XS.icmpNo X0.here hx rfl (hb hby d1_219) rfl (feq hc219).1 ?_
        show Steps p.tables e below (T0.setTop (mkF m 222 #[.val (.ref a0), .val (.int i1), .val (.int i2), .val (.int i3), .val (.int i4), .val (.int i5), .val (.int i6), .val (.int i7), .val (.int i8)] [])) _
        refine XS.iconst X0.here hx rfl (hb hby d1_222) ?_
        show Steps p.tables e below (T0.setTop (mkF m 223 #[.val (.ref a0), .val (.int i1), .val (.int i2), .val (.int i3), .val (.int i4), .val (.int i5), .val (.int i6), .val (.int i7), .val (.int i8)] [(.int (0 : Int32))])) _
        exact retI X0 hx hret (hb hby d1_223) hr
    · refine ⟨T0, X0, e0, fun fs hr => ?_⟩
      have hv : (own_f1_199 (k + 1) i1 i2 i3 i4 i5 i6 i7 i8 n_a0 A_a0) = i4 := by rw [own_f1_199_s]; rw [if_neg hc203]
      rw [hv] at hr
      refine pre1 _ ?_
      show Steps p.tables e below (T0.setTop (mkF m 203 #[.val (.ref a0), .val (.int i1), .val (.int i2), .val (.int i3), .val (.int i4), .val (.int i5), .val (.int i6), .val (.int i7), .val (.int i8)] [(.int i4), (.int i8)])) _
      refine XS.icmpYes X0.here hx rfl (pc0 := 203) (pc' := 230) rfl (hb hby d1_203) rfl (flt hc203).2.1 (by decide) (by decide) ?_
      show Steps p.tables e below (T0.setTop (mkF m 230 #[.val (.ref a0), .val (.int i1), .val (.int i2), .val (.int i3), .val (.int i4), .val (.int i5), .val (.int i6), .val (.int i7), .val (.int i8)] [])) _
      refine XS.iload X0.here hx rfl (hb hby d1_230) rfl ?_
      show Steps p.tables e below (T0.setTop (mkF m 232 #[.val (.ref a0), .val (.int i1), .val (.int i2), .val (.int i3), .val (.int i4), .val (.int i5), .val (.int i6), .val (.int i7), .val (.int i8)] [(.int i4)])) _
      exact retI X0 hx hret (hb hby d1_232) hr
set_option maxRecDepth 65536 in
set_option maxHeartbeats 40000000 in
theorem own_b1_159 {p : Program} {l : Launch} {e : Env} {s : State} {m : MethodId} {args : Array Value} {below : List Frame} {meth : Method} {c : Code} {Z : State} {a0_ : Array Value} (hx : p.tables.exec = Jvm.exec) (hZ : Z.Warmed39 s.vm) (hw : ∀ d ∈ tables_1, d.before a0_ Z = true) (hby : c.code = prog_97_method_3_code) (hml : c.maxLocals = 9) (hown : s.vm.findClass "com/example/open_brace/openbrace/text/Utf8" = some m.cls) (hret : meth.sig.returnType = some .int) {T0 : State} {locs : List Loc} {cells slots : Nat} {h0 : Heap} (a0 : Addr) (i1 : Int32) (i2 : Int32) (i3 : Int32) (i4 : Int32) (i5 : Int32) (i6 : Int32) (n_a0 : Int32) (A_a0 : Nat → Int32)
    (X0 : Stand p l e ({ frames := 0, cells := 0, slots := 0, locals := 0 } : Room) s m args below meth c T0 locs cells slots) (e0 : T0.heap = h0) (hcl : cells ≤ ({ frames := 0, cells := 0, slots := 0, locals := 0 } : Room).cells) (hsl : slots ≤ ({ frames := 0, cells := 0, slots := 0, locals := 0 } : Room).slots) (V_a0 : own_Ar Z h0 a0 .byte n_a0 A_a0) (hI : n_a0 = 5 ∧ (i1 = 0 ∨ i1 = 1) ∧ i4.toInt ≤ 4) :
    ∃ T', Stand p l e ({ frames := 0, cells := 0, slots := 0, locals := 0 } : Room) s m args below meth c T' locs cells slots ∧ T'.heap = h0 ∧ ∀ fs, (∀ (f : JFrame) (acts : List Action), f.method = m → f.locked = none → f.entered = [] → (doReturn e (T'.setTop f) acts (some (.int (own_f1_159 i1 i2 i3 i4 i5 i6 n_a0 A_a0)))).1 = T'.setFrames fs) → Steps p.tables e below (T0.setTop (mkF m 159 #[.val (.ref a0), .val (.int i1), .val (.int i2), .val (.int i3), .val (.int i4), .val (.int i5), .val (.int i6), .unset, .unset] [])) (T'.setFrames fs) := by
  have pre1 : ∀ target, Steps p.tables e below (T0.setTop (mkF m 164 #[.val (.ref a0), .val (.int i1), .val (.int i2), .val (.int i3), .val (.int i4), .val (.int i5), .val (.int i6), .unset, .unset] [(.int i4), (.int (i2 - i1))])) target → Steps p.tables e below (T0.setTop (mkF m 159 #[.val (.ref a0), .val (.int i1), .val (.int i2), .val (.int i3), .val (.int i4), .val (.int i5), .val (.int i6), .unset, .unset] [])) target := by
    intro target kt
    show Steps p.tables e below (T0.setTop (mkF m 159 #[.val (.ref a0), .val (.int i1), .val (.int i2), .val (.int i3), .val (.int i4), .val (.int i5), .val (.int i6), .unset, .unset] [])) _
    refine XS.iloadN X0.here hx rfl (hb hby d1_159) rfl ?_
    show Steps p.tables e below (T0.setTop (mkF m 160 #[.val (.ref a0), .val (.int i1), .val (.int i2), .val (.int i3), .val (.int i4), .val (.int i5), .val (.int i6), .unset, .unset] [(.int i2)])) _
    refine XS.iloadN X0.here hx rfl (hb hby d1_160) rfl ?_
    show Steps p.tables e below (T0.setTop (mkF m 161 #[.val (.ref a0), .val (.int i1), .val (.int i2), .val (.int i3), .val (.int i4), .val (.int i5), .val (.int i6), .unset, .unset] [(.int i1), (.int i2)])) _
    refine XS.isub X0.here hx rfl (hb hby d1_161) rfl ?_
    show Steps p.tables e below (T0.setTop (mkF m 162 #[.val (.ref a0), .val (.int i1), .val (.int i2), .val (.int i3), .val (.int i4), .val (.int i5), .val (.int i6), .unset, .unset] [(.int (i2 - i1))])) _
    refine XS.iload X0.here hx rfl (hb hby d1_162) rfl ?_
    exact kt
  by_cases hc164 : (i2 - i1) < i4
  · refine ⟨T0, X0, e0, fun fs hr => ?_⟩
    have hv : (own_f1_159 i1 i2 i3 i4 i5 i6 n_a0 A_a0) = (0 : Int32) := by unfold own_f1_159; rw [if_pos hc164]
    rw [hv] at hr
    refine pre1 _ ?_
    show Steps p.tables e below (T0.setTop (mkF m 164 #[.val (.ref a0), .val (.int i1), .val (.int i2), .val (.int i3), .val (.int i4), .val (.int i5), .val (.int i6), .unset, .unset] [(.int i4), (.int (i2 - i1))])) _
    refine XS.icmpNo X0.here hx rfl (hb hby d1_164) rfl (tlt hc164).2.1 ?_
    show Steps p.tables e below (T0.setTop (mkF m 167 #[.val (.ref a0), .val (.int i1), .val (.int i2), .val (.int i3), .val (.int i4), .val (.int i5), .val (.int i6), .unset, .unset] [])) _
    refine XS.iconst X0.here hx rfl (hb hby d1_167) ?_
    show Steps p.tables e below (T0.setTop (mkF m 168 #[.val (.ref a0), .val (.int i1), .val (.int i2), .val (.int i3), .val (.int i4), .val (.int i5), .val (.int i6), .unset, .unset] [(.int (0 : Int32))])) _
    exact retI X0 hx hret (hb hby d1_168) hr
  · have hix173 : ¬ (i1 + (1 : Int32)) < 0 ∧ (i1 + (1 : Int32)) < n_a0 := by exact own_ix1 ⟨hI.1, hI.2.1⟩
    have pre2 : ∀ target, Steps p.tables e below (T0.setTop (mkF m 184 #[.val (.ref a0), .val (.int i1), .val (.int i2), .val (.int i3), .val (.int i4), .val (.int i5), .val (.int i6), .val (.int ((A_a0 (i1 + (1 : Int32)).toNatClampNeg) &&& (255 : Int32))), .unset] [(.int i5), (.int ((A_a0 (i1 + (1 : Int32)).toNatClampNeg) &&& (255 : Int32)))])) target → Steps p.tables e below (T0.setTop (mkF m 159 #[.val (.ref a0), .val (.int i1), .val (.int i2), .val (.int i3), .val (.int i4), .val (.int i5), .val (.int i6), .unset, .unset] [])) target := by
      intro target kt
      refine pre1 target ?_
      show Steps p.tables e below (T0.setTop (mkF m 164 #[.val (.ref a0), .val (.int i1), .val (.int i2), .val (.int i3), .val (.int i4), .val (.int i5), .val (.int i6), .unset, .unset] [(.int i4), (.int (i2 - i1))])) _
      refine XS.icmpYes X0.here hx rfl (pc0 := 164) (pc' := 169) rfl (hb hby d1_164) rfl (flt hc164).2.1 (by decide) (by decide) ?_
      show Steps p.tables e below (T0.setTop (mkF m 169 #[.val (.ref a0), .val (.int i1), .val (.int i2), .val (.int i3), .val (.int i4), .val (.int i5), .val (.int i6), .unset, .unset] [])) _
      refine XS.aloadN X0.here hx rfl (hb hby d1_169) rfl rfl ?_
      show Steps p.tables e below (T0.setTop (mkF m 170 #[.val (.ref a0), .val (.int i1), .val (.int i2), .val (.int i3), .val (.int i4), .val (.int i5), .val (.int i6), .unset, .unset] [(.ref a0)])) _
      refine XS.iloadN X0.here hx rfl (hb hby d1_170) rfl ?_
      show Steps p.tables e below (T0.setTop (mkF m 171 #[.val (.ref a0), .val (.int i1), .val (.int i2), .val (.int i3), .val (.int i4), .val (.int i5), .val (.int i6), .unset, .unset] [(.int i1), (.ref a0)])) _
      refine XS.iconst X0.here hx rfl (hb hby d1_171) ?_
      show Steps p.tables e below (T0.setTop (mkF m 172 #[.val (.ref a0), .val (.int i1), .val (.int i2), .val (.int i3), .val (.int i4), .val (.int i5), .val (.int i6), .unset, .unset] [(.int (1 : Int32)), (.int i1), (.ref a0)])) _
      refine XS.iadd X0.here hx rfl (hb hby d1_172) rfl ?_
      show Steps p.tables e below (T0.setTop (mkF m 173 #[.val (.ref a0), .val (.int i1), .val (.int i2), .val (.int i3), .val (.int i4), .val (.int i5), .val (.int i6), .unset, .unset] [(.int (i1 + (1 : Int32))), (.ref a0)])) _
      refine own_ldB X0 hx hZ e0 V_a0 hix173 (g := (mkF m 173 #[.val (.ref a0), .val (.int i1), .val (.int i2), .val (.int i3), .val (.int i4), .val (.int i5), .val (.int i6), .unset, .unset] [(.int (i1 + (1 : Int32))), (.ref a0)])) rfl rfl (hb hby d1_173) _ ?_
      show Steps p.tables e below (T0.setTop (mkF m 174 #[.val (.ref a0), .val (.int i1), .val (.int i2), .val (.int i3), .val (.int i4), .val (.int i5), .val (.int i6), .unset, .unset] [(.int (A_a0 (i1 + (1 : Int32)).toNatClampNeg))])) _
      refine XS.sipush X0.here hx rfl (hb hby d1_174) ?_
      show Steps p.tables e below (T0.setTop (mkF m 177 #[.val (.ref a0), .val (.int i1), .val (.int i2), .val (.int i3), .val (.int i4), .val (.int i5), .val (.int i6), .unset, .unset] [(.int (255 : Int32)), (.int (A_a0 (i1 + (1 : Int32)).toNatClampNeg))])) _
      refine XS.iand X0.here hx rfl (hb hby d1_177) rfl ?_
      show Steps p.tables e below (T0.setTop (mkF m 178 #[.val (.ref a0), .val (.int i1), .val (.int i2), .val (.int i3), .val (.int i4), .val (.int i5), .val (.int i6), .unset, .unset] [(.int ((A_a0 (i1 + (1 : Int32)).toNatClampNeg) &&& (255 : Int32)))])) _
      refine XS.istore X0.here hx rfl (hb hby d1_178) rfl (l' := #[.val (.ref a0), .val (.int i1), .val (.int i2), .val (.int i3), .val (.int i4), .val (.int i5), .val (.int i6), .val (.int ((A_a0 (i1 + (1 : Int32)).toNatClampNeg) &&& (255 : Int32))), .unset]) rfl ?_
      show Steps p.tables e below (T0.setTop (mkF m 180 #[.val (.ref a0), .val (.int i1), .val (.int i2), .val (.int i3), .val (.int i4), .val (.int i5), .val (.int i6), .val (.int ((A_a0 (i1 + (1 : Int32)).toNatClampNeg) &&& (255 : Int32))), .unset] [])) _
      refine XS.iload X0.here hx rfl (hb hby d1_180) rfl ?_
      show Steps p.tables e below (T0.setTop (mkF m 182 #[.val (.ref a0), .val (.int i1), .val (.int i2), .val (.int i3), .val (.int i4), .val (.int i5), .val (.int i6), .val (.int ((A_a0 (i1 + (1 : Int32)).toNatClampNeg) &&& (255 : Int32))), .unset] [(.int ((A_a0 (i1 + (1 : Int32)).toNatClampNeg) &&& (255 : Int32)))])) _
      refine XS.iload X0.here hx rfl (hb hby d1_182) rfl ?_
      exact kt
    by_cases hc184 : ((A_a0 (i1 + (1 : Int32)).toNatClampNeg) &&& (255 : Int32)) < i5
    · refine ⟨T0, X0, e0, fun fs hr => ?_⟩
      have hv : (own_f1_159 i1 i2 i3 i4 i5 i6 n_a0 A_a0) = (0 : Int32) := by unfold own_f1_159; rw [if_neg hc164, if_pos hc184]
      rw [hv] at hr
      refine pre2 _ ?_
      show Steps p.tables e below (T0.setTop (mkF m 184 #[.val (.ref a0), .val (.int i1), .val (.int i2), .val (.int i3), .val (.int i4), .val (.int i5), .val (.int i6), .val (.int ((A_a0 (i1 + (1 : Int32)).toNatClampNeg) &&& (255 : Int32))), .unset] [(.int i5), (.int ((A_a0 (i1 + (1 : Int32)).toNatClampNeg) &&& (255 : Int32)))])) _
      refine XS.icmpYes X0.here hx rfl (pc0 := 184) (pc' := 194) rfl (hb hby d1_184) rfl (tlt hc184).1 (by decide) (by decide) ?_
      show Steps p.tables e below (T0.setTop (mkF m 194 #[.val (.ref a0), .val (.int i1), .val (.int i2), .val (.int i3), .val (.int i4), .val (.int i5), .val (.int i6), .val (.int ((A_a0 (i1 + (1 : Int32)).toNatClampNeg) &&& (255 : Int32))), .unset] [])) _
      refine XS.iconst X0.here hx rfl (hb hby d1_194) ?_
      show Steps p.tables e below (T0.setTop (mkF m 195 #[.val (.ref a0), .val (.int i1), .val (.int i2), .val (.int i3), .val (.int i4), .val (.int i5), .val (.int i6), .val (.int ((A_a0 (i1 + (1 : Int32)).toNatClampNeg) &&& (255 : Int32))), .unset] [(.int (0 : Int32))])) _
      exact retI X0 hx hret (hb hby d1_195) hr
    · have pre3 : ∀ target, Steps p.tables e below (T0.setTop (mkF m 191 #[.val (.ref a0), .val (.int i1), .val (.int i2), .val (.int i3), .val (.int i4), .val (.int i5), .val (.int i6), .val (.int ((A_a0 (i1 + (1 : Int32)).toNatClampNeg) &&& (255 : Int32))), .unset] [(.int i6), (.int ((A_a0 (i1 + (1 : Int32)).toNatClampNeg) &&& (255 : Int32)))])) target → Steps p.tables e below (T0.setTop (mkF m 159 #[.val (.ref a0), .val (.int i1), .val (.int i2), .val (.int i3), .val (.int i4), .val (.int i5), .val (.int i6), .unset, .unset] [])) target := by
        intro target kt
        refine pre2 target ?_
        show Steps p.tables e below (T0.setTop (mkF m 184 #[.val (.ref a0), .val (.int i1), .val (.int i2), .val (.int i3), .val (.int i4), .val (.int i5), .val (.int i6), .val (.int ((A_a0 (i1 + (1 : Int32)).toNatClampNeg) &&& (255 : Int32))), .unset] [(.int i5), (.int ((A_a0 (i1 + (1 : Int32)).toNatClampNeg) &&& (255 : Int32)))])) _
        refine XS.icmpNo X0.here hx rfl (hb hby d1_184) rfl (flt hc184).1 ?_
        show Steps p.tables e below (T0.setTop (mkF m 187 #[.val (.ref a0), .val (.int i1), .val (.int i2), .val (.int i3), .val (.int i4), .val (.int i5), .val (.int i6), .val (.int ((A_a0 (i1 + (1 : Int32)).toNatClampNeg) &&& (255 : Int32))), .unset] [])) _
        refine XS.iload X0.here hx rfl (hb hby d1_187) rfl ?_
        show Steps p.tables e below (T0.setTop (mkF m 189 #[.val (.ref a0), .val (.int i1), .val (.int i2), .val (.int i3), .val (.int i4), .val (.int i5), .val (.int i6), .val (.int ((A_a0 (i1 + (1 : Int32)).toNatClampNeg) &&& (255 : Int32))), .unset] [(.int ((A_a0 (i1 + (1 : Int32)).toNatClampNeg) &&& (255 : Int32)))])) _
        refine XS.iload X0.here hx rfl (hb hby d1_189) rfl ?_
        exact kt
      by_cases hc191 : i6 < ((A_a0 (i1 + (1 : Int32)).toNatClampNeg) &&& (255 : Int32))
      · refine ⟨T0, X0, e0, fun fs hr => ?_⟩
        have hv : (own_f1_159 i1 i2 i3 i4 i5 i6 n_a0 A_a0) = (0 : Int32) := by unfold own_f1_159; rw [if_neg hc164, if_neg hc184, if_pos hc191]
        rw [hv] at hr
        refine pre3 _ ?_
        show Steps p.tables e below (T0.setTop (mkF m 191 #[.val (.ref a0), .val (.int i1), .val (.int i2), .val (.int i3), .val (.int i4), .val (.int i5), .val (.int i6), .val (.int ((A_a0 (i1 + (1 : Int32)).toNatClampNeg) &&& (255 : Int32))), .unset] [(.int i6), (.int ((A_a0 (i1 + (1 : Int32)).toNatClampNeg) &&& (255 : Int32)))])) _
        refine XS.icmpNo X0.here hx rfl (hb hby d1_191) rfl (tlt hc191).2.2.2 ?_
        show Steps p.tables e below (T0.setTop (mkF m 194 #[.val (.ref a0), .val (.int i1), .val (.int i2), .val (.int i3), .val (.int i4), .val (.int i5), .val (.int i6), .val (.int ((A_a0 (i1 + (1 : Int32)).toNatClampNeg) &&& (255 : Int32))), .unset] [])) _
        refine XS.iconst X0.here hx rfl (hb hby d1_194) ?_
        show Steps p.tables e below (T0.setTop (mkF m 195 #[.val (.ref a0), .val (.int i1), .val (.int i2), .val (.int i3), .val (.int i4), .val (.int i5), .val (.int i6), .val (.int ((A_a0 (i1 + (1 : Int32)).toNatClampNeg) &&& (255 : Int32))), .unset] [(.int (0 : Int32))])) _
        exact retI X0 hx hret (hb hby d1_195) hr
      · have pre4 : ∀ target, Steps p.tables e below (T0.setTop (mkF m 199 #[.val (.ref a0), .val (.int i1), .val (.int i2), .val (.int i3), .val (.int i4), .val (.int i5), .val (.int i6), .val (.int ((A_a0 (i1 + (1 : Int32)).toNatClampNeg) &&& (255 : Int32))), .val (.int (2 : Int32))] [])) target → Steps p.tables e below (T0.setTop (mkF m 159 #[.val (.ref a0), .val (.int i1), .val (.int i2), .val (.int i3), .val (.int i4), .val (.int i5), .val (.int i6), .unset, .unset] [])) target := by
          intro target kt
          refine pre3 target ?_
          show Steps p.tables e below (T0.setTop (mkF m 191 #[.val (.ref a0), .val (.int i1), .val (.int i2), .val (.int i3), .val (.int i4), .val (.int i5), .val (.int i6), .val (.int ((A_a0 (i1 + (1 : Int32)).toNatClampNeg) &&& (255 : Int32))), .unset] [(.int i6), (.int ((A_a0 (i1 + (1 : Int32)).toNatClampNeg) &&& (255 : Int32)))])) _
          refine XS.icmpYes X0.here hx rfl (pc0 := 191) (pc' := 196) rfl (hb hby d1_191) rfl (flt hc191).2.2.2 (by decide) (by decide) ?_
          show Steps p.tables e below (T0.setTop (mkF m 196 #[.val (.ref a0), .val (.int i1), .val (.int i2), .val (.int i3), .val (.int i4), .val (.int i5), .val (.int i6), .val (.int ((A_a0 (i1 + (1 : Int32)).toNatClampNeg) &&& (255 : Int32))), .unset] [])) _
          refine XS.iconst X0.here hx rfl (hb hby d1_196) ?_
          show Steps p.tables e below (T0.setTop (mkF m 197 #[.val (.ref a0), .val (.int i1), .val (.int i2), .val (.int i3), .val (.int i4), .val (.int i5), .val (.int i6), .val (.int ((A_a0 (i1 + (1 : Int32)).toNatClampNeg) &&& (255 : Int32))), .unset] [(.int (2 : Int32))])) _
          refine XS.istore X0.here hx rfl (hb hby d1_197) rfl (l' := #[.val (.ref a0), .val (.int i1), .val (.int i2), .val (.int i3), .val (.int i4), .val (.int i5), .val (.int i6), .val (.int ((A_a0 (i1 + (1 : Int32)).toNatClampNeg) &&& (255 : Int32))), .val (.int (2 : Int32))]) rfl ?_
          exact kt
        have hI5 : n_a0 = 5 ∧ (i1 = 0 ∨ i1 = 1) ∧ i4.toInt ≤ 4 ∧ 2 ≤ (2 : Int32).toInt := by exact ⟨hI.1, hI.2.1, hI.2.2, by decide⟩
        have hk5 : (4 - (2 : Int32).toInt).toNat < (4 - (2 : Int32).toInt).toNat + 1 := by exact Nat.lt_succ_self _
        obtain ⟨T5, X5, e5, st5⟩ := own_b1_199 hx hZ hw hby hml hown hret ((4 - (2 : Int32).toInt).toNat + 1) a0 i1 i2 i3 i4 i5 i6 ((A_a0 (i1 + (1 : Int32)).toNatClampNeg) &&& (255 : Int32)) (2 : Int32) n_a0 A_a0 X0 e0 hcl hsl V_a0 hI5 hk5
        have hv : (own_f1_159 i1 i2 i3 i4 i5 i6 n_a0 A_a0) = (own_f1_199 ((4 - (2 : Int32).toInt).toNat + 1) i1 i2 i3 i4 i5 i6 ((A_a0 (i1 + (1 : Int32)).toNatClampNeg) &&& (255 : Int32)) (2 : Int32) n_a0 A_a0) := by unfold own_f1_159; rw [if_neg hc164, if_neg hc184, if_neg hc191]
        exact ⟨T5, X5, e5, fun fs hr => pre4 _ (st5 fs (by rw [hv] at hr; exact hr))⟩
set_option maxRecDepth 65536 in
set_option maxHeartbeats 40000000 in
theorem own_b1_139 {p : Program} {l : Launch} {e : Env} {s : State} {m : MethodId} {args : Array Value} {below : List Frame} {meth : Method} {c : Code} {Z : State} {a0_ : Array Value} (hx : p.tables.exec = Jvm.exec) (hZ : Z.Warmed39 s.vm) (hw : ∀ d ∈ tables_1, d.before a0_ Z = true) (hby : c.code = prog_97_method_3_code) (hml : c.maxLocals = 9) (hown : s.vm.findClass "com/example/open_brace/openbrace/text/Utf8" = some m.cls) (hret : meth.sig.returnType = some .int) {T0 : State} {locs : List Loc} {cells slots : Nat} {h0 : Heap} (a0 : Addr) (i1 : Int32) (i2 : Int32) (i3 : Int32) (i5 : Int32) (i6 : Int32) (n_a0 : Int32) (A_a0 : Nat → Int32)
    (X0 : Stand p l e ({ frames := 0, cells := 0, slots := 0, locals := 0 } : Room) s m args below meth c T0 locs cells slots) (e0 : T0.heap = h0) (hcl : cells ≤ ({ frames := 0, cells := 0, slots := 0, locals := 0 } : Room).cells) (hsl : slots ≤ ({ frames := 0, cells := 0, slots := 0, locals := 0 } : Room).slots) (V_a0 : own_Ar Z h0 a0 .byte n_a0 A_a0) (hI : n_a0 = 5 ∧ (i1 = 0 ∨ i1 = 1)) :
    ∃ T', Stand p l e ({ frames := 0, cells := 0, slots := 0, locals := 0 } : Room) s m args below meth c T' locs cells slots ∧ T'.heap = h0 ∧ ∀ fs, (∀ (f : JFrame) (acts : List Action), f.method = m → f.locked = none → f.entered = [] → (doReturn e (T'.setTop f) acts (some (.int (own_f1_139 i1 i2 i3 i5 i6 n_a0 A_a0)))).1 = T'.setFrames fs) → Steps p.tables e below (T0.setTop (mkF m 139 #[.val (.ref a0), .val (.int i1), .val (.int i2), .val (.int i3), .unset, .val (.int i5), .val (.int i6), .unset, .unset] [])) (T'.setFrames fs) := by
  have pre1 : ∀ target, Steps p.tables e below (T0.setTop (mkF m 143 #[.val (.ref a0), .val (.int i1), .val (.int i2), .val (.int i3), .unset, .val (.int i5), .val (.int i6), .unset, .unset] [(.int (244 : Int32)), (.int i3)])) target → Steps p.tables e below (T0.setTop (mkF m 139 #[.val (.ref a0), .val (.int i1), .val (.int i2), .val (.int i3), .unset, .val (.int i5), .val (.int i6), .unset, .unset] [])) target := by
    intro target kt
    show Steps p.tables e below (T0.setTop (mkF m 139 #[.val (.ref a0), .val (.int i1), .val (.int i2), .val (.int i3), .unset, .val (.int i5), .val (.int i6), .unset, .unset] [])) _
    refine XS.iloadN X0.here hx rfl (hb hby d1_139) rfl ?_
    show Steps p.tables e below (T0.setTop (mkF m 140 #[.val (.ref a0), .val (.int i1), .val (.int i2), .val (.int i3), .unset, .val (.int i5), .val (.int i6), .unset, .unset] [(.int i3)])) _
    refine XS.sipush X0.here hx rfl (hb hby d1_140) ?_
    exact kt
  by_cases hc143 : i3 = (244 : Int32)
  · have pre2 : ∀ target, Steps p.tables e below (T0.setTop (mkF m 159 #[.val (.ref a0), .val (.int i1), .val (.int i2), .val (.int i3), .val (.int (4 : Int32)), .val (.int i5), .val (.int (143 : Int32)), .unset, .unset] [])) target → Steps p.tables e below (T0.setTop (mkF m 139 #[.val (.ref a0), .val (.int i1), .val (.int i2), .val (.int i3), .unset, .val (.int i5), .val (.int i6), .unset, .unset] [])) target := by
      intro target kt
      refine pre1 target ?_
      show Steps p.tables e below (T0.setTop (mkF m 143 #[.val (.ref a0), .val (.int i1), .val (.int i2), .val (.int i3), .unset, .val (.int i5), .val (.int i6), .unset, .unset] [(.int (244 : Int32)), (.int i3)])) _
      refine XS.icmpNo X0.here hx rfl (hb hby d1_143) rfl (teq hc143).2 ?_
      show Steps p.tables e below (T0.setTop (mkF m 146 #[.val (.ref a0), .val (.int i1), .val (.int i2), .val (.int i3), .unset, .val (.int i5), .val (.int i6), .unset, .unset] [])) _
      refine XS.iconst X0.here hx rfl (hb hby d1_146) ?_
      show Steps p.tables e below (T0.setTop (mkF m 147 #[.val (.ref a0), .val (.int i1), .val (.int i2), .val (.int i3), .unset, .val (.int i5), .val (.int i6), .unset, .unset] [(.int (4 : Int32))])) _
      refine XS.istore X0.here hx rfl (hb hby d1_147) rfl (l' := #[.val (.ref a0), .val (.int i1), .val (.int i2), .val (.int i3), .val (.int (4 : Int32)), .val (.int i5), .val (.int i6), .unset, .unset]) rfl ?_
      show Steps p.tables e below (T0.setTop (mkF m 149 #[.val (.ref a0), .val (.int i1), .val (.int i2), .val (.int i3), .val (.int (4 : Int32)), .val (.int i5), .val (.int i6), .unset, .unset] [])) _
      refine XS.sipush X0.here hx rfl (hb hby d1_149) ?_
      show Steps p.tables e below (T0.setTop (mkF m 152 #[.val (.ref a0), .val (.int i1), .val (.int i2), .val (.int i3), .val (.int (4 : Int32)), .val (.int i5), .val (.int i6), .unset, .unset] [(.int (143 : Int32))])) _
      refine XS.istore X0.here hx rfl (hb hby d1_152) rfl (l' := #[.val (.ref a0), .val (.int i1), .val (.int i2), .val (.int i3), .val (.int (4 : Int32)), .val (.int i5), .val (.int (143 : Int32)), .unset, .unset]) rfl ?_
      show Steps p.tables e below (T0.setTop (mkF m 154 #[.val (.ref a0), .val (.int i1), .val (.int i2), .val (.int i3), .val (.int (4 : Int32)), .val (.int i5), .val (.int (143 : Int32)), .unset, .unset] [])) _
      refine XS.goto X0.here hx rfl (pc0 := 154) (pc' := 159) rfl (hb hby d1_154) (by decide) (by decide) ?_
      exact kt
    have hI3 : n_a0 = 5 ∧ (i1 = 0 ∨ i1 = 1) ∧ (4 : Int32).toInt ≤ 4 := by exact ⟨hI.1, hI.2, by decide⟩
    obtain ⟨T3, X3, e3, st3⟩ := own_b1_159 hx hZ hw hby hml hown hret a0 i1 i2 i3 (4 : Int32) i5 (143 : Int32) n_a0 A_a0 X0 e0 hcl hsl V_a0 hI3
    have hv : (own_f1_139 i1 i2 i3 i5 i6 n_a0 A_a0) = (own_f1_159 i1 i2 i3 (4 : Int32) i5 (143 : Int32) n_a0 A_a0) := by unfold own_f1_139; rw [if_pos hc143]
    exact ⟨T3, X3, e3, fun fs hr => pre2 _ (st3 fs (by rw [hv] at hr; exact hr))⟩
  · refine ⟨T0, X0, e0, fun fs hr => ?_⟩
    have hv : (own_f1_139 i1 i2 i3 i5 i6 n_a0 A_a0) = (0 : Int32) := by unfold own_f1_139; rw [if_neg hc143]
    rw [hv] at hr
    refine pre1 _ ?_
    show Steps p.tables e below (T0.setTop (mkF m 143 #[.val (.ref a0), .val (.int i1), .val (.int i2), .val (.int i3), .unset, .val (.int i5), .val (.int i6), .unset, .unset] [(.int (244 : Int32)), (.int i3)])) _
    refine XS.icmpYes X0.here hx rfl (pc0 := 143) (pc' := 157) rfl (hb hby d1_143) rfl (feq hc143).2 (by decide) (by decide) ?_
    show Steps p.tables e below (T0.setTop (mkF m 157 #[.val (.ref a0), .val (.int i1), .val (.int i2), .val (.int i3), .unset, .val (.int i5), .val (.int i6), .unset, .unset] [])) _
    refine XS.iconst X0.here hx rfl (hb hby d1_157) ?_
    show Steps p.tables e below (T0.setTop (mkF m 158 #[.val (.ref a0), .val (.int i1), .val (.int i2), .val (.int i3), .unset, .val (.int i5), .val (.int i6), .unset, .unset] [(.int (0 : Int32))])) _
    exact retI X0 hx hret (hb hby d1_158) hr
set_option maxRecDepth 65536 in
set_option maxHeartbeats 40000000 in
theorem own_b1_65 {p : Program} {l : Launch} {e : Env} {s : State} {m : MethodId} {args : Array Value} {below : List Frame} {meth : Method} {c : Code} {Z : State} {a0_ : Array Value} (hx : p.tables.exec = Jvm.exec) (hZ : Z.Warmed39 s.vm) (hw : ∀ d ∈ tables_1, d.before a0_ Z = true) (hby : c.code = prog_97_method_3_code) (hml : c.maxLocals = 9) (hown : s.vm.findClass "com/example/open_brace/openbrace/text/Utf8" = some m.cls) (hret : meth.sig.returnType = some .int) {T0 : State} {locs : List Loc} {cells slots : Nat} {h0 : Heap} (a0 : Addr) (i1 : Int32) (i2 : Int32) (i3 : Int32) (i5 : Int32) (i6 : Int32) (n_a0 : Int32) (A_a0 : Nat → Int32)
    (X0 : Stand p l e ({ frames := 0, cells := 0, slots := 0, locals := 0 } : Room) s m args below meth c T0 locs cells slots) (e0 : T0.heap = h0) (hcl : cells ≤ ({ frames := 0, cells := 0, slots := 0, locals := 0 } : Room).cells) (hsl : slots ≤ ({ frames := 0, cells := 0, slots := 0, locals := 0 } : Room).slots) (V_a0 : own_Ar Z h0 a0 .byte n_a0 A_a0) (hI : n_a0 = 5 ∧ (i1 = 0 ∨ i1 = 1)) :
    ∃ T', Stand p l e ({ frames := 0, cells := 0, slots := 0, locals := 0 } : Room) s m args below meth c T' locs cells slots ∧ T'.heap = h0 ∧ ∀ fs, (∀ (f : JFrame) (acts : List Action), f.method = m → f.locked = none → f.entered = [] → (doReturn e (T'.setTop f) acts (some (.int (own_f1_65 i1 i2 i3 i5 i6 n_a0 A_a0)))).1 = T'.setFrames fs) → Steps p.tables e below (T0.setTop (mkF m 65 #[.val (.ref a0), .val (.int i1), .val (.int i2), .val (.int i3), .unset, .val (.int i5), .val (.int i6), .unset, .unset] [])) (T'.setFrames fs) := by
  have pre1 : ∀ target, Steps p.tables e below (T0.setTop (mkF m 69 #[.val (.ref a0), .val (.int i1), .val (.int i2), .val (.int i3), .unset, .val (.int i5), .val (.int i6), .unset, .unset] [(.int (224 : Int32)), (.int i3)])) target → Steps p.tables e below (T0.setTop (mkF m 65 #[.val (.ref a0), .val (.int i1), .val (.int i2), .val (.int i3), .unset, .val (.int i5), .val (.int i6), .unset, .unset] [])) target := by
    intro target kt
    show Steps p.tables e below (T0.setTop (mkF m 65 #[.val (.ref a0), .val (.int i1), .val (.int i2), .val (.int i3), .unset, .val (.int i5), .val (.int i6), .unset, .unset] [])) _
    refine XS.iloadN X0.here hx rfl (hb hby d1_65) rfl ?_
    show Steps p.tables e below (T0.setTop (mkF m 66 #[.val (.ref a0), .val (.int i1), .val (.int i2), .val (.int i3), .unset, .val (.int i5), .val (.int i6), .unset, .unset] [(.int i3)])) _
    refine XS.sipush X0.here hx rfl (hb hby d1_66) ?_
    exact kt
  by_cases hc69 : i3 = (224 : Int32)
  · have pre2 : ∀ target, Steps p.tables e below (T0.setTop (mkF m 159 #[.val (.ref a0), .val (.int i1), .val (.int i2), .val (.int i3), .val (.int (3 : Int32)), .val (.int (160 : Int32)), .val (.int i6), .unset, .unset] [])) target → Steps p.tables e below (T0.setTop (mkF m 65 #[.val (.ref a0), .val (.int i1), .val (.int i2), .val (.int i3), .unset, .val (.int i5), .val (.int i6), .unset, .unset] [])) target := by
      intro target kt
      refine pre1 target ?_
      show Steps p.tables e below (T0.setTop (mkF m 69 #[.val (.ref a0), .val (.int i1), .val (.int i2), .val (.int i3), .unset, .val (.int i5), .val (.int i6), .unset, .unset] [(.int (224 : Int32)), (.int i3)])) _
      refine XS.icmpNo X0.here hx rfl (hb hby d1_69) rfl (teq hc69).2 ?_
      show Steps p.tables e below (T0.setTop (mkF m 72 #[.val (.ref a0), .val (.int i1), .val (.int i2), .val (.int i3), .unset, .val (.int i5), .val (.int i6), .unset, .unset] [])) _
      refine XS.iconst X0.here hx rfl (hb hby d1_72) ?_
      show Steps p.tables e below (T0.setTop (mkF m 73 #[.val (.ref a0), .val (.int i1), .val (.int i2), .val (.int i3), .unset, .val (.int i5), .val (.int i6), .unset, .unset] [(.int (3 : Int32))])) _
      refine XS.istore X0.here hx rfl (hb hby d1_73) rfl (l' := #[.val (.ref a0), .val (.int i1), .val (.int i2), .val (.int i3), .val (.int (3 : Int32)), .val (.int i5), .val (.int i6), .unset, .unset]) rfl ?_
      show Steps p.tables e below (T0.setTop (mkF m 75 #[.val (.ref a0), .val (.int i1), .val (.int i2), .val (.int i3), .val (.int (3 : Int32)), .val (.int i5), .val (.int i6), .unset, .unset] [])) _
      refine XS.sipush X0.here hx rfl (hb hby d1_75) ?_
      show Steps p.tables e below (T0.setTop (mkF m 78 #[.val (.ref a0), .val (.int i1), .val (.int i2), .val (.int i3), .val (.int (3 : Int32)), .val (.int i5), .val (.int i6), .unset, .unset] [(.int (160 : Int32))])) _
      refine XS.istore X0.here hx rfl (hb hby d1_78) rfl (l' := #[.val (.ref a0), .val (.int i1), .val (.int i2), .val (.int i3), .val (.int (3 : Int32)), .val (.int (160 : Int32)), .val (.int i6), .unset, .unset]) rfl ?_
      show Steps p.tables e below (T0.setTop (mkF m 80 #[.val (.ref a0), .val (.int i1), .val (.int i2), .val (.int i3), .val (.int (3 : Int32)), .val (.int (160 : Int32)), .val (.int i6), .unset, .unset] [])) _
      refine XS.goto X0.here hx rfl (pc0 := 80) (pc' := 159) rfl (hb hby d1_80) (by decide) (by decide) ?_
      exact kt
    have hI3 : n_a0 = 5 ∧ (i1 = 0 ∨ i1 = 1) ∧ (3 : Int32).toInt ≤ 4 := by exact ⟨hI.1, hI.2, by decide⟩
    obtain ⟨T3, X3, e3, st3⟩ := own_b1_159 hx hZ hw hby hml hown hret a0 i1 i2 i3 (3 : Int32) (160 : Int32) i6 n_a0 A_a0 X0 e0 hcl hsl V_a0 hI3
    have hv : (own_f1_65 i1 i2 i3 i5 i6 n_a0 A_a0) = (own_f1_159 i1 i2 i3 (3 : Int32) (160 : Int32) i6 n_a0 A_a0) := by unfold own_f1_65; rw [if_pos hc69]
    exact ⟨T3, X3, e3, fun fs hr => pre2 _ (st3 fs (by rw [hv] at hr; exact hr))⟩
  · have pre4 : ∀ target, Steps p.tables e below (T0.setTop (mkF m 87 #[.val (.ref a0), .val (.int i1), .val (.int i2), .val (.int i3), .unset, .val (.int i5), .val (.int i6), .unset, .unset] [(.int (237 : Int32)), (.int i3)])) target → Steps p.tables e below (T0.setTop (mkF m 65 #[.val (.ref a0), .val (.int i1), .val (.int i2), .val (.int i3), .unset, .val (.int i5), .val (.int i6), .unset, .unset] [])) target := by
      intro target kt
      refine pre1 target ?_
      show Steps p.tables e below (T0.setTop (mkF m 69 #[.val (.ref a0), .val (.int i1), .val (.int i2), .val (.int i3), .unset, .val (.int i5), .val (.int i6), .unset, .unset] [(.int (224 : Int32)), (.int i3)])) _
      refine XS.icmpYes X0.here hx rfl (pc0 := 69) (pc' := 83) rfl (hb hby d1_69) rfl (feq hc69).2 (by decide) (by decide) ?_
      show Steps p.tables e below (T0.setTop (mkF m 83 #[.val (.ref a0), .val (.int i1), .val (.int i2), .val (.int i3), .unset, .val (.int i5), .val (.int i6), .unset, .unset] [])) _
      refine XS.iloadN X0.here hx rfl (hb hby d1_83) rfl ?_
      show Steps p.tables e below (T0.setTop (mkF m 84 #[.val (.ref a0), .val (.int i1), .val (.int i2), .val (.int i3), .unset, .val (.int i5), .val (.int i6), .unset, .unset] [(.int i3)])) _
      refine XS.sipush X0.here hx rfl (hb hby d1_84) ?_
      exact kt
    by_cases hc87 : i3 = (237 : Int32)
    · have pre5 : ∀ target, Steps p.tables e below (T0.setTop (mkF m 159 #[.val (.ref a0), .val (.int i1), .val (.int i2), .val (.int i3), .val (.int (3 : Int32)), .val (.int i5), .val (.int (159 : Int32)), .unset, .unset] [])) target → Steps p.tables e below (T0.setTop (mkF m 65 #[.val (.ref a0), .val (.int i1), .val (.int i2), .val (.int i3), .unset, .val (.int i5), .val (.int i6), .unset, .unset] [])) target := by
        intro target kt
        refine pre4 target ?_
        show Steps p.tables e below (T0.setTop (mkF m 87 #[.val (.ref a0), .val (.int i1), .val (.int i2), .val (.int i3), .unset, .val (.int i5), .val (.int i6), .unset, .unset] [(.int (237 : Int32)), (.int i3)])) _
        refine XS.icmpNo X0.here hx rfl (hb hby d1_87) rfl (teq hc87).2 ?_
        show Steps p.tables e below (T0.setTop (mkF m 90 #[.val (.ref a0), .val (.int i1), .val (.int i2), .val (.int i3), .unset, .val (.int i5), .val (.int i6), .unset, .unset] [])) _
        refine XS.iconst X0.here hx rfl (hb hby d1_90) ?_
        show Steps p.tables e below (T0.setTop (mkF m 91 #[.val (.ref a0), .val (.int i1), .val (.int i2), .val (.int i3), .unset, .val (.int i5), .val (.int i6), .unset, .unset] [(.int (3 : Int32))])) _
        refine XS.istore X0.here hx rfl (hb hby d1_91) rfl (l' := #[.val (.ref a0), .val (.int i1), .val (.int i2), .val (.int i3), .val (.int (3 : Int32)), .val (.int i5), .val (.int i6), .unset, .unset]) rfl ?_
        show Steps p.tables e below (T0.setTop (mkF m 93 #[.val (.ref a0), .val (.int i1), .val (.int i2), .val (.int i3), .val (.int (3 : Int32)), .val (.int i5), .val (.int i6), .unset, .unset] [])) _
        refine XS.sipush X0.here hx rfl (hb hby d1_93) ?_
        show Steps p.tables e below (T0.setTop (mkF m 96 #[.val (.ref a0), .val (.int i1), .val (.int i2), .val (.int i3), .val (.int (3 : Int32)), .val (.int i5), .val (.int i6), .unset, .unset] [(.int (159 : Int32))])) _
        refine XS.istore X0.here hx rfl (hb hby d1_96) rfl (l' := #[.val (.ref a0), .val (.int i1), .val (.int i2), .val (.int i3), .val (.int (3 : Int32)), .val (.int i5), .val (.int (159 : Int32)), .unset, .unset]) rfl ?_
        show Steps p.tables e below (T0.setTop (mkF m 98 #[.val (.ref a0), .val (.int i1), .val (.int i2), .val (.int i3), .val (.int (3 : Int32)), .val (.int i5), .val (.int (159 : Int32)), .unset, .unset] [])) _
        refine XS.goto X0.here hx rfl (pc0 := 98) (pc' := 159) rfl (hb hby d1_98) (by decide) (by decide) ?_
        exact kt
      have hI6 : n_a0 = 5 ∧ (i1 = 0 ∨ i1 = 1) ∧ (3 : Int32).toInt ≤ 4 := by exact ⟨hI.1, hI.2, by decide⟩
      obtain ⟨T6, X6, e6, st6⟩ := own_b1_159 hx hZ hw hby hml hown hret a0 i1 i2 i3 (3 : Int32) i5 (159 : Int32) n_a0 A_a0 X0 e0 hcl hsl V_a0 hI6
      have hv : (own_f1_65 i1 i2 i3 i5 i6 n_a0 A_a0) = (own_f1_159 i1 i2 i3 (3 : Int32) i5 (159 : Int32) n_a0 A_a0) := by unfold own_f1_65; rw [if_neg hc69, if_pos hc87]
      exact ⟨T6, X6, e6, fun fs hr => pre5 _ (st6 fs (by rw [hv] at hr; exact hr))⟩
    · have pre7 : ∀ target, Steps p.tables e below (T0.setTop (mkF m 105 #[.val (.ref a0), .val (.int i1), .val (.int i2), .val (.int i3), .unset, .val (.int i5), .val (.int i6), .unset, .unset] [(.int (240 : Int32)), (.int i3)])) target → Steps p.tables e below (T0.setTop (mkF m 65 #[.val (.ref a0), .val (.int i1), .val (.int i2), .val (.int i3), .unset, .val (.int i5), .val (.int i6), .unset, .unset] [])) target := by
        intro target kt
        refine pre4 target ?_
        show Steps p.tables e below (T0.setTop (mkF m 87 #[.val (.ref a0), .val (.int i1), .val (.int i2), .val (.int i3), .unset, .val (.int i5), .val (.int i6), .unset, .unset] [(.int (237 : Int32)), (.int i3)])) _
        refine XS.icmpYes X0.here hx rfl (pc0 := 87) (pc' := 101) rfl (hb hby d1_87) rfl (feq hc87).2 (by decide) (by decide) ?_
        show Steps p.tables e below (T0.setTop (mkF m 101 #[.val (.ref a0), .val (.int i1), .val (.int i2), .val (.int i3), .unset, .val (.int i5), .val (.int i6), .unset, .unset] [])) _
        refine XS.iloadN X0.here hx rfl (hb hby d1_101) rfl ?_
        show Steps p.tables e below (T0.setTop (mkF m 102 #[.val (.ref a0), .val (.int i1), .val (.int i2), .val (.int i3), .unset, .val (.int i5), .val (.int i6), .unset, .unset] [(.int i3)])) _
        refine XS.sipush X0.here hx rfl (hb hby d1_102) ?_
        exact kt
      by_cases hc105 : i3 = (240 : Int32)
      · have pre8 : ∀ target, Steps p.tables e below (T0.setTop (mkF m 159 #[.val (.ref a0), .val (.int i1), .val (.int i2), .val (.int i3), .val (.int (4 : Int32)), .val (.int (144 : Int32)), .val (.int i6), .unset, .unset] [])) target → Steps p.tables e below (T0.setTop (mkF m 65 #[.val (.ref a0), .val (.int i1), .val (.int i2), .val (.int i3), .unset, .val (.int i5), .val (.int i6), .unset, .unset] [])) target := by
          intro target kt
          refine pre7 target ?_
          show Steps p.tables e below (T0.setTop (mkF m 105 #[.val (.ref a0), .val (.int i1), .val (.int i2), .val (.int i3), .unset, .val (.int i5), .val (.int i6), .unset, .unset] [(.int (240 : Int32)), (.int i3)])) _
          refine XS.icmpNo X0.here hx rfl (hb hby d1_105) rfl (teq hc105).2 ?_
          show Steps p.tables e below (T0.setTop (mkF m 108 #[.val (.ref a0), .val (.int i1), .val (.int i2), .val (.int i3), .unset, .val (.int i5), .val (.int i6), .unset, .unset] [])) _
          refine XS.iconst X0.here hx rfl (hb hby d1_108) ?_
          show Steps p.tables e below (T0.setTop (mkF m 109 #[.val (.ref a0), .val (.int i1), .val (.int i2), .val (.int i3), .unset, .val (.int i5), .val (.int i6), .unset, .unset] [(.int (4 : Int32))])) _
          refine XS.istore X0.here hx rfl (hb hby d1_109) rfl (l' := #[.val (.ref a0), .val (.int i1), .val (.int i2), .val (.int i3), .val (.int (4 : Int32)), .val (.int i5), .val (.int i6), .unset, .unset]) rfl ?_
          show Steps p.tables e below (T0.setTop (mkF m 111 #[.val (.ref a0), .val (.int i1), .val (.int i2), .val (.int i3), .val (.int (4 : Int32)), .val (.int i5), .val (.int i6), .unset, .unset] [])) _
          refine XS.sipush X0.here hx rfl (hb hby d1_111) ?_
          show Steps p.tables e below (T0.setTop (mkF m 114 #[.val (.ref a0), .val (.int i1), .val (.int i2), .val (.int i3), .val (.int (4 : Int32)), .val (.int i5), .val (.int i6), .unset, .unset] [(.int (144 : Int32))])) _
          refine XS.istore X0.here hx rfl (hb hby d1_114) rfl (l' := #[.val (.ref a0), .val (.int i1), .val (.int i2), .val (.int i3), .val (.int (4 : Int32)), .val (.int (144 : Int32)), .val (.int i6), .unset, .unset]) rfl ?_
          show Steps p.tables e below (T0.setTop (mkF m 116 #[.val (.ref a0), .val (.int i1), .val (.int i2), .val (.int i3), .val (.int (4 : Int32)), .val (.int (144 : Int32)), .val (.int i6), .unset, .unset] [])) _
          refine XS.goto X0.here hx rfl (pc0 := 116) (pc' := 159) rfl (hb hby d1_116) (by decide) (by decide) ?_
          exact kt
        have hI9 : n_a0 = 5 ∧ (i1 = 0 ∨ i1 = 1) ∧ (4 : Int32).toInt ≤ 4 := by exact ⟨hI.1, hI.2, by decide⟩
        obtain ⟨T9, X9, e9, st9⟩ := own_b1_159 hx hZ hw hby hml hown hret a0 i1 i2 i3 (4 : Int32) (144 : Int32) i6 n_a0 A_a0 X0 e0 hcl hsl V_a0 hI9
        have hv : (own_f1_65 i1 i2 i3 i5 i6 n_a0 A_a0) = (own_f1_159 i1 i2 i3 (4 : Int32) (144 : Int32) i6 n_a0 A_a0) := by unfold own_f1_65; rw [if_neg hc69, if_neg hc87, if_pos hc105]
        exact ⟨T9, X9, e9, fun fs hr => pre8 _ (st9 fs (by rw [hv] at hr; exact hr))⟩
      · have pre10 : ∀ target, Steps p.tables e below (T0.setTop (mkF m 123 #[.val (.ref a0), .val (.int i1), .val (.int i2), .val (.int i3), .unset, .val (.int i5), .val (.int i6), .unset, .unset] [(.int (241 : Int32)), (.int i3)])) target → Steps p.tables e below (T0.setTop (mkF m 65 #[.val (.ref a0), .val (.int i1), .val (.int i2), .val (.int i3), .unset, .val (.int i5), .val (.int i6), .unset, .unset] [])) target := by
          intro target kt
          refine pre7 target ?_
          show Steps p.tables e below (T0.setTop (mkF m 105 #[.val (.ref a0), .val (.int i1), .val (.int i2), .val (.int i3), .unset, .val (.int i5), .val (.int i6), .unset, .unset] [(.int (240 : Int32)), (.int i3)])) _
          refine XS.icmpYes X0.here hx rfl (pc0 := 105) (pc' := 119) rfl (hb hby d1_105) rfl (feq hc105).2 (by decide) (by decide) ?_
          show Steps p.tables e below (T0.setTop (mkF m 119 #[.val (.ref a0), .val (.int i1), .val (.int i2), .val (.int i3), .unset, .val (.int i5), .val (.int i6), .unset, .unset] [])) _
          refine XS.iloadN X0.here hx rfl (hb hby d1_119) rfl ?_
          show Steps p.tables e below (T0.setTop (mkF m 120 #[.val (.ref a0), .val (.int i1), .val (.int i2), .val (.int i3), .unset, .val (.int i5), .val (.int i6), .unset, .unset] [(.int i3)])) _
          refine XS.sipush X0.here hx rfl (hb hby d1_120) ?_
          exact kt
        by_cases hc123 : i3 < (241 : Int32)
        · have pre11 : ∀ target, Steps p.tables e below (T0.setTop (mkF m 139 #[.val (.ref a0), .val (.int i1), .val (.int i2), .val (.int i3), .unset, .val (.int i5), .val (.int i6), .unset, .unset] [])) target → Steps p.tables e below (T0.setTop (mkF m 65 #[.val (.ref a0), .val (.int i1), .val (.int i2), .val (.int i3), .unset, .val (.int i5), .val (.int i6), .unset, .unset] [])) target := by
            intro target kt
            refine pre10 target ?_
            show Steps p.tables e below (T0.setTop (mkF m 123 #[.val (.ref a0), .val (.int i1), .val (.int i2), .val (.int i3), .unset, .val (.int i5), .val (.int i6), .unset, .unset] [(.int (241 : Int32)), (.int i3)])) _
            refine XS.icmpYes X0.here hx rfl (pc0 := 123) (pc' := 139) rfl (hb hby d1_123) rfl (tlt hc123).1 (by decide) (by decide) ?_
            exact kt
          have hI12 : n_a0 = 5 ∧ (i1 = 0 ∨ i1 = 1) := by exact hI
          obtain ⟨T12, X12, e12, st12⟩ := own_b1_139 hx hZ hw hby hml hown hret a0 i1 i2 i3 i5 i6 n_a0 A_a0 X0 e0 hcl hsl V_a0 hI12
          have hv : (own_f1_65 i1 i2 i3 i5 i6 n_a0 A_a0) = (own_f1_139 i1 i2 i3 i5 i6 n_a0 A_a0) := by unfold own_f1_65; rw [if_neg hc69, if_neg hc87, if_neg hc105, if_pos hc123]
          exact ⟨T12, X12, e12, fun fs hr => pre11 _ (st12 fs (by rw [hv] at hr; exact hr))⟩
        · have pre13 : ∀ target, Steps p.tables e below (T0.setTop (mkF m 130 #[.val (.ref a0), .val (.int i1), .val (.int i2), .val (.int i3), .unset, .val (.int i5), .val (.int i6), .unset, .unset] [(.int (243 : Int32)), (.int i3)])) target → Steps p.tables e below (T0.setTop (mkF m 65 #[.val (.ref a0), .val (.int i1), .val (.int i2), .val (.int i3), .unset, .val (.int i5), .val (.int i6), .unset, .unset] [])) target := by
            intro target kt
            refine pre10 target ?_
            show Steps p.tables e below (T0.setTop (mkF m 123 #[.val (.ref a0), .val (.int i1), .val (.int i2), .val (.int i3), .unset, .val (.int i5), .val (.int i6), .unset, .unset] [(.int (241 : Int32)), (.int i3)])) _
            refine XS.icmpNo X0.here hx rfl (hb hby d1_123) rfl (flt hc123).1 ?_
            show Steps p.tables e below (T0.setTop (mkF m 126 #[.val (.ref a0), .val (.int i1), .val (.int i2), .val (.int i3), .unset, .val (.int i5), .val (.int i6), .unset, .unset] [])) _
            refine XS.iloadN X0.here hx rfl (hb hby d1_126) rfl ?_
            show Steps p.tables e below (T0.setTop (mkF m 127 #[.val (.ref a0), .val (.int i1), .val (.int i2), .val (.int i3), .unset, .val (.int i5), .val (.int i6), .unset, .unset] [(.int i3)])) _
            refine XS.sipush X0.here hx rfl (hb hby d1_127) ?_
            exact kt
          by_cases hc130 : (243 : Int32) < i3
          · have pre14 : ∀ target, Steps p.tables e below (T0.setTop (mkF m 139 #[.val (.ref a0), .val (.int i1), .val (.int i2), .val (.int i3), .unset, .val (.int i5), .val (.int i6), .unset, .unset] [])) target → Steps p.tables e below (T0.setTop (mkF m 65 #[.val (.ref a0), .val (.int i1), .val (.int i2), .val (.int i3), .unset, .val (.int i5), .val (.int i6), .unset, .unset] [])) target := by
              intro target kt
              refine pre13 target ?_
              show Steps p.tables e below (T0.setTop (mkF m 130 #[.val (.ref a0), .val (.int i1), .val (.int i2), .val (.int i3), .unset, .val (.int i5), .val (.int i6), .unset, .unset] [(.int (243 : Int32)), (.int i3)])) _
              refine XS.icmpYes X0.here hx rfl (pc0 := 130) (pc' := 139) rfl (hb hby d1_130) rfl (tlt hc130).2.2.1 (by decide) (by decide) ?_
              exact kt
            have hI15 : n_a0 = 5 ∧ (i1 = 0 ∨ i1 = 1) := by exact hI
            obtain ⟨T15, X15, e15, st15⟩ := own_b1_139 hx hZ hw hby hml hown hret a0 i1 i2 i3 i5 i6 n_a0 A_a0 X0 e0 hcl hsl V_a0 hI15
            have hv : (own_f1_65 i1 i2 i3 i5 i6 n_a0 A_a0) = (own_f1_139 i1 i2 i3 i5 i6 n_a0 A_a0) := by unfold own_f1_65; rw [if_neg hc69, if_neg hc87, if_neg hc105, if_neg hc123, if_pos hc130]
            exact ⟨T15, X15, e15, fun fs hr => pre14 _ (st15 fs (by rw [hv] at hr; exact hr))⟩
          · have pre16 : ∀ target, Steps p.tables e below (T0.setTop (mkF m 159 #[.val (.ref a0), .val (.int i1), .val (.int i2), .val (.int i3), .val (.int (4 : Int32)), .val (.int i5), .val (.int i6), .unset, .unset] [])) target → Steps p.tables e below (T0.setTop (mkF m 65 #[.val (.ref a0), .val (.int i1), .val (.int i2), .val (.int i3), .unset, .val (.int i5), .val (.int i6), .unset, .unset] [])) target := by
              intro target kt
              refine pre13 target ?_
              show Steps p.tables e below (T0.setTop (mkF m 130 #[.val (.ref a0), .val (.int i1), .val (.int i2), .val (.int i3), .unset, .val (.int i5), .val (.int i6), .unset, .unset] [(.int (243 : Int32)), (.int i3)])) _
              refine XS.icmpNo X0.here hx rfl (hb hby d1_130) rfl (flt hc130).2.2.1 ?_
              show Steps p.tables e below (T0.setTop (mkF m 133 #[.val (.ref a0), .val (.int i1), .val (.int i2), .val (.int i3), .unset, .val (.int i5), .val (.int i6), .unset, .unset] [])) _
              refine XS.iconst X0.here hx rfl (hb hby d1_133) ?_
              show Steps p.tables e below (T0.setTop (mkF m 134 #[.val (.ref a0), .val (.int i1), .val (.int i2), .val (.int i3), .unset, .val (.int i5), .val (.int i6), .unset, .unset] [(.int (4 : Int32))])) _
              refine XS.istore X0.here hx rfl (hb hby d1_134) rfl (l' := #[.val (.ref a0), .val (.int i1), .val (.int i2), .val (.int i3), .val (.int (4 : Int32)), .val (.int i5), .val (.int i6), .unset, .unset]) rfl ?_
              show Steps p.tables e below (T0.setTop (mkF m 136 #[.val (.ref a0), .val (.int i1), .val (.int i2), .val (.int i3), .val (.int (4 : Int32)), .val (.int i5), .val (.int i6), .unset, .unset] [])) _
              refine XS.goto X0.here hx rfl (pc0 := 136) (pc' := 159) rfl (hb hby d1_136) (by decide) (by decide) ?_
              exact kt
            have hI17 : n_a0 = 5 ∧ (i1 = 0 ∨ i1 = 1) ∧ (4 : Int32).toInt ≤ 4 := by exact ⟨hI.1, hI.2, by decide⟩
            obtain ⟨T17, X17, e17, st17⟩ := own_b1_159 hx hZ hw hby hml hown hret a0 i1 i2 i3 (4 : Int32) i5 i6 n_a0 A_a0 X0 e0 hcl hsl V_a0 hI17
            have hv : (own_f1_65 i1 i2 i3 i5 i6 n_a0 A_a0) = (own_f1_159 i1 i2 i3 (4 : Int32) i5 i6 n_a0 A_a0) := by unfold own_f1_65; rw [if_neg hc69, if_neg hc87, if_neg hc105, if_neg hc123, if_neg hc130]
            exact ⟨T17, X17, e17, fun fs hr => pre16 _ (st17 fs (by rw [hv] at hr; exact hr))⟩
set_option maxRecDepth 65536 in
set_option maxHeartbeats 40000000 in
theorem own_b1_45 {p : Program} {l : Launch} {e : Env} {s : State} {m : MethodId} {args : Array Value} {below : List Frame} {meth : Method} {c : Code} {Z : State} {a0_ : Array Value} (hx : p.tables.exec = Jvm.exec) (hZ : Z.Warmed39 s.vm) (hw : ∀ d ∈ tables_1, d.before a0_ Z = true) (hby : c.code = prog_97_method_3_code) (hml : c.maxLocals = 9) (hown : s.vm.findClass "com/example/open_brace/openbrace/text/Utf8" = some m.cls) (hret : meth.sig.returnType = some .int) {T0 : State} {locs : List Loc} {cells slots : Nat} {h0 : Heap} (a0 : Addr) (i1 : Int32) (i2 : Int32) (i3 : Int32) (i5 : Int32) (i6 : Int32) (n_a0 : Int32) (A_a0 : Nat → Int32)
    (X0 : Stand p l e ({ frames := 0, cells := 0, slots := 0, locals := 0 } : Room) s m args below meth c T0 locs cells slots) (e0 : T0.heap = h0) (hcl : cells ≤ ({ frames := 0, cells := 0, slots := 0, locals := 0 } : Room).cells) (hsl : slots ≤ ({ frames := 0, cells := 0, slots := 0, locals := 0 } : Room).slots) (V_a0 : own_Ar Z h0 a0 .byte n_a0 A_a0) (hI : n_a0 = 5 ∧ (i1 = 0 ∨ i1 = 1)) :
    ∃ T', Stand p l e ({ frames := 0, cells := 0, slots := 0, locals := 0 } : Room) s m args below meth c T' locs cells slots ∧ T'.heap = h0 ∧ ∀ fs, (∀ (f : JFrame) (acts : List Action), f.method = m → f.locked = none → f.entered = [] → (doReturn e (T'.setTop f) acts (some (.int (own_f1_45 i1 i2 i3 i5 i6 n_a0 A_a0)))).1 = T'.setFrames fs) → Steps p.tables e below (T0.setTop (mkF m 45 #[.val (.ref a0), .val (.int i1), .val (.int i2), .val (.int i3), .unset, .val (.int i5), .val (.int i6), .unset, .unset] [])) (T'.setFrames fs) := by
  have pre1 : ∀ target, Steps p.tables e below (T0.setTop (mkF m 49 #[.val (.ref a0), .val (.int i1), .val (.int i2), .val (.int i3), .unset, .val (.int i5), .val (.int i6), .unset, .unset] [(.int (194 : Int32)), (.int i3)])) target → Steps p.tables e below (T0.setTop (mkF m 45 #[.val (.ref a0), .val (.int i1), .val (.int i2), .val (.int i3), .unset, .val (.int i5), .val (.int i6), .unset, .unset] [])) target := by
    intro target kt
    show Steps p.tables e below (T0.setTop (mkF m 45 #[.val (.ref a0), .val (.int i1), .val (.int i2), .val (.int i3), .unset, .val (.int i5), .val (.int i6), .unset, .unset] [])) _
    refine XS.iloadN X0.here hx rfl (hb hby d1_45) rfl ?_
    show Steps p.tables e below (T0.setTop (mkF m 46 #[.val (.ref a0), .val (.int i1), .val (.int i2), .val (.int i3), .unset, .val (.int i5), .val (.int i6), .unset, .unset] [(.int i3)])) _
    refine XS.sipush X0.here hx rfl (hb hby d1_46) ?_
    exact kt
  by_cases hc49 : i3 < (194 : Int32)
  · have pre2 : ∀ target, Steps p.tables e below (T0.setTop (mkF m 65 #[.val (.ref a0), .val (.int i1), .val (.int i2), .val (.int i3), .unset, .val (.int i5), .val (.int i6), .unset, .unset] [])) target → Steps p.tables e below (T0.setTop (mkF m 45 #[.val (.ref a0), .val (.int i1), .val (.int i2), .val (.int i3), .unset, .val (.int i5), .val (.int i6), .unset, .unset] [])) target := by
      intro target kt
      refine pre1 target ?_
      show Steps p.tables e below (T0.setTop (mkF m 49 #[.val (.ref a0), .val (.int i1), .val (.int i2), .val (.int i3), .unset, .val (.int i5), .val (.int i6), .unset, .unset] [(.int (194 : Int32)), (.int i3)])) _
      refine XS.icmpYes X0.here hx rfl (pc0 := 49) (pc' := 65) rfl (hb hby d1_49) rfl (tlt hc49).1 (by decide) (by decide) ?_
      exact kt
    have hI3 : n_a0 = 5 ∧ (i1 = 0 ∨ i1 = 1) := by exact hI
    obtain ⟨T3, X3, e3, st3⟩ := own_b1_65 hx hZ hw hby hml hown hret a0 i1 i2 i3 i5 i6 n_a0 A_a0 X0 e0 hcl hsl V_a0 hI3
    have hv : (own_f1_45 i1 i2 i3 i5 i6 n_a0 A_a0) = (own_f1_65 i1 i2 i3 i5 i6 n_a0 A_a0) := by unfold own_f1_45; rw [if_pos hc49]
    exact ⟨T3, X3, e3, fun fs hr => pre2 _ (st3 fs (by rw [hv] at hr; exact hr))⟩
  · have pre4 : ∀ target, Steps p.tables e below (T0.setTop (mkF m 56 #[.val (.ref a0), .val (.int i1), .val (.int i2), .val (.int i3), .unset, .val (.int i5), .val (.int i6), .unset, .unset] [(.int (223 : Int32)), (.int i3)])) target → Steps p.tables e below (T0.setTop (mkF m 45 #[.val (.ref a0), .val (.int i1), .val (.int i2), .val (.int i3), .unset, .val (.int i5), .val (.int i6), .unset, .unset] [])) target := by
      intro target kt
      refine pre1 target ?_
      show Steps p.tables e below (T0.setTop (mkF m 49 #[.val (.ref a0), .val (.int i1), .val (.int i2), .val (.int i3), .unset, .val (.int i5), .val (.int i6), .unset, .unset] [(.int (194 : Int32)), (.int i3)])) _
      refine XS.icmpNo X0.here hx rfl (hb hby d1_49) rfl (flt hc49).1 ?_
      show Steps p.tables e below (T0.setTop (mkF m 52 #[.val (.ref a0), .val (.int i1), .val (.int i2), .val (.int i3), .unset, .val (.int i5), .val (.int i6), .unset, .unset] [])) _
      refine XS.iloadN X0.here hx rfl (hb hby d1_52) rfl ?_
      show Steps p.tables e below (T0.setTop (mkF m 53 #[.val (.ref a0), .val (.int i1), .val (.int i2), .val (.int i3), .unset, .val (.int i5), .val (.int i6), .unset, .unset] [(.int i3)])) _
      refine XS.sipush X0.here hx rfl (hb hby d1_53) ?_
      exact kt
    by_cases hc56 : (223 : Int32) < i3
    · have pre5 : ∀ target, Steps p.tables e below (T0.setTop (mkF m 65 #[.val (.ref a0), .val (.int i1), .val (.int i2), .val (.int i3), .unset, .val (.int i5), .val (.int i6), .unset, .unset] [])) target → Steps p.tables e below (T0.setTop (mkF m 45 #[.val (.ref a0), .val (.int i1), .val (.int i2), .val (.int i3), .unset, .val (.int i5), .val (.int i6), .unset, .unset] [])) target := by
        intro target kt
        refine pre4 target ?_
        show Steps p.tables e below (T0.setTop (mkF m 56 #[.val (.ref a0), .val (.int i1), .val (.int i2), .val (.int i3), .unset, .val (.int i5), .val (.int i6), .unset, .unset] [(.int (223 : Int32)), (.int i3)])) _
        refine XS.icmpYes X0.here hx rfl (pc0 := 56) (pc' := 65) rfl (hb hby d1_56) rfl (tlt hc56).2.2.1 (by decide) (by decide) ?_
        exact kt
      have hI6 : n_a0 = 5 ∧ (i1 = 0 ∨ i1 = 1) := by exact hI
      obtain ⟨T6, X6, e6, st6⟩ := own_b1_65 hx hZ hw hby hml hown hret a0 i1 i2 i3 i5 i6 n_a0 A_a0 X0 e0 hcl hsl V_a0 hI6
      have hv : (own_f1_45 i1 i2 i3 i5 i6 n_a0 A_a0) = (own_f1_65 i1 i2 i3 i5 i6 n_a0 A_a0) := by unfold own_f1_45; rw [if_neg hc49, if_pos hc56]
      exact ⟨T6, X6, e6, fun fs hr => pre5 _ (st6 fs (by rw [hv] at hr; exact hr))⟩
    · have pre7 : ∀ target, Steps p.tables e below (T0.setTop (mkF m 159 #[.val (.ref a0), .val (.int i1), .val (.int i2), .val (.int i3), .val (.int (2 : Int32)), .val (.int i5), .val (.int i6), .unset, .unset] [])) target → Steps p.tables e below (T0.setTop (mkF m 45 #[.val (.ref a0), .val (.int i1), .val (.int i2), .val (.int i3), .unset, .val (.int i5), .val (.int i6), .unset, .unset] [])) target := by
        intro target kt
        refine pre4 target ?_
        show Steps p.tables e below (T0.setTop (mkF m 56 #[.val (.ref a0), .val (.int i1), .val (.int i2), .val (.int i3), .unset, .val (.int i5), .val (.int i6), .unset, .unset] [(.int (223 : Int32)), (.int i3)])) _
        refine XS.icmpNo X0.here hx rfl (hb hby d1_56) rfl (flt hc56).2.2.1 ?_
        show Steps p.tables e below (T0.setTop (mkF m 59 #[.val (.ref a0), .val (.int i1), .val (.int i2), .val (.int i3), .unset, .val (.int i5), .val (.int i6), .unset, .unset] [])) _
        refine XS.iconst X0.here hx rfl (hb hby d1_59) ?_
        show Steps p.tables e below (T0.setTop (mkF m 60 #[.val (.ref a0), .val (.int i1), .val (.int i2), .val (.int i3), .unset, .val (.int i5), .val (.int i6), .unset, .unset] [(.int (2 : Int32))])) _
        refine XS.istore X0.here hx rfl (hb hby d1_60) rfl (l' := #[.val (.ref a0), .val (.int i1), .val (.int i2), .val (.int i3), .val (.int (2 : Int32)), .val (.int i5), .val (.int i6), .unset, .unset]) rfl ?_
        show Steps p.tables e below (T0.setTop (mkF m 62 #[.val (.ref a0), .val (.int i1), .val (.int i2), .val (.int i3), .val (.int (2 : Int32)), .val (.int i5), .val (.int i6), .unset, .unset] [])) _
        refine XS.goto X0.here hx rfl (pc0 := 62) (pc' := 159) rfl (hb hby d1_62) (by decide) (by decide) ?_
        exact kt
      have hI8 : n_a0 = 5 ∧ (i1 = 0 ∨ i1 = 1) ∧ (2 : Int32).toInt ≤ 4 := by exact ⟨hI.1, hI.2, by decide⟩
      obtain ⟨T8, X8, e8, st8⟩ := own_b1_159 hx hZ hw hby hml hown hret a0 i1 i2 i3 (2 : Int32) i5 i6 n_a0 A_a0 X0 e0 hcl hsl V_a0 hI8
      have hv : (own_f1_45 i1 i2 i3 i5 i6 n_a0 A_a0) = (own_f1_159 i1 i2 i3 (2 : Int32) i5 i6 n_a0 A_a0) := by unfold own_f1_45; rw [if_neg hc49, if_neg hc56]
      exact ⟨T8, X8, e8, fun fs hr => pre7 _ (st8 fs (by rw [hv] at hr; exact hr))⟩
set_option maxRecDepth 65536 in
set_option maxHeartbeats 40000000 in
theorem own_b1_0 {p : Program} {l : Launch} {e : Env} {s : State} {m : MethodId} {args : Array Value} {below : List Frame} {meth : Method} {c : Code} {Z : State} {a0_ : Array Value} (hx : p.tables.exec = Jvm.exec) (hZ : Z.Warmed39 s.vm) (hw : ∀ d ∈ tables_1, d.before a0_ Z = true) (hby : c.code = prog_97_method_3_code) (hml : c.maxLocals = 9) (hown : s.vm.findClass "com/example/open_brace/openbrace/text/Utf8" = some m.cls) (hret : meth.sig.returnType = some .int) {T0 : State} {locs : List Loc} {cells slots : Nat} {h0 : Heap} (a0 : Addr) (i1 : Int32) (i2 : Int32) (n_a0 : Int32) (A_a0 : Nat → Int32)
    (X0 : Stand p l e ({ frames := 0, cells := 0, slots := 0, locals := 0 } : Room) s m args below meth c T0 locs cells slots) (e0 : T0.heap = h0) (hcl : cells ≤ ({ frames := 0, cells := 0, slots := 0, locals := 0 } : Room).cells) (hsl : slots ≤ ({ frames := 0, cells := 0, slots := 0, locals := 0 } : Room).slots) (V_a0 : own_Ar Z h0 a0 .byte n_a0 A_a0) (hI : n_a0 = 5 ∧ (i1 = 0 ∨ i1 = 1)) :
    ∃ T', Stand p l e ({ frames := 0, cells := 0, slots := 0, locals := 0 } : Room) s m args below meth c T' locs cells slots ∧ T'.heap = h0 ∧ ∀ fs, (∀ (f : JFrame) (acts : List Action), f.method = m → f.locked = none → f.entered = [] → (doReturn e (T'.setTop f) acts (some (.int (own_f1_0 i1 i2 n_a0 A_a0)))).1 = T'.setFrames fs) → Steps p.tables e below (T0.setTop (mkF m 0 #[.val (.ref a0), .val (.int i1), .val (.int i2), .unset, .unset, .unset, .unset, .unset, .unset] [])) (T'.setFrames fs) := by
  have hix2 : ¬ i1 < 0 ∧ i1 < n_a0 := by exact own_ix0 hI
  have pre1 : ∀ target, Steps p.tables e below (T0.setTop (mkF m 22 #[.val (.ref a0), .val (.int i1), .val (.int i2), .val (.int ((A_a0 i1.toNatClampNeg) &&& (255 : Int32))), .unset, .val (.int (128 : Int32)), .val (.int (191 : Int32)), .unset, .unset] [(.int (225 : Int32)), (.int ((A_a0 i1.toNatClampNeg) &&& (255 : Int32)))])) target → Steps p.tables e below (T0.setTop (mkF m 0 #[.val (.ref a0), .val (.int i1), .val (.int i2), .unset, .unset, .unset, .unset, .unset, .unset] [])) target := by
    intro target kt
    show Steps p.tables e below (T0.setTop (mkF m 0 #[.val (.ref a0), .val (.int i1), .val (.int i2), .unset, .unset, .unset, .unset, .unset, .unset] [])) _
    refine XS.aloadN X0.here hx rfl (hb hby d1_0) rfl rfl ?_
    show Steps p.tables e below (T0.setTop (mkF m 1 #[.val (.ref a0), .val (.int i1), .val (.int i2), .unset, .unset, .unset, .unset, .unset, .unset] [(.ref a0)])) _
    refine XS.iloadN X0.here hx rfl (hb hby d1_1) rfl ?_
    show Steps p.tables e below (T0.setTop (mkF m 2 #[.val (.ref a0), .val (.int i1), .val (.int i2), .unset, .unset, .unset, .unset, .unset, .unset] [(.int i1), (.ref a0)])) _
    refine own_ldB X0 hx hZ e0 V_a0 hix2 (g := (mkF m 2 #[.val (.ref a0), .val (.int i1), .val (.int i2), .unset, .unset, .unset, .unset, .unset, .unset] [(.int i1), (.ref a0)])) rfl rfl (hb hby d1_2) _ ?_
    show Steps p.tables e below (T0.setTop (mkF m 3 #[.val (.ref a0), .val (.int i1), .val (.int i2), .unset, .unset, .unset, .unset, .unset, .unset] [(.int (A_a0 i1.toNatClampNeg))])) _
    refine XS.sipush X0.here hx rfl (hb hby d1_3) ?_
    show Steps p.tables e below (T0.setTop (mkF m 6 #[.val (.ref a0), .val (.int i1), .val (.int i2), .unset, .unset, .unset, .unset, .unset, .unset] [(.int (255 : Int32)), (.int (A_a0 i1.toNatClampNeg))])) _
    refine XS.iand X0.here hx rfl (hb hby d1_6) rfl ?_
    show Steps p.tables e below (T0.setTop (mkF m 7 #[.val (.ref a0), .val (.int i1), .val (.int i2), .unset, .unset, .unset, .unset, .unset, .unset] [(.int ((A_a0 i1.toNatClampNeg) &&& (255 : Int32)))])) _
    refine XS.istoreN X0.here hx rfl (hb hby d1_7) rfl (l' := #[.val (.ref a0), .val (.int i1), .val (.int i2), .val (.int ((A_a0 i1.toNatClampNeg) &&& (255 : Int32))), .unset, .unset, .unset, .unset, .unset]) rfl ?_
    show Steps p.tables e below (T0.setTop (mkF m 8 #[.val (.ref a0), .val (.int i1), .val (.int i2), .val (.int ((A_a0 i1.toNatClampNeg) &&& (255 : Int32))), .unset, .unset, .unset, .unset, .unset] [])) _
    refine XS.sipush X0.here hx rfl (hb hby d1_8) ?_
    show Steps p.tables e below (T0.setTop (mkF m 11 #[.val (.ref a0), .val (.int i1), .val (.int i2), .val (.int ((A_a0 i1.toNatClampNeg) &&& (255 : Int32))), .unset, .unset, .unset, .unset, .unset] [(.int (128 : Int32))])) _
    refine XS.istore X0.here hx rfl (hb hby d1_11) rfl (l' := #[.val (.ref a0), .val (.int i1), .val (.int i2), .val (.int ((A_a0 i1.toNatClampNeg) &&& (255 : Int32))), .unset, .val (.int (128 : Int32)), .unset, .unset, .unset]) rfl ?_
    show Steps p.tables e below (T0.setTop (mkF m 13 #[.val (.ref a0), .val (.int i1), .val (.int i2), .val (.int ((A_a0 i1.toNatClampNeg) &&& (255 : Int32))), .unset, .val (.int (128 : Int32)), .unset, .unset, .unset] [])) _
    refine XS.sipush X0.here hx rfl (hb hby d1_13) ?_
    show Steps p.tables e below (T0.setTop (mkF m 16 #[.val (.ref a0), .val (.int i1), .val (.int i2), .val (.int ((A_a0 i1.toNatClampNeg) &&& (255 : Int32))), .unset, .val (.int (128 : Int32)), .unset, .unset, .unset] [(.int (191 : Int32))])) _
    refine XS.istore X0.here hx rfl (hb hby d1_16) rfl (l' := #[.val (.ref a0), .val (.int i1), .val (.int i2), .val (.int ((A_a0 i1.toNatClampNeg) &&& (255 : Int32))), .unset, .val (.int (128 : Int32)), .val (.int (191 : Int32)), .unset, .unset]) rfl ?_
    show Steps p.tables e below (T0.setTop (mkF m 18 #[.val (.ref a0), .val (.int i1), .val (.int i2), .val (.int ((A_a0 i1.toNatClampNeg) &&& (255 : Int32))), .unset, .val (.int (128 : Int32)), .val (.int (191 : Int32)), .unset, .unset] [])) _
    refine XS.iloadN X0.here hx rfl (hb hby d1_18) rfl ?_
    show Steps p.tables e below (T0.setTop (mkF m 19 #[.val (.ref a0), .val (.int i1), .val (.int i2), .val (.int ((A_a0 i1.toNatClampNeg) &&& (255 : Int32))), .unset, .val (.int (128 : Int32)), .val (.int (191 : Int32)), .unset, .unset] [(.int ((A_a0 i1.toNatClampNeg) &&& (255 : Int32)))])) _
    refine XS.sipush X0.here hx rfl (hb hby d1_19) ?_
    exact kt
  by_cases hc22 : ((A_a0 i1.toNatClampNeg) &&& (255 : Int32)) < (225 : Int32)
  · have pre2 : ∀ target, Steps p.tables e below (T0.setTop (mkF m 45 #[.val (.ref a0), .val (.int i1), .val (.int i2), .val (.int ((A_a0 i1.toNatClampNeg) &&& (255 : Int32))), .unset, .val (.int (128 : Int32)), .val (.int (191 : Int32)), .unset, .unset] [])) target → Steps p.tables e below (T0.setTop (mkF m 0 #[.val (.ref a0), .val (.int i1), .val (.int i2), .unset, .unset, .unset, .unset, .unset, .unset] [])) target := by
      intro target kt
      refine pre1 target ?_
      show Steps p.tables e below (T0.setTop (mkF m 22 #[.val (.ref a0), .val (.int i1), .val (.int i2), .val (.int ((A_a0 i1.toNatClampNeg) &&& (255 : Int32))), .unset, .val (.int (128 : Int32)), .val (.int (191 : Int32)), .unset, .unset] [(.int (225 : Int32)), (.int ((A_a0 i1.toNatClampNeg) &&& (255 : Int32)))])) _
      refine XS.icmpYes X0.here hx rfl (pc0 := 22) (pc' := 45) rfl (hb hby d1_22) rfl (tlt hc22).1 (by decide) (by decide) ?_
      exact kt
    have hI3 : n_a0 = 5 ∧ (i1 = 0 ∨ i1 = 1) := by exact hI
    obtain ⟨T3, X3, e3, st3⟩ := own_b1_45 hx hZ hw hby hml hown hret a0 i1 i2 ((A_a0 i1.toNatClampNeg) &&& (255 : Int32)) (128 : Int32) (191 : Int32) n_a0 A_a0 X0 e0 hcl hsl V_a0 hI3
    have hv : (own_f1_0 i1 i2 n_a0 A_a0) = (own_f1_45 i1 i2 ((A_a0 i1.toNatClampNeg) &&& (255 : Int32)) (128 : Int32) (191 : Int32) n_a0 A_a0) := by unfold own_f1_0; rw [if_pos hc22]
    exact ⟨T3, X3, e3, fun fs hr => pre2 _ (st3 fs (by rw [hv] at hr; exact hr))⟩
  · have pre4 : ∀ target, Steps p.tables e below (T0.setTop (mkF m 29 #[.val (.ref a0), .val (.int i1), .val (.int i2), .val (.int ((A_a0 i1.toNatClampNeg) &&& (255 : Int32))), .unset, .val (.int (128 : Int32)), .val (.int (191 : Int32)), .unset, .unset] [(.int (239 : Int32)), (.int ((A_a0 i1.toNatClampNeg) &&& (255 : Int32)))])) target → Steps p.tables e below (T0.setTop (mkF m 0 #[.val (.ref a0), .val (.int i1), .val (.int i2), .unset, .unset, .unset, .unset, .unset, .unset] [])) target := by
      intro target kt
      refine pre1 target ?_
      show Steps p.tables e below (T0.setTop (mkF m 22 #[.val (.ref a0), .val (.int i1), .val (.int i2), .val (.int ((A_a0 i1.toNatClampNeg) &&& (255 : Int32))), .unset, .val (.int (128 : Int32)), .val (.int (191 : Int32)), .unset, .unset] [(.int (225 : Int32)), (.int ((A_a0 i1.toNatClampNeg) &&& (255 : Int32)))])) _
      refine XS.icmpNo X0.here hx rfl (hb hby d1_22) rfl (flt hc22).1 ?_
      show Steps p.tables e below (T0.setTop (mkF m 25 #[.val (.ref a0), .val (.int i1), .val (.int i2), .val (.int ((A_a0 i1.toNatClampNeg) &&& (255 : Int32))), .unset, .val (.int (128 : Int32)), .val (.int (191 : Int32)), .unset, .unset] [])) _
      refine XS.iloadN X0.here hx rfl (hb hby d1_25) rfl ?_
      show Steps p.tables e below (T0.setTop (mkF m 26 #[.val (.ref a0), .val (.int i1), .val (.int i2), .val (.int ((A_a0 i1.toNatClampNeg) &&& (255 : Int32))), .unset, .val (.int (128 : Int32)), .val (.int (191 : Int32)), .unset, .unset] [(.int ((A_a0 i1.toNatClampNeg) &&& (255 : Int32)))])) _
      refine XS.sipush X0.here hx rfl (hb hby d1_26) ?_
      exact kt
    by_cases hc29 : (239 : Int32) < ((A_a0 i1.toNatClampNeg) &&& (255 : Int32))
    · have pre5 : ∀ target, Steps p.tables e below (T0.setTop (mkF m 45 #[.val (.ref a0), .val (.int i1), .val (.int i2), .val (.int ((A_a0 i1.toNatClampNeg) &&& (255 : Int32))), .unset, .val (.int (128 : Int32)), .val (.int (191 : Int32)), .unset, .unset] [])) target → Steps p.tables e below (T0.setTop (mkF m 0 #[.val (.ref a0), .val (.int i1), .val (.int i2), .unset, .unset, .unset, .unset, .unset, .unset] [])) target := by
        intro target kt
        refine pre4 target ?_
        show Steps p.tables e below (T0.setTop (mkF m 29 #[.val (.ref a0), .val (.int i1), .val (.int i2), .val (.int ((A_a0 i1.toNatClampNeg) &&& (255 : Int32))), .unset, .val (.int (128 : Int32)), .val (.int (191 : Int32)), .unset, .unset] [(.int (239 : Int32)), (.int ((A_a0 i1.toNatClampNeg) &&& (255 : Int32)))])) _
        refine XS.icmpYes X0.here hx rfl (pc0 := 29) (pc' := 45) rfl (hb hby d1_29) rfl (tlt hc29).2.2.1 (by decide) (by decide) ?_
        exact kt
      have hI6 : n_a0 = 5 ∧ (i1 = 0 ∨ i1 = 1) := by exact hI
      obtain ⟨T6, X6, e6, st6⟩ := own_b1_45 hx hZ hw hby hml hown hret a0 i1 i2 ((A_a0 i1.toNatClampNeg) &&& (255 : Int32)) (128 : Int32) (191 : Int32) n_a0 A_a0 X0 e0 hcl hsl V_a0 hI6
      have hv : (own_f1_0 i1 i2 n_a0 A_a0) = (own_f1_45 i1 i2 ((A_a0 i1.toNatClampNeg) &&& (255 : Int32)) (128 : Int32) (191 : Int32) n_a0 A_a0) := by unfold own_f1_0; rw [if_neg hc22, if_pos hc29]
      exact ⟨T6, X6, e6, fun fs hr => pre5 _ (st6 fs (by rw [hv] at hr; exact hr))⟩
    · have pre7 : ∀ target, Steps p.tables e below (T0.setTop (mkF m 36 #[.val (.ref a0), .val (.int i1), .val (.int i2), .val (.int ((A_a0 i1.toNatClampNeg) &&& (255 : Int32))), .unset, .val (.int (128 : Int32)), .val (.int (191 : Int32)), .unset, .unset] [(.int (237 : Int32)), (.int ((A_a0 i1.toNatClampNeg) &&& (255 : Int32)))])) target → Steps p.tables e below (T0.setTop (mkF m 0 #[.val (.ref a0), .val (.int i1), .val (.int i2), .unset, .unset, .unset, .unset, .unset, .unset] [])) target := by
        intro target kt
        refine pre4 target ?_
        show Steps p.tables e below (T0.setTop (mkF m 29 #[.val (.ref a0), .val (.int i1), .val (.int i2), .val (.int ((A_a0 i1.toNatClampNeg) &&& (255 : Int32))), .unset, .val (.int (128 : Int32)), .val (.int (191 : Int32)), .unset, .unset] [(.int (239 : Int32)), (.int ((A_a0 i1.toNatClampNeg) &&& (255 : Int32)))])) _
        refine XS.icmpNo X0.here hx rfl (hb hby d1_29) rfl (flt hc29).2.2.1 ?_
        show Steps p.tables e below (T0.setTop (mkF m 32 #[.val (.ref a0), .val (.int i1), .val (.int i2), .val (.int ((A_a0 i1.toNatClampNeg) &&& (255 : Int32))), .unset, .val (.int (128 : Int32)), .val (.int (191 : Int32)), .unset, .unset] [])) _
        refine XS.iloadN X0.here hx rfl (hb hby d1_32) rfl ?_
        show Steps p.tables e below (T0.setTop (mkF m 33 #[.val (.ref a0), .val (.int i1), .val (.int i2), .val (.int ((A_a0 i1.toNatClampNeg) &&& (255 : Int32))), .unset, .val (.int (128 : Int32)), .val (.int (191 : Int32)), .unset, .unset] [(.int ((A_a0 i1.toNatClampNeg) &&& (255 : Int32)))])) _
        refine XS.sipush X0.here hx rfl (hb hby d1_33) ?_
        exact kt
      by_cases hc36 : ((A_a0 i1.toNatClampNeg) &&& (255 : Int32)) = (237 : Int32)
      · have pre8 : ∀ target, Steps p.tables e below (T0.setTop (mkF m 45 #[.val (.ref a0), .val (.int i1), .val (.int i2), .val (.int ((A_a0 i1.toNatClampNeg) &&& (255 : Int32))), .unset, .val (.int (128 : Int32)), .val (.int (191 : Int32)), .unset, .unset] [])) target → Steps p.tables e below (T0.setTop (mkF m 0 #[.val (.ref a0), .val (.int i1), .val (.int i2), .unset, .unset, .unset, .unset, .unset, .unset] [])) target := by
          intro target kt
          refine pre7 target ?_
          show Steps p.tables e below (T0.setTop (mkF m 36 #[.val (.ref a0), .val (.int i1), .val (.int i2), .val (.int ((A_a0 i1.toNatClampNeg) &&& (255 : Int32))), .unset, .val (.int (128 : Int32)), .val (.int (191 : Int32)), .unset, .unset] [(.int (237 : Int32)), (.int ((A_a0 i1.toNatClampNeg) &&& (255 : Int32)))])) _
          refine XS.icmpYes X0.here hx rfl (pc0 := 36) (pc' := 45) rfl (hb hby d1_36) rfl (teq hc36).1 (by decide) (by decide) ?_
          exact kt
        have hI9 : n_a0 = 5 ∧ (i1 = 0 ∨ i1 = 1) := by exact hI
        obtain ⟨T9, X9, e9, st9⟩ := own_b1_45 hx hZ hw hby hml hown hret a0 i1 i2 ((A_a0 i1.toNatClampNeg) &&& (255 : Int32)) (128 : Int32) (191 : Int32) n_a0 A_a0 X0 e0 hcl hsl V_a0 hI9
        have hv : (own_f1_0 i1 i2 n_a0 A_a0) = (own_f1_45 i1 i2 ((A_a0 i1.toNatClampNeg) &&& (255 : Int32)) (128 : Int32) (191 : Int32) n_a0 A_a0) := by unfold own_f1_0; rw [if_neg hc22, if_neg hc29, if_pos hc36]
        exact ⟨T9, X9, e9, fun fs hr => pre8 _ (st9 fs (by rw [hv] at hr; exact hr))⟩
      · have pre10 : ∀ target, Steps p.tables e below (T0.setTop (mkF m 159 #[.val (.ref a0), .val (.int i1), .val (.int i2), .val (.int ((A_a0 i1.toNatClampNeg) &&& (255 : Int32))), .val (.int (3 : Int32)), .val (.int (128 : Int32)), .val (.int (191 : Int32)), .unset, .unset] [])) target → Steps p.tables e below (T0.setTop (mkF m 0 #[.val (.ref a0), .val (.int i1), .val (.int i2), .unset, .unset, .unset, .unset, .unset, .unset] [])) target := by
          intro target kt
          refine pre7 target ?_
          show Steps p.tables e below (T0.setTop (mkF m 36 #[.val (.ref a0), .val (.int i1), .val (.int i2), .val (.int ((A_a0 i1.toNatClampNeg) &&& (255 : Int32))), .unset, .val (.int (128 : Int32)), .val (.int (191 : Int32)), .unset, .unset] [(.int (237 : Int32)), (.int ((A_a0 i1.toNatClampNeg) &&& (255 : Int32)))])) _
          refine XS.icmpNo X0.here hx rfl (hb hby d1_36) rfl (feq hc36).1 ?_
          show Steps p.tables e below (T0.setTop (mkF m 39 #[.val (.ref a0), .val (.int i1), .val (.int i2), .val (.int ((A_a0 i1.toNatClampNeg) &&& (255 : Int32))), .unset, .val (.int (128 : Int32)), .val (.int (191 : Int32)), .unset, .unset] [])) _
          refine XS.iconst X0.here hx rfl (hb hby d1_39) ?_
          show Steps p.tables e below (T0.setTop (mkF m 40 #[.val (.ref a0), .val (.int i1), .val (.int i2), .val (.int ((A_a0 i1.toNatClampNeg) &&& (255 : Int32))), .unset, .val (.int (128 : Int32)), .val (.int (191 : Int32)), .unset, .unset] [(.int (3 : Int32))])) _
          refine XS.istore X0.here hx rfl (hb hby d1_40) rfl (l' := #[.val (.ref a0), .val (.int i1), .val (.int i2), .val (.int ((A_a0 i1.toNatClampNeg) &&& (255 : Int32))), .val (.int (3 : Int32)), .val (.int (128 : Int32)), .val (.int (191 : Int32)), .unset, .unset]) rfl ?_
          show Steps p.tables e below (T0.setTop (mkF m 42 #[.val (.ref a0), .val (.int i1), .val (.int i2), .val (.int ((A_a0 i1.toNatClampNeg) &&& (255 : Int32))), .val (.int (3 : Int32)), .val (.int (128 : Int32)), .val (.int (191 : Int32)), .unset, .unset] [])) _
          refine XS.goto X0.here hx rfl (pc0 := 42) (pc' := 159) rfl (hb hby d1_42) (by decide) (by decide) ?_
          exact kt
        have hI11 : n_a0 = 5 ∧ (i1 = 0 ∨ i1 = 1) ∧ (3 : Int32).toInt ≤ 4 := by exact ⟨hI.1, hI.2, by decide⟩
        obtain ⟨T11, X11, e11, st11⟩ := own_b1_159 hx hZ hw hby hml hown hret a0 i1 i2 ((A_a0 i1.toNatClampNeg) &&& (255 : Int32)) (3 : Int32) (128 : Int32) (191 : Int32) n_a0 A_a0 X0 e0 hcl hsl V_a0 hI11
        have hv : (own_f1_0 i1 i2 n_a0 A_a0) = (own_f1_159 i1 i2 ((A_a0 i1.toNatClampNeg) &&& (255 : Int32)) (3 : Int32) (128 : Int32) (191 : Int32) n_a0 A_a0) := by unfold own_f1_0; rw [if_neg hc22, if_neg hc29, if_neg hc36]
        exact ⟨T11, X11, e11, fun fs hr => pre10 _ (st11 fs (by rw [hv] at hr; exact hr))⟩
def Q1 (Z : State) (a0 : Addr) (i1 : Int32) (i2 : Int32) (n_a0 : Int32) (A_a0 : Nat → Int32) (h0 : Heap) (n0 : Nat) (v : Option Value) (h : Heap) (L : List Loc) : Prop := v = some (.int (own_f1_0 i1 i2 n_a0 A_a0)) ∧ L = [] ∧ h = h0
set_option maxRecDepth 65536 in
set_option maxHeartbeats 40000000 in
theorem rm1 (l : Launch) (Z : State) (a0_ : Array Value) (hw : ∀ d ∈ tables_1, d.before a0_ Z = true) (ws : List Jvm.Cond) (a0 : Addr) (i1 : Int32) (i2 : Int32) (n_a0 : Int32) (A_a0 : Nat → Int32) (h0 : Heap) (n0 : Nat) (Z0 : n0 ≤ h0.size) (V_a0 : own_Ar Z h0 a0 .byte n_a0 A_a0) (hI : n_a0 = 5 ∧ (i1 = 0 ∨ i1 = 1)) :
    MetFree l (⟨"com/example/open_brace/openbrace/text/Utf8", "sequenceLength", "([BII)I"⟩ : MethodName) (head1 (Jvm.Cond.code (⟨"com/example/open_brace/openbrace/text/Utf8", "sequenceLength", "([BII)I"⟩ : MethodName) prog_97_method_3_code 9 (some .int) :: ws) ({ frames := 0, cells := 0, slots := 0, locals := 0 } : Room)) (fun a U => a = #[(.ref a0), (.int i1), (.int i2)] ∧ Z.Warmed39 U.vm ∧ U.heap = h0) (fun _ _ _ _ _ => True) (fun _ U o U' => ∃ v L, o = .returned v ∧ Q1 Z a0 i1 i2 n_a0 A_a0 h0 n0 v U'.heap L ∧ FrameEnd U o U' L ({ frames := 0, cells := 0, slots := 0, locals := 0 } : Room).cells ({ frames := 0, cells := 0, slots := 0, locals := 0 } : Room).slots) := by
  refine MetFree.of_bodySF (plainFor_of_name pn_1) hisR ?_
  intro p e s m args below meth c s₁ Bd hml0 hP hK
  obtain ⟨rfl, hZ, hh⟩ := hP
  have hx := Bd.exec
  have hby := Bd.bytes
  have hml : c.maxLocals = 9 := hml0
  have hown : s.vm.findClass "com/example/open_brace/openbrace/text/Utf8" = some m.cls := findClass_of_methodNamed Bd.named
  have X0 : Stand p l e ({ frames := 0, cells := 0, slots := 0, locals := 0 } : Room) s m #[(.ref a0), (.int i1), (.int i2)] below meth c s₁ [] 0 0 := Stand.of_body Bd
  have e0 : s₁.heap = h0 := by rw [← hh, Bd.state]; rfl
  obtain ⟨T', X', e', st'⟩ := own_b1_0 hx hZ hw hby hml hown Bd.returns  a0 i1 i2 n_a0 A_a0 X0 e0 (by decide) (by decide) V_a0 hI
  obtain ⟨fs, hr, hrun, hended, hW, hsame⟩ := X'.leave (v := some (.int (own_f1_0 i1 i2 n_a0 A_a0))) (fun h => by rw [Bd.returns] at h; cases h)
  refine ⟨_, _, castTop (ef_1 m a0 i1 i2) (st' fs hr), hrun, hended, _, _, rfl, ?_, ⟨_, rfl⟩, hW, hsame.mono (by decide) (by decide)⟩
  exact ⟨rfl, rfl, e'⟩
theorem d3_0 : decode method_3_code 0 = .ok (.iload_n 0, 1) := by decide +kernel
theorem d3_1 : decode method_3_code 1 = .ok (.sipush 192, 3) := by decide +kernel
theorem d3_4 : decode method_3_code 4 = .ok (.iand, 1) := by decide +kernel
theorem d3_5 : decode method_3_code 5 = .ok (.sipush 128, 3) := by decide +kernel
theorem d3_8 : decode method_3_code 8 = .ok (.if_icmp .ne 7, 3) := by decide +kernel
theorem d3_11 : decode method_3_code 11 = .ok (.iconst 1, 1) := by decide +kernel
theorem d3_12 : decode method_3_code 12 = .ok (.goto 4, 3) := by decide +kernel
theorem d3_15 : decode method_3_code 15 = .ok (.iconst 0, 1) := by decide +kernel
theorem d3_16 : decode method_3_code 16 = .ok (.ireturn, 1) := by decide +kernel
theorem pn_3 : plainName "com/example/open_brace/openbrace/text/Utf8SequenceLengthPinLaw" = true := by first | (simp [plainName, overriddenIn]; done) | decide +kernel
theorem ef_3 (m : MethodId) (i0 : Int32) : entryFrame m #[(.int i0)] 1 = mkF m 0 #[.val (.int i0)] [] := by first | (simp [entryFrame, mkF, argsToLocals, Value.category]; done) | rfl
def own_f3_0 (i0 : Int32) : Int32 :=
  (if (i0 &&& (192 : Int32)) = (128 : Int32) then (1 : Int32) else (0 : Int32))
set_option maxRecDepth 65536 in
set_option maxHeartbeats 40000000 in
theorem own_b3_0 {p : Program} {l : Launch} {e : Env} {s : State} {m : MethodId} {args : Array Value} {below : List Frame} {meth : Method} {c : Code} {Z : State} {a0_ : Array Value} (hx : p.tables.exec = Jvm.exec) (hZ : Z.Warmed39 s.vm) (hw : ∀ d ∈ tables_1, d.before a0_ Z = true) (hby : c.code = method_3_code) (hml : c.maxLocals = 1) (hown : s.vm.findClass "com/example/open_brace/openbrace/text/Utf8SequenceLengthPinLaw" = some m.cls) (hret : meth.sig.returnType = some .boolean) {T0 : State} {locs : List Loc} {cells slots : Nat} {h0 : Heap} (i0 : Int32)
    (X0 : Stand p l e ({ frames := 0, cells := 0, slots := 0, locals := 0 } : Room) s m args below meth c T0 locs cells slots) (e0 : T0.heap = h0) (hcl : cells ≤ ({ frames := 0, cells := 0, slots := 0, locals := 0 } : Room).cells) (hsl : slots ≤ ({ frames := 0, cells := 0, slots := 0, locals := 0 } : Room).slots)  :
    ∃ T', Stand p l e ({ frames := 0, cells := 0, slots := 0, locals := 0 } : Room) s m args below meth c T' locs cells slots ∧ T'.heap = h0 ∧ ∀ fs, (∀ (f : JFrame) (acts : List Action), f.method = m → f.locked = none → f.entered = [] → (doReturn e (T'.setTop f) acts (some (.int (own_f3_0 i0)))).1 = T'.setFrames fs) → Steps p.tables e below (T0.setTop (mkF m 0 #[.val (.int i0)] [])) (T'.setFrames fs) := by
  have pre1 : ∀ target, Steps p.tables e below (T0.setTop (mkF m 8 #[.val (.int i0)] [(.int (128 : Int32)), (.int (i0 &&& (192 : Int32)))])) target → Steps p.tables e below (T0.setTop (mkF m 0 #[.val (.int i0)] [])) target := by
    intro target kt
    show Steps p.tables e below (T0.setTop (mkF m 0 #[.val (.int i0)] [])) _
    refine XS.iloadN X0.here hx rfl (hb hby d3_0) rfl ?_
    show Steps p.tables e below (T0.setTop (mkF m 1 #[.val (.int i0)] [(.int i0)])) _
    refine XS.sipush X0.here hx rfl (hb hby d3_1) ?_
    show Steps p.tables e below (T0.setTop (mkF m 4 #[.val (.int i0)] [(.int (192 : Int32)), (.int i0)])) _
    refine XS.iand X0.here hx rfl (hb hby d3_4) rfl ?_
    show Steps p.tables e below (T0.setTop (mkF m 5 #[.val (.int i0)] [(.int (i0 &&& (192 : Int32)))])) _
    refine XS.sipush X0.here hx rfl (hb hby d3_5) ?_
    exact kt
  by_cases hc8 : (i0 &&& (192 : Int32)) = (128 : Int32)
  · refine ⟨T0, X0, e0, fun fs hr => ?_⟩
    have hv : (own_f3_0 i0) = (1 : Int32) := by unfold own_f3_0; rw [if_pos hc8]
    rw [hv] at hr
    refine pre1 _ ?_
    show Steps p.tables e below (T0.setTop (mkF m 8 #[.val (.int i0)] [(.int (128 : Int32)), (.int (i0 &&& (192 : Int32)))])) _
    refine XS.icmpNo X0.here hx rfl (hb hby d3_8) rfl (teq hc8).2 ?_
    show Steps p.tables e below (T0.setTop (mkF m 11 #[.val (.int i0)] [])) _
    refine XS.iconst X0.here hx rfl (hb hby d3_11) ?_
    show Steps p.tables e below (T0.setTop (mkF m 12 #[.val (.int i0)] [(.int (1 : Int32))])) _
    refine XS.goto X0.here hx rfl (pc0 := 12) (pc' := 16) rfl (hb hby d3_12) (by decide) (by decide) ?_
    show Steps p.tables e below (T0.setTop (mkF m 16 #[.val (.int i0)] [(.int (1 : Int32))])) _
    exact retN X0 hx (t := .boolean) hret (by simp) (hb hby d3_16) hr
  · refine ⟨T0, X0, e0, fun fs hr => ?_⟩
    have hv : (own_f3_0 i0) = (0 : Int32) := by unfold own_f3_0; rw [if_neg hc8]
    rw [hv] at hr
    refine pre1 _ ?_
    show Steps p.tables e below (T0.setTop (mkF m 8 #[.val (.int i0)] [(.int (128 : Int32)), (.int (i0 &&& (192 : Int32)))])) _
    refine XS.icmpYes X0.here hx rfl (pc0 := 8) (pc' := 15) rfl (hb hby d3_8) rfl (feq hc8).2 (by decide) (by decide) ?_
    show Steps p.tables e below (T0.setTop (mkF m 15 #[.val (.int i0)] [])) _
    refine XS.iconst X0.here hx rfl (hb hby d3_15) ?_
    show Steps p.tables e below (T0.setTop (mkF m 16 #[.val (.int i0)] [(.int (0 : Int32))])) _
    exact retN X0 hx (t := .boolean) hret (by simp) (hb hby d3_16) hr
def Q3 (Z : State) (i0 : Int32) (h0 : Heap) (n0 : Nat) (v : Option Value) (h : Heap) (L : List Loc) : Prop := v = some (.int (own_f3_0 i0)) ∧ L = [] ∧ h = h0
set_option maxRecDepth 65536 in
set_option maxHeartbeats 40000000 in
theorem rm3 (l : Launch) (Z : State) (a0_ : Array Value) (hw : ∀ d ∈ tables_1, d.before a0_ Z = true) (ws : List Jvm.Cond) (i0 : Int32) (h0 : Heap) (n0 : Nat) (Z0 : n0 ≤ h0.size)  :
    MetFree l (⟨"com/example/open_brace/openbrace/text/Utf8SequenceLengthPinLaw", "isCont", "(I)Z"⟩ : MethodName) (head1 (Jvm.Cond.code (⟨"com/example/open_brace/openbrace/text/Utf8SequenceLengthPinLaw", "isCont", "(I)Z"⟩ : MethodName) method_3_code 1 (some .boolean) :: ws) ({ frames := 0, cells := 0, slots := 0, locals := 0 } : Room)) (fun a U => a = #[(.int i0)] ∧ Z.Warmed39 U.vm ∧ U.heap = h0) (fun _ _ _ _ _ => True) (fun _ U o U' => ∃ v L, o = .returned v ∧ Q3 Z i0 h0 n0 v U'.heap L ∧ FrameEnd U o U' L ({ frames := 0, cells := 0, slots := 0, locals := 0 } : Room).cells ({ frames := 0, cells := 0, slots := 0, locals := 0 } : Room).slots) := by
  refine MetFree.of_bodySF (plainFor_of_name pn_3) hisR ?_
  intro p e s m args below meth c s₁ Bd hml0 hP hK
  obtain ⟨rfl, hZ, hh⟩ := hP
  have hx := Bd.exec
  have hby := Bd.bytes
  have hml : c.maxLocals = 1 := hml0
  have hown : s.vm.findClass "com/example/open_brace/openbrace/text/Utf8SequenceLengthPinLaw" = some m.cls := findClass_of_methodNamed Bd.named
  have X0 : Stand p l e ({ frames := 0, cells := 0, slots := 0, locals := 0 } : Room) s m #[(.int i0)] below meth c s₁ [] 0 0 := Stand.of_body Bd
  have e0 : s₁.heap = h0 := by rw [← hh, Bd.state]; rfl
  obtain ⟨T', X', e', st'⟩ := own_b3_0 hx hZ hw hby hml hown Bd.returns  i0 X0 e0 (by decide) (by decide) 
  obtain ⟨fs, hr, hrun, hended, hW, hsame⟩ := X'.leave (v := some (.int (own_f3_0 i0))) (fun h => by rw [Bd.returns] at h; cases h)
  refine ⟨_, _, castTop (ef_3 m i0) (st' fs hr), hrun, hended, _, _, rfl, ?_, ⟨_, rfl⟩, hW, hsame.mono (by decide) (by decide)⟩
  exact ⟨rfl, rfl, e'⟩
theorem d2_0 : decode method_4_code 0 = .ok (.iconst 0, 1) := by decide +kernel
theorem d2_1 : decode method_4_code 1 = .ok (.istore 5, 2) := by decide +kernel
theorem d2_3 : decode method_4_code 3 = .ok (.iconst 0, 1) := by decide +kernel
theorem d2_4 : decode method_4_code 4 = .ok (.istore 6, 2) := by decide +kernel
theorem d2_6 : decode method_4_code 6 = .ok (.iload_n 0, 1) := by decide +kernel
theorem d2_7 : decode method_4_code 7 = .ok (.sipush 192, 3) := by decide +kernel
theorem d2_10 : decode method_4_code 10 = .ok (.if_icmp .lt 22, 3) := by decide +kernel
theorem d2_13 : decode method_4_code 13 = .ok (.iload_n 0, 1) := by decide +kernel
theorem d2_14 : decode method_4_code 14 = .ok (.sipush 224, 3) := by decide +kernel
theorem d2_17 : decode method_4_code 17 = .ok (.if_icmp .ge 15, 3) := by decide +kernel
theorem d2_20 : decode method_4_code 20 = .ok (.iconst 2, 1) := by decide +kernel
theorem d2_21 : decode method_4_code 21 = .ok (.istore 5, 2) := by decide +kernel
theorem d2_23 : decode method_4_code 23 = .ok (.iload_n 0, 1) := by decide +kernel
theorem d2_24 : decode method_4_code 24 = .ok (.bipush 31, 2) := by decide +kernel
theorem d2_26 : decode method_4_code 26 = .ok (.iand, 1) := by decide +kernel
theorem d2_27 : decode method_4_code 27 = .ok (.istore 6, 2) := by decide +kernel
theorem d2_29 : decode method_4_code 29 = .ok (.goto 52, 3) := by decide +kernel
theorem d2_32 : decode method_4_code 32 = .ok (.iload_n 0, 1) := by decide +kernel
theorem d2_33 : decode method_4_code 33 = .ok (.sipush 224, 3) := by decide +kernel
theorem d2_36 : decode method_4_code 36 = .ok (.if_icmp .lt 22, 3) := by decide +kernel
theorem d2_39 : decode method_4_code 39 = .ok (.iload_n 0, 1) := by decide +kernel
theorem d2_40 : decode method_4_code 40 = .ok (.sipush 240, 3) := by decide +kernel
theorem d2_43 : decode method_4_code 43 = .ok (.if_icmp .ge 15, 3) := by decide +kernel
theorem d2_46 : decode method_4_code 46 = .ok (.iconst 3, 1) := by decide +kernel
theorem d2_47 : decode method_4_code 47 = .ok (.istore 5, 2) := by decide +kernel
theorem d2_49 : decode method_4_code 49 = .ok (.iload_n 0, 1) := by decide +kernel
theorem d2_50 : decode method_4_code 50 = .ok (.bipush 15, 2) := by decide +kernel
theorem d2_52 : decode method_4_code 52 = .ok (.iand, 1) := by decide +kernel
theorem d2_53 : decode method_4_code 53 = .ok (.istore 6, 2) := by decide +kernel
theorem d2_55 : decode method_4_code 55 = .ok (.goto 26, 3) := by decide +kernel
theorem d2_58 : decode method_4_code 58 = .ok (.iload_n 0, 1) := by decide +kernel
theorem d2_59 : decode method_4_code 59 = .ok (.sipush 240, 3) := by decide +kernel
theorem d2_62 : decode method_4_code 62 = .ok (.if_icmp .lt 19, 3) := by decide +kernel
theorem d2_65 : decode method_4_code 65 = .ok (.iload_n 0, 1) := by decide +kernel
theorem d2_66 : decode method_4_code 66 = .ok (.sipush 248, 3) := by decide +kernel
theorem d2_69 : decode method_4_code 69 = .ok (.if_icmp .ge 12, 3) := by decide +kernel
theorem d2_72 : decode method_4_code 72 = .ok (.iconst 4, 1) := by decide +kernel
theorem d2_73 : decode method_4_code 73 = .ok (.istore 5, 2) := by decide +kernel
theorem d2_75 : decode method_4_code 75 = .ok (.iload_n 0, 1) := by decide +kernel
theorem d2_76 : decode method_4_code 76 = .ok (.bipush 7, 2) := by decide +kernel
theorem d2_78 : decode method_4_code 78 = .ok (.iand, 1) := by decide +kernel
theorem d2_79 : decode method_4_code 79 = .ok (.istore 6, 2) := by decide +kernel
theorem d2_81 : decode method_4_code 81 = .ok (.iload 5, 2) := by decide +kernel
theorem d2_83 : decode method_4_code 83 = .ok (.ifCond .ne 5, 3) := by decide +kernel
theorem d2_86 : decode method_4_code 86 = .ok (.iconst 0, 1) := by decide +kernel
theorem d2_87 : decode method_4_code 87 = .ok (.ireturn, 1) := by decide +kernel
theorem d2_88 : decode method_4_code 88 = .ok (.iload 4, 2) := by decide +kernel
theorem d2_90 : decode method_4_code 90 = .ok (.iload 5, 2) := by decide +kernel
theorem d2_92 : decode method_4_code 92 = .ok (.if_icmp .ge 5, 3) := by decide +kernel
theorem d2_95 : decode method_4_code 95 = .ok (.iconst 0, 1) := by decide +kernel
theorem d2_96 : decode method_4_code 96 = .ok (.ireturn, 1) := by decide +kernel
theorem d2_97 : decode method_4_code 97 = .ok (.iload_n 1, 1) := by decide +kernel
theorem d2_98 : decode method_4_code 98 = .ok (.invokestatic 20, 3) := by decide +kernel
theorem d2_101 : decode method_4_code 101 = .ok (.istore 7, 2) := by decide +kernel
theorem d2_103 : decode method_4_code 103 = .ok (.iload 6, 2) := by decide +kernel
theorem d2_105 : decode method_4_code 105 = .ok (.bipush 6, 2) := by decide +kernel
theorem d2_107 : decode method_4_code 107 = .ok (.ishl, 1) := by decide +kernel
theorem d2_108 : decode method_4_code 108 = .ok (.iload_n 1, 1) := by decide +kernel
theorem d2_109 : decode method_4_code 109 = .ok (.bipush 63, 2) := by decide +kernel
theorem d2_111 : decode method_4_code 111 = .ok (.iand, 1) := by decide +kernel
theorem d2_112 : decode method_4_code 112 = .ok (.ior, 1) := by decide +kernel
theorem d2_113 : decode method_4_code 113 = .ok (.istore 6, 2) := by decide +kernel
theorem d2_115 : decode method_4_code 115 = .ok (.iload 5, 2) := by decide +kernel
theorem d2_117 : decode method_4_code 117 = .ok (.iconst 3, 1) := by decide +kernel
theorem d2_118 : decode method_4_code 118 = .ok (.if_icmp .lt 34, 3) := by decide +kernel
theorem d2_121 : decode method_4_code 121 = .ok (.iload 7, 2) := by decide +kernel
theorem d2_123 : decode method_4_code 123 = .ok (.ifCond .eq 14, 3) := by decide +kernel
theorem d2_126 : decode method_4_code 126 = .ok (.iload_n 2, 1) := by decide +kernel
theorem d2_127 : decode method_4_code 127 = .ok (.invokestatic 20, 3) := by decide +kernel
theorem d2_130 : decode method_4_code 130 = .ok (.ifCond .eq 7, 3) := by decide +kernel
theorem d2_133 : decode method_4_code 133 = .ok (.iconst 1, 1) := by decide +kernel
theorem d2_134 : decode method_4_code 134 = .ok (.goto 4, 3) := by decide +kernel
theorem d2_137 : decode method_4_code 137 = .ok (.iconst 0, 1) := by decide +kernel
theorem d2_138 : decode method_4_code 138 = .ok (.istore 7, 2) := by decide +kernel
theorem d2_140 : decode method_4_code 140 = .ok (.iload 6, 2) := by decide +kernel
theorem d2_142 : decode method_4_code 142 = .ok (.bipush 6, 2) := by decide +kernel
theorem d2_144 : decode method_4_code 144 = .ok (.ishl, 1) := by decide +kernel
theorem d2_145 : decode method_4_code 145 = .ok (.iload_n 2, 1) := by decide +kernel
theorem d2_146 : decode method_4_code 146 = .ok (.bipush 63, 2) := by decide +kernel
theorem d2_148 : decode method_4_code 148 = .ok (.iand, 1) := by decide +kernel
theorem d2_149 : decode method_4_code 149 = .ok (.ior, 1) := by decide +kernel
theorem d2_150 : decode method_4_code 150 = .ok (.istore 6, 2) := by decide +kernel
theorem d2_152 : decode method_4_code 152 = .ok (.iload 5, 2) := by decide +kernel
theorem d2_154 : decode method_4_code 154 = .ok (.iconst 4, 1) := by decide +kernel
theorem d2_155 : decode method_4_code 155 = .ok (.if_icmp .ne 34, 3) := by decide +kernel
theorem d2_158 : decode method_4_code 158 = .ok (.iload 7, 2) := by decide +kernel
theorem d2_160 : decode method_4_code 160 = .ok (.ifCond .eq 14, 3) := by decide +kernel
theorem d2_163 : decode method_4_code 163 = .ok (.iload_n 3, 1) := by decide +kernel
theorem d2_164 : decode method_4_code 164 = .ok (.invokestatic 20, 3) := by decide +kernel
theorem d2_167 : decode method_4_code 167 = .ok (.ifCond .eq 7, 3) := by decide +kernel
theorem d2_170 : decode method_4_code 170 = .ok (.iconst 1, 1) := by decide +kernel
theorem d2_171 : decode method_4_code 171 = .ok (.goto 4, 3) := by decide +kernel
theorem d2_174 : decode method_4_code 174 = .ok (.iconst 0, 1) := by decide +kernel
theorem d2_175 : decode method_4_code 175 = .ok (.istore 7, 2) := by decide +kernel
theorem d2_177 : decode method_4_code 177 = .ok (.iload 6, 2) := by decide +kernel
theorem d2_179 : decode method_4_code 179 = .ok (.bipush 6, 2) := by decide +kernel
theorem d2_181 : decode method_4_code 181 = .ok (.ishl, 1) := by decide +kernel
theorem d2_182 : decode method_4_code 182 = .ok (.iload_n 3, 1) := by decide +kernel
theorem d2_183 : decode method_4_code 183 = .ok (.bipush 63, 2) := by decide +kernel
theorem d2_185 : decode method_4_code 185 = .ok (.iand, 1) := by decide +kernel
theorem d2_186 : decode method_4_code 186 = .ok (.ior, 1) := by decide +kernel
theorem d2_187 : decode method_4_code 187 = .ok (.istore 6, 2) := by decide +kernel
theorem d2_189 : decode method_4_code 189 = .ok (.ldc 24, 2) := by decide +kernel
theorem d2_191 : decode method_4_code 191 = .ok (.istore 8, 2) := by decide +kernel
theorem d2_193 : decode method_4_code 193 = .ok (.iload 5, 2) := by decide +kernel
theorem d2_195 : decode method_4_code 195 = .ok (.iconst 2, 1) := by decide +kernel
theorem d2_196 : decode method_4_code 196 = .ok (.if_icmp .ne 11, 3) := by decide +kernel
theorem d2_199 : decode method_4_code 199 = .ok (.sipush 128, 3) := by decide +kernel
theorem d2_202 : decode method_4_code 202 = .ok (.istore 8, 2) := by decide +kernel
theorem d2_204 : decode method_4_code 204 = .ok (.goto 14, 3) := by decide +kernel
theorem d2_207 : decode method_4_code 207 = .ok (.iload 5, 2) := by decide +kernel
theorem d2_209 : decode method_4_code 209 = .ok (.iconst 3, 1) := by decide +kernel
theorem d2_210 : decode method_4_code 210 = .ok (.if_icmp .ne 8, 3) := by decide +kernel
theorem d2_213 : decode method_4_code 213 = .ok (.sipush 2048, 3) := by decide +kernel
theorem d2_216 : decode method_4_code 216 = .ok (.istore 8, 2) := by decide +kernel
theorem d2_218 : decode method_4_code 218 = .ok (.iload 7, 2) := by decide +kernel
theorem d2_220 : decode method_4_code 220 = .ok (.ifCond .eq 35, 3) := by decide +kernel
theorem d2_223 : decode method_4_code 223 = .ok (.iload 6, 2) := by decide +kernel
theorem d2_225 : decode method_4_code 225 = .ok (.iload 8, 2) := by decide +kernel
theorem d2_227 : decode method_4_code 227 = .ok (.if_icmp .lt 28, 3) := by decide +kernel
theorem d2_230 : decode method_4_code 230 = .ok (.iload 6, 2) := by decide +kernel
theorem d2_232 : decode method_4_code 232 = .ok (.ldc 25, 2) := by decide +kernel
theorem d2_234 : decode method_4_code 234 = .ok (.if_icmp .gt 21, 3) := by decide +kernel
theorem d2_237 : decode method_4_code 237 = .ok (.iload 6, 2) := by decide +kernel
theorem d2_239 : decode method_4_code 239 = .ok (.ldc 26, 2) := by decide +kernel
theorem d2_241 : decode method_4_code 241 = .ok (.if_icmp .lt 10, 3) := by decide +kernel
theorem d2_244 : decode method_4_code 244 = .ok (.iload 6, 2) := by decide +kernel
theorem d2_246 : decode method_4_code 246 = .ok (.ldc 27, 2) := by decide +kernel
theorem d2_248 : decode method_4_code 248 = .ok (.if_icmp .le 7, 3) := by decide +kernel
theorem d2_251 : decode method_4_code 251 = .ok (.iconst 1, 1) := by decide +kernel
theorem d2_252 : decode method_4_code 252 = .ok (.goto 4, 3) := by decide +kernel
theorem d2_255 : decode method_4_code 255 = .ok (.iconst 0, 1) := by decide +kernel
theorem d2_256 : decode method_4_code 256 = .ok (.istore 9, 2) := by decide +kernel
theorem d2_258 : decode method_4_code 258 = .ok (.iload 9, 2) := by decide +kernel
theorem d2_260 : decode method_4_code 260 = .ok (.ifCond .eq 6, 3) := by decide +kernel
theorem d2_263 : decode method_4_code 263 = .ok (.iload 5, 2) := by decide +kernel
theorem d2_265 : decode method_4_code 265 = .ok (.ireturn, 1) := by decide +kernel
theorem d2_266 : decode method_4_code 266 = .ok (.iconst 0, 1) := by decide +kernel
theorem d2_267 : decode method_4_code 267 = .ok (.ireturn, 1) := by decide +kernel
theorem pn_2 : plainName "com/example/open_brace/openbrace/text/Utf8SequenceLengthPinLaw" = true := by first | (simp [plainName, overriddenIn]; done) | decide +kernel
theorem pd_2_0 : parseMethodDescriptor "(I)Z" = some ⟨[.int], some .boolean⟩ := by decide +kernel
theorem ef_2 (m : MethodId) (i0 : Int32) (i1 : Int32) (i2 : Int32) (i3 : Int32) (i4 : Int32) : entryFrame m #[(.int i0), (.int i1), (.int i2), (.int i3), (.int i4)] 10 = mkF m 0 #[.val (.int i0), .val (.int i1), .val (.int i2), .val (.int i3), .val (.int i4), .unset, .unset, .unset, .unset, .unset] [] := by first | (simp [entryFrame, mkF, argsToLocals, Value.category]; done) | rfl
def own_f2_256 (i0 : Int32) (i1 : Int32) (i2 : Int32) (i3 : Int32) (i4 : Int32) (i5 : Int32) (i6 : Int32) (i7 : Int32) (i8 : Int32) (u0 : Int32) : Int32 :=
  (if u0 = (0 : Int32) then (0 : Int32) else i5)
def own_f2_255 (i0 : Int32) (i1 : Int32) (i2 : Int32) (i3 : Int32) (i4 : Int32) (i5 : Int32) (i6 : Int32) (i7 : Int32) (i8 : Int32) : Int32 :=
  (own_f2_256 i0 i1 i2 i3 i4 i5 i6 i7 i8 (0 : Int32))
def own_f2_251 (i0 : Int32) (i1 : Int32) (i2 : Int32) (i3 : Int32) (i4 : Int32) (i5 : Int32) (i6 : Int32) (i7 : Int32) (i8 : Int32) : Int32 :=
  (own_f2_256 i0 i1 i2 i3 i4 i5 i6 i7 i8 (1 : Int32))
def own_f2_218 (i0 : Int32) (i1 : Int32) (i2 : Int32) (i3 : Int32) (i4 : Int32) (i5 : Int32) (i6 : Int32) (i7 : Int32) (i8 : Int32) : Int32 :=
  (if i7 = (0 : Int32) then (own_f2_255 i0 i1 i2 i3 i4 i5 i6 i7 i8) else (if i6 < i8 then (own_f2_255 i0 i1 i2 i3 i4 i5 i6 i7 i8) else (if (1114111 : Int32) < i6 then (own_f2_255 i0 i1 i2 i3 i4 i5 i6 i7 i8) else (if i6 < (55296 : Int32) then (own_f2_251 i0 i1 i2 i3 i4 i5 i6 i7 i8) else (if (57343 : Int32) < i6 then (own_f2_251 i0 i1 i2 i3 i4 i5 i6 i7 i8) else (own_f2_255 i0 i1 i2 i3 i4 i5 i6 i7 i8))))))
def own_f2_189 (i0 : Int32) (i1 : Int32) (i2 : Int32) (i3 : Int32) (i4 : Int32) (i5 : Int32) (i6 : Int32) (i7 : Int32) : Int32 :=
  (if i5 = (2 : Int32) then (own_f2_218 i0 i1 i2 i3 i4 i5 i6 i7 (128 : Int32)) else (if i5 = (3 : Int32) then (own_f2_218 i0 i1 i2 i3 i4 i5 i6 i7 (2048 : Int32)) else (own_f2_218 i0 i1 i2 i3 i4 i5 i6 i7 (65536 : Int32))))
def own_f2_175 (i0 : Int32) (i1 : Int32) (i2 : Int32) (i3 : Int32) (i4 : Int32) (i5 : Int32) (i6 : Int32) (i7 : Int32) (u0 : Int32) : Int32 :=
  (own_f2_189 i0 i1 i2 i3 i4 i5 ((i6 <<< ((6 : Int32) &&& 31)) ||| (i3 &&& (63 : Int32))) u0)
def own_f2_174 (i0 : Int32) (i1 : Int32) (i2 : Int32) (i3 : Int32) (i4 : Int32) (i5 : Int32) (i6 : Int32) (i7 : Int32) : Int32 :=
  (own_f2_175 i0 i1 i2 i3 i4 i5 i6 i7 (0 : Int32))
def own_f2_152 (i0 : Int32) (i1 : Int32) (i2 : Int32) (i3 : Int32) (i4 : Int32) (i5 : Int32) (i6 : Int32) (i7 : Int32) : Int32 :=
  (if i5 = (4 : Int32) then (if i7 = (0 : Int32) then (own_f2_174 i0 i1 i2 i3 i4 i5 i6 i7) else (if (own_f3_0 i3) = (0 : Int32) then (own_f2_174 i0 i1 i2 i3 i4 i5 i6 i7) else (own_f2_175 i0 i1 i2 i3 i4 i5 i6 i7 (1 : Int32)))) else (own_f2_189 i0 i1 i2 i3 i4 i5 i6 i7))
def own_f2_138 (i0 : Int32) (i1 : Int32) (i2 : Int32) (i3 : Int32) (i4 : Int32) (i5 : Int32) (i6 : Int32) (i7 : Int32) (u0 : Int32) : Int32 :=
  (own_f2_152 i0 i1 i2 i3 i4 i5 ((i6 <<< ((6 : Int32) &&& 31)) ||| (i2 &&& (63 : Int32))) u0)
def own_f2_137 (i0 : Int32) (i1 : Int32) (i2 : Int32) (i3 : Int32) (i4 : Int32) (i5 : Int32) (i6 : Int32) (i7 : Int32) : Int32 :=
  (own_f2_138 i0 i1 i2 i3 i4 i5 i6 i7 (0 : Int32))
def own_f2_81 (i0 : Int32) (i1 : Int32) (i2 : Int32) (i3 : Int32) (i4 : Int32) (i5 : Int32) (i6 : Int32) : Int32 :=
  (if i5 = (0 : Int32) then (0 : Int32) else (if i4 < i5 then (0 : Int32) else (if i5 < (3 : Int32) then (own_f2_152 i0 i1 i2 i3 i4 i5 ((i6 <<< ((6 : Int32) &&& 31)) ||| (i1 &&& (63 : Int32))) (own_f3_0 i1)) else (if (own_f3_0 i1) = (0 : Int32) then (own_f2_137 i0 i1 i2 i3 i4 i5 ((i6 <<< ((6 : Int32) &&& 31)) ||| (i1 &&& (63 : Int32))) (own_f3_0 i1)) else (if (own_f3_0 i2) = (0 : Int32) then (own_f2_137 i0 i1 i2 i3 i4 i5 ((i6 <<< ((6 : Int32) &&& 31)) ||| (i1 &&& (63 : Int32))) (own_f3_0 i1)) else (own_f2_138 i0 i1 i2 i3 i4 i5 ((i6 <<< ((6 : Int32) &&& 31)) ||| (i1 &&& (63 : Int32))) (own_f3_0 i1) (1 : Int32)))))))
def own_f2_58 (i0 : Int32) (i1 : Int32) (i2 : Int32) (i3 : Int32) (i4 : Int32) (i5 : Int32) (i6 : Int32) : Int32 :=
  (if i0 < (240 : Int32) then (own_f2_81 i0 i1 i2 i3 i4 i5 i6) else (if i0 < (248 : Int32) then (own_f2_81 i0 i1 i2 i3 i4 (4 : Int32) (i0 &&& (7 : Int32))) else (own_f2_81 i0 i1 i2 i3 i4 i5 i6)))
def own_f2_32 (i0 : Int32) (i1 : Int32) (i2 : Int32) (i3 : Int32) (i4 : Int32) (i5 : Int32) (i6 : Int32) : Int32 :=
  (if i0 < (224 : Int32) then (own_f2_58 i0 i1 i2 i3 i4 i5 i6) else (if i0 < (240 : Int32) then (own_f2_81 i0 i1 i2 i3 i4 (3 : Int32) (i0 &&& (15 : Int32))) else (own_f2_58 i0 i1 i2 i3 i4 i5 i6)))
def own_f2_0 (i0 : Int32) (i1 : Int32) (i2 : Int32) (i3 : Int32) (i4 : Int32) : Int32 :=
  (if i0 < (192 : Int32) then (own_f2_32 i0 i1 i2 i3 i4 (0 : Int32) (0 : Int32)) else (if i0 < (224 : Int32) then (own_f2_81 i0 i1 i2 i3 i4 (2 : Int32) (i0 &&& (31 : Int32))) else (own_f2_32 i0 i1 i2 i3 i4 (0 : Int32) (0 : Int32))))
set_option maxRecDepth 65536 in
set_option maxHeartbeats 40000000 in
theorem own_b2_256 {p : Program} {l : Launch} {e : Env} {s : State} {m : MethodId} {args : Array Value} {below : List Frame} {meth : Method} {c : Code} {Z : State} {a0_ : Array Value} (hx : p.tables.exec = Jvm.exec) (hZ : Z.Warmed39 s.vm) (hw : ∀ d ∈ tables_1, d.before a0_ Z = true) (hby : c.code = method_4_code) (hml : c.maxLocals = 10) (hown : s.vm.findClass "com/example/open_brace/openbrace/text/Utf8SequenceLengthPinLaw" = some m.cls) (hret : meth.sig.returnType = some .int) {T0 : State} {locs : List Loc} {cells slots : Nat} {h0 : Heap} (i0 : Int32) (i1 : Int32) (i2 : Int32) (i3 : Int32) (i4 : Int32) (i5 : Int32) (i6 : Int32) (i7 : Int32) (i8 : Int32) (u0 : Int32)
    (X0 : Stand p l e ({ frames := 1, cells := 0, slots := 0, locals := 12 } : Room) s m args below meth c T0 locs cells slots) (e0 : T0.heap = h0) (hcl : cells ≤ ({ frames := 1, cells := 0, slots := 0, locals := 12 } : Room).cells) (hsl : slots ≤ ({ frames := 1, cells := 0, slots := 0, locals := 12 } : Room).slots)  :
    ∃ T', Stand p l e ({ frames := 1, cells := 0, slots := 0, locals := 12 } : Room) s m args below meth c T' locs cells slots ∧ T'.heap = h0 ∧ ∀ fs, (∀ (f : JFrame) (acts : List Action), f.method = m → f.locked = none → f.entered = [] → (doReturn e (T'.setTop f) acts (some (.int (own_f2_256 i0 i1 i2 i3 i4 i5 i6 i7 i8 u0)))).1 = T'.setFrames fs) → Steps p.tables e below (T0.setTop (mkF m 256 #[.val (.int i0), .val (.int i1), .val (.int i2), .val (.int i3), .val (.int i4), .val (.int i5), .val (.int i6), .val (.int i7), .val (.int i8), .unset] [(.int u0)])) (T'.setFrames fs) := by
  have pre1 : ∀ target, Steps p.tables e below (T0.setTop (mkF m 260 #[.val (.int i0), .val (.int i1), .val (.int i2), .val (.int i3), .val (.int i4), .val (.int i5), .val (.int i6), .val (.int i7), .val (.int i8), .val (.int u0)] [(.int u0)])) target → Steps p.tables e below (T0.setTop (mkF m 256 #[.val (.int i0), .val (.int i1), .val (.int i2), .val (.int i3), .val (.int i4), .val (.int i5), .val (.int i6), .val (.int i7), .val (.int i8), .unset] [(.int u0)])) target := by
    intro target kt
    show Steps p.tables e below (T0.setTop (mkF m 256 #[.val (.int i0), .val (.int i1), .val (.int i2), .val (.int i3), .val (.int i4), .val (.int i5), .val (.int i6), .val (.int i7), .val (.int i8), .unset] [(.int u0)])) _
    refine XS.istore X0.here hx rfl (hb hby d2_256) rfl (l' := #[.val (.int i0), .val (.int i1), .val (.int i2), .val (.int i3), .val (.int i4), .val (.int i5), .val (.int i6), .val (.int i7), .val (.int i8), .val (.int u0)]) rfl ?_
    show Steps p.tables e below (T0.setTop (mkF m 258 #[.val (.int i0), .val (.int i1), .val (.int i2), .val (.int i3), .val (.int i4), .val (.int i5), .val (.int i6), .val (.int i7), .val (.int i8), .val (.int u0)] [])) _
    refine XS.iload X0.here hx rfl (hb hby d2_258) rfl ?_
    exact kt
  by_cases hc260 : u0 = (0 : Int32)
  · refine ⟨T0, X0, e0, fun fs hr => ?_⟩
    have hv : (own_f2_256 i0 i1 i2 i3 i4 i5 i6 i7 i8 u0) = (0 : Int32) := by unfold own_f2_256; rw [if_pos hc260]
    rw [hv] at hr
    refine pre1 _ ?_
    show Steps p.tables e below (T0.setTop (mkF m 260 #[.val (.int i0), .val (.int i1), .val (.int i2), .val (.int i3), .val (.int i4), .val (.int i5), .val (.int i6), .val (.int i7), .val (.int i8), .val (.int u0)] [(.int u0)])) _
    refine XS.ifYes X0.here hx rfl (pc0 := 260) (pc' := 266) rfl (hb hby d2_260) rfl ((if0 _ _).trans (teq hc260).1) (by decide) (by decide) ?_
    show Steps p.tables e below (T0.setTop (mkF m 266 #[.val (.int i0), .val (.int i1), .val (.int i2), .val (.int i3), .val (.int i4), .val (.int i5), .val (.int i6), .val (.int i7), .val (.int i8), .val (.int u0)] [])) _
    refine XS.iconst X0.here hx rfl (hb hby d2_266) ?_
    show Steps p.tables e below (T0.setTop (mkF m 267 #[.val (.int i0), .val (.int i1), .val (.int i2), .val (.int i3), .val (.int i4), .val (.int i5), .val (.int i6), .val (.int i7), .val (.int i8), .val (.int u0)] [(.int (0 : Int32))])) _
    exact retI X0 hx hret (hb hby d2_267) hr
  · refine ⟨T0, X0, e0, fun fs hr => ?_⟩
    have hv : (own_f2_256 i0 i1 i2 i3 i4 i5 i6 i7 i8 u0) = i5 := by unfold own_f2_256; rw [if_neg hc260]
    rw [hv] at hr
    refine pre1 _ ?_
    show Steps p.tables e below (T0.setTop (mkF m 260 #[.val (.int i0), .val (.int i1), .val (.int i2), .val (.int i3), .val (.int i4), .val (.int i5), .val (.int i6), .val (.int i7), .val (.int i8), .val (.int u0)] [(.int u0)])) _
    refine XS.ifNo X0.here hx rfl (hb hby d2_260) rfl ((if0 _ _).trans (feq hc260).1) ?_
    show Steps p.tables e below (T0.setTop (mkF m 263 #[.val (.int i0), .val (.int i1), .val (.int i2), .val (.int i3), .val (.int i4), .val (.int i5), .val (.int i6), .val (.int i7), .val (.int i8), .val (.int u0)] [])) _
    refine XS.iload X0.here hx rfl (hb hby d2_263) rfl ?_
    show Steps p.tables e below (T0.setTop (mkF m 265 #[.val (.int i0), .val (.int i1), .val (.int i2), .val (.int i3), .val (.int i4), .val (.int i5), .val (.int i6), .val (.int i7), .val (.int i8), .val (.int u0)] [(.int i5)])) _
    exact retI X0 hx hret (hb hby d2_265) hr
set_option maxRecDepth 65536 in
set_option maxHeartbeats 40000000 in
theorem own_b2_255 {p : Program} {l : Launch} {e : Env} {s : State} {m : MethodId} {args : Array Value} {below : List Frame} {meth : Method} {c : Code} {Z : State} {a0_ : Array Value} (hx : p.tables.exec = Jvm.exec) (hZ : Z.Warmed39 s.vm) (hw : ∀ d ∈ tables_1, d.before a0_ Z = true) (hby : c.code = method_4_code) (hml : c.maxLocals = 10) (hown : s.vm.findClass "com/example/open_brace/openbrace/text/Utf8SequenceLengthPinLaw" = some m.cls) (hret : meth.sig.returnType = some .int) {T0 : State} {locs : List Loc} {cells slots : Nat} {h0 : Heap} (i0 : Int32) (i1 : Int32) (i2 : Int32) (i3 : Int32) (i4 : Int32) (i5 : Int32) (i6 : Int32) (i7 : Int32) (i8 : Int32)
    (X0 : Stand p l e ({ frames := 1, cells := 0, slots := 0, locals := 12 } : Room) s m args below meth c T0 locs cells slots) (e0 : T0.heap = h0) (hcl : cells ≤ ({ frames := 1, cells := 0, slots := 0, locals := 12 } : Room).cells) (hsl : slots ≤ ({ frames := 1, cells := 0, slots := 0, locals := 12 } : Room).slots)  :
    ∃ T', Stand p l e ({ frames := 1, cells := 0, slots := 0, locals := 12 } : Room) s m args below meth c T' locs cells slots ∧ T'.heap = h0 ∧ ∀ fs, (∀ (f : JFrame) (acts : List Action), f.method = m → f.locked = none → f.entered = [] → (doReturn e (T'.setTop f) acts (some (.int (own_f2_255 i0 i1 i2 i3 i4 i5 i6 i7 i8)))).1 = T'.setFrames fs) → Steps p.tables e below (T0.setTop (mkF m 255 #[.val (.int i0), .val (.int i1), .val (.int i2), .val (.int i3), .val (.int i4), .val (.int i5), .val (.int i6), .val (.int i7), .val (.int i8), .unset] [])) (T'.setFrames fs) := by
  have pre1 : ∀ target, Steps p.tables e below (T0.setTop (mkF m 256 #[.val (.int i0), .val (.int i1), .val (.int i2), .val (.int i3), .val (.int i4), .val (.int i5), .val (.int i6), .val (.int i7), .val (.int i8), .unset] [(.int (0 : Int32))])) target → Steps p.tables e below (T0.setTop (mkF m 255 #[.val (.int i0), .val (.int i1), .val (.int i2), .val (.int i3), .val (.int i4), .val (.int i5), .val (.int i6), .val (.int i7), .val (.int i8), .unset] [])) target := by
    intro target kt
    show Steps p.tables e below (T0.setTop (mkF m 255 #[.val (.int i0), .val (.int i1), .val (.int i2), .val (.int i3), .val (.int i4), .val (.int i5), .val (.int i6), .val (.int i7), .val (.int i8), .unset] [])) _
    refine XS.iconst X0.here hx rfl (hb hby d2_255) ?_
    exact kt
  obtain ⟨T2, X2, e2, st2⟩ := own_b2_256 hx hZ hw hby hml hown hret i0 i1 i2 i3 i4 i5 i6 i7 i8 (0 : Int32)  X0 e0 hcl hsl  
  have hv : (own_f2_255 i0 i1 i2 i3 i4 i5 i6 i7 i8) = (own_f2_256 i0 i1 i2 i3 i4 i5 i6 i7 i8 (0 : Int32)) := by unfold own_f2_255; rfl
  exact ⟨T2, X2, e2, fun fs hr => pre1 _ (st2 fs (by rw [hv] at hr; exact hr))⟩
set_option maxRecDepth 65536 in
set_option maxHeartbeats 40000000 in
theorem own_b2_251 {p : Program} {l : Launch} {e : Env} {s : State} {m : MethodId} {args : Array Value} {below : List Frame} {meth : Method} {c : Code} {Z : State} {a0_ : Array Value} (hx : p.tables.exec = Jvm.exec) (hZ : Z.Warmed39 s.vm) (hw : ∀ d ∈ tables_1, d.before a0_ Z = true) (hby : c.code = method_4_code) (hml : c.maxLocals = 10) (hown : s.vm.findClass "com/example/open_brace/openbrace/text/Utf8SequenceLengthPinLaw" = some m.cls) (hret : meth.sig.returnType = some .int) {T0 : State} {locs : List Loc} {cells slots : Nat} {h0 : Heap} (i0 : Int32) (i1 : Int32) (i2 : Int32) (i3 : Int32) (i4 : Int32) (i5 : Int32) (i6 : Int32) (i7 : Int32) (i8 : Int32)
    (X0 : Stand p l e ({ frames := 1, cells := 0, slots := 0, locals := 12 } : Room) s m args below meth c T0 locs cells slots) (e0 : T0.heap = h0) (hcl : cells ≤ ({ frames := 1, cells := 0, slots := 0, locals := 12 } : Room).cells) (hsl : slots ≤ ({ frames := 1, cells := 0, slots := 0, locals := 12 } : Room).slots)  :
    ∃ T', Stand p l e ({ frames := 1, cells := 0, slots := 0, locals := 12 } : Room) s m args below meth c T' locs cells slots ∧ T'.heap = h0 ∧ ∀ fs, (∀ (f : JFrame) (acts : List Action), f.method = m → f.locked = none → f.entered = [] → (doReturn e (T'.setTop f) acts (some (.int (own_f2_251 i0 i1 i2 i3 i4 i5 i6 i7 i8)))).1 = T'.setFrames fs) → Steps p.tables e below (T0.setTop (mkF m 251 #[.val (.int i0), .val (.int i1), .val (.int i2), .val (.int i3), .val (.int i4), .val (.int i5), .val (.int i6), .val (.int i7), .val (.int i8), .unset] [])) (T'.setFrames fs) := by
  have pre1 : ∀ target, Steps p.tables e below (T0.setTop (mkF m 256 #[.val (.int i0), .val (.int i1), .val (.int i2), .val (.int i3), .val (.int i4), .val (.int i5), .val (.int i6), .val (.int i7), .val (.int i8), .unset] [(.int (1 : Int32))])) target → Steps p.tables e below (T0.setTop (mkF m 251 #[.val (.int i0), .val (.int i1), .val (.int i2), .val (.int i3), .val (.int i4), .val (.int i5), .val (.int i6), .val (.int i7), .val (.int i8), .unset] [])) target := by
    intro target kt
    show Steps p.tables e below (T0.setTop (mkF m 251 #[.val (.int i0), .val (.int i1), .val (.int i2), .val (.int i3), .val (.int i4), .val (.int i5), .val (.int i6), .val (.int i7), .val (.int i8), .unset] [])) _
    refine XS.iconst X0.here hx rfl (hb hby d2_251) ?_
    show Steps p.tables e below (T0.setTop (mkF m 252 #[.val (.int i0), .val (.int i1), .val (.int i2), .val (.int i3), .val (.int i4), .val (.int i5), .val (.int i6), .val (.int i7), .val (.int i8), .unset] [(.int (1 : Int32))])) _
    refine XS.goto X0.here hx rfl (pc0 := 252) (pc' := 256) rfl (hb hby d2_252) (by decide) (by decide) ?_
    exact kt
  obtain ⟨T2, X2, e2, st2⟩ := own_b2_256 hx hZ hw hby hml hown hret i0 i1 i2 i3 i4 i5 i6 i7 i8 (1 : Int32)  X0 e0 hcl hsl  
  have hv : (own_f2_251 i0 i1 i2 i3 i4 i5 i6 i7 i8) = (own_f2_256 i0 i1 i2 i3 i4 i5 i6 i7 i8 (1 : Int32)) := by unfold own_f2_251; rfl
  exact ⟨T2, X2, e2, fun fs hr => pre1 _ (st2 fs (by rw [hv] at hr; exact hr))⟩
set_option maxRecDepth 65536 in
set_option maxHeartbeats 40000000 in
theorem own_b2_218 {p : Program} {l : Launch} {e : Env} {s : State} {m : MethodId} {args : Array Value} {below : List Frame} {meth : Method} {c : Code} {Z : State} {a0_ : Array Value} (hx : p.tables.exec = Jvm.exec) (hZ : Z.Warmed39 s.vm) (hw : ∀ d ∈ tables_1, d.before a0_ Z = true) (hby : c.code = method_4_code) (hml : c.maxLocals = 10) (hown : s.vm.findClass "com/example/open_brace/openbrace/text/Utf8SequenceLengthPinLaw" = some m.cls) (hret : meth.sig.returnType = some .int) {T0 : State} {locs : List Loc} {cells slots : Nat} {h0 : Heap} (i0 : Int32) (i1 : Int32) (i2 : Int32) (i3 : Int32) (i4 : Int32) (i5 : Int32) (i6 : Int32) (i7 : Int32) (i8 : Int32)
    (X0 : Stand p l e ({ frames := 1, cells := 0, slots := 0, locals := 12 } : Room) s m args below meth c T0 locs cells slots) (e0 : T0.heap = h0) (hcl : cells ≤ ({ frames := 1, cells := 0, slots := 0, locals := 12 } : Room).cells) (hsl : slots ≤ ({ frames := 1, cells := 0, slots := 0, locals := 12 } : Room).slots)  :
    ∃ T', Stand p l e ({ frames := 1, cells := 0, slots := 0, locals := 12 } : Room) s m args below meth c T' locs cells slots ∧ T'.heap = h0 ∧ ∀ fs, (∀ (f : JFrame) (acts : List Action), f.method = m → f.locked = none → f.entered = [] → (doReturn e (T'.setTop f) acts (some (.int (own_f2_218 i0 i1 i2 i3 i4 i5 i6 i7 i8)))).1 = T'.setFrames fs) → Steps p.tables e below (T0.setTop (mkF m 218 #[.val (.int i0), .val (.int i1), .val (.int i2), .val (.int i3), .val (.int i4), .val (.int i5), .val (.int i6), .val (.int i7), .val (.int i8), .unset] [])) (T'.setFrames fs) := by
  have pre1 : ∀ target, Steps p.tables e below (T0.setTop (mkF m 220 #[.val (.int i0), .val (.int i1), .val (.int i2), .val (.int i3), .val (.int i4), .val (.int i5), .val (.int i6), .val (.int i7), .val (.int i8), .unset] [(.int i7)])) target → Steps p.tables e below (T0.setTop (mkF m 218 #[.val (.int i0), .val (.int i1), .val (.int i2), .val (.int i3), .val (.int i4), .val (.int i5), .val (.int i6), .val (.int i7), .val (.int i8), .unset] [])) target := by
    intro target kt
    show Steps p.tables e below (T0.setTop (mkF m 218 #[.val (.int i0), .val (.int i1), .val (.int i2), .val (.int i3), .val (.int i4), .val (.int i5), .val (.int i6), .val (.int i7), .val (.int i8), .unset] [])) _
    refine XS.iload X0.here hx rfl (hb hby d2_218) rfl ?_
    exact kt
  by_cases hc220 : i7 = (0 : Int32)
  · have pre2 : ∀ target, Steps p.tables e below (T0.setTop (mkF m 255 #[.val (.int i0), .val (.int i1), .val (.int i2), .val (.int i3), .val (.int i4), .val (.int i5), .val (.int i6), .val (.int i7), .val (.int i8), .unset] [])) target → Steps p.tables e below (T0.setTop (mkF m 218 #[.val (.int i0), .val (.int i1), .val (.int i2), .val (.int i3), .val (.int i4), .val (.int i5), .val (.int i6), .val (.int i7), .val (.int i8), .unset] [])) target := by
      intro target kt
      refine pre1 target ?_
      show Steps p.tables e below (T0.setTop (mkF m 220 #[.val (.int i0), .val (.int i1), .val (.int i2), .val (.int i3), .val (.int i4), .val (.int i5), .val (.int i6), .val (.int i7), .val (.int i8), .unset] [(.int i7)])) _
      refine XS.ifYes X0.here hx rfl (pc0 := 220) (pc' := 255) rfl (hb hby d2_220) rfl ((if0 _ _).trans (teq hc220).1) (by decide) (by decide) ?_
      exact kt
    obtain ⟨T3, X3, e3, st3⟩ := own_b2_255 hx hZ hw hby hml hown hret i0 i1 i2 i3 i4 i5 i6 i7 i8  X0 e0 hcl hsl  
    have hv : (own_f2_218 i0 i1 i2 i3 i4 i5 i6 i7 i8) = (own_f2_255 i0 i1 i2 i3 i4 i5 i6 i7 i8) := by unfold own_f2_218; rw [if_pos hc220]
    exact ⟨T3, X3, e3, fun fs hr => pre2 _ (st3 fs (by rw [hv] at hr; exact hr))⟩
  · have pre4 : ∀ target, Steps p.tables e below (T0.setTop (mkF m 227 #[.val (.int i0), .val (.int i1), .val (.int i2), .val (.int i3), .val (.int i4), .val (.int i5), .val (.int i6), .val (.int i7), .val (.int i8), .unset] [(.int i8), (.int i6)])) target → Steps p.tables e below (T0.setTop (mkF m 218 #[.val (.int i0), .val (.int i1), .val (.int i2), .val (.int i3), .val (.int i4), .val (.int i5), .val (.int i6), .val (.int i7), .val (.int i8), .unset] [])) target := by
      intro target kt
      refine pre1 target ?_
      show Steps p.tables e below (T0.setTop (mkF m 220 #[.val (.int i0), .val (.int i1), .val (.int i2), .val (.int i3), .val (.int i4), .val (.int i5), .val (.int i6), .val (.int i7), .val (.int i8), .unset] [(.int i7)])) _
      refine XS.ifNo X0.here hx rfl (hb hby d2_220) rfl ((if0 _ _).trans (feq hc220).1) ?_
      show Steps p.tables e below (T0.setTop (mkF m 223 #[.val (.int i0), .val (.int i1), .val (.int i2), .val (.int i3), .val (.int i4), .val (.int i5), .val (.int i6), .val (.int i7), .val (.int i8), .unset] [])) _
      refine XS.iload X0.here hx rfl (hb hby d2_223) rfl ?_
      show Steps p.tables e below (T0.setTop (mkF m 225 #[.val (.int i0), .val (.int i1), .val (.int i2), .val (.int i3), .val (.int i4), .val (.int i5), .val (.int i6), .val (.int i7), .val (.int i8), .unset] [(.int i6)])) _
      refine XS.iload X0.here hx rfl (hb hby d2_225) rfl ?_
      exact kt
    by_cases hc227 : i6 < i8
    · have pre5 : ∀ target, Steps p.tables e below (T0.setTop (mkF m 255 #[.val (.int i0), .val (.int i1), .val (.int i2), .val (.int i3), .val (.int i4), .val (.int i5), .val (.int i6), .val (.int i7), .val (.int i8), .unset] [])) target → Steps p.tables e below (T0.setTop (mkF m 218 #[.val (.int i0), .val (.int i1), .val (.int i2), .val (.int i3), .val (.int i4), .val (.int i5), .val (.int i6), .val (.int i7), .val (.int i8), .unset] [])) target := by
        intro target kt
        refine pre4 target ?_
        show Steps p.tables e below (T0.setTop (mkF m 227 #[.val (.int i0), .val (.int i1), .val (.int i2), .val (.int i3), .val (.int i4), .val (.int i5), .val (.int i6), .val (.int i7), .val (.int i8), .unset] [(.int i8), (.int i6)])) _
        refine XS.icmpYes X0.here hx rfl (pc0 := 227) (pc' := 255) rfl (hb hby d2_227) rfl (tlt hc227).1 (by decide) (by decide) ?_
        exact kt
      obtain ⟨T6, X6, e6, st6⟩ := own_b2_255 hx hZ hw hby hml hown hret i0 i1 i2 i3 i4 i5 i6 i7 i8  X0 e0 hcl hsl  
      have hv : (own_f2_218 i0 i1 i2 i3 i4 i5 i6 i7 i8) = (own_f2_255 i0 i1 i2 i3 i4 i5 i6 i7 i8) := by unfold own_f2_218; rw [if_neg hc220, if_pos hc227]
      exact ⟨T6, X6, e6, fun fs hr => pre5 _ (st6 fs (by rw [hv] at hr; exact hr))⟩
    · have pre7 : ∀ target, Steps p.tables e below (T0.setTop (mkF m 234 #[.val (.int i0), .val (.int i1), .val (.int i2), .val (.int i3), .val (.int i4), .val (.int i5), .val (.int i6), .val (.int i7), .val (.int i8), .unset] [(.int (1114111 : Int32)), (.int i6)])) target → Steps p.tables e below (T0.setTop (mkF m 218 #[.val (.int i0), .val (.int i1), .val (.int i2), .val (.int i3), .val (.int i4), .val (.int i5), .val (.int i6), .val (.int i7), .val (.int i8), .unset] [])) target := by
        intro target kt
        refine pre4 target ?_
        show Steps p.tables e below (T0.setTop (mkF m 227 #[.val (.int i0), .val (.int i1), .val (.int i2), .val (.int i3), .val (.int i4), .val (.int i5), .val (.int i6), .val (.int i7), .val (.int i8), .unset] [(.int i8), (.int i6)])) _
        refine XS.icmpNo X0.here hx rfl (hb hby d2_227) rfl (flt hc227).1 ?_
        show Steps p.tables e below (T0.setTop (mkF m 230 #[.val (.int i0), .val (.int i1), .val (.int i2), .val (.int i3), .val (.int i4), .val (.int i5), .val (.int i6), .val (.int i7), .val (.int i8), .unset] [])) _
        refine XS.iload X0.here hx rfl (hb hby d2_230) rfl ?_
        show Steps p.tables e below (T0.setTop (mkF m 232 #[.val (.int i0), .val (.int i1), .val (.int i2), .val (.int i3), .val (.int i4), .val (.int i5), .val (.int i6), .val (.int i7), .val (.int i8), .unset] [(.int i6)])) _
        refine X0.ldcInt hx hown (mvT hZ (hw _ (List.mem_of_getElem? (i := 14) rfl))) (g := (mkF m 232 #[.val (.int i0), .val (.int i1), .val (.int i2), .val (.int i3), .val (.int i4), .val (.int i5), .val (.int i6), .val (.int i7), .val (.int i8), .unset] [(.int i6)])) rfl (hb hby d2_232) _ ?_
        exact kt
      by_cases hc234 : (1114111 : Int32) < i6
      · have pre8 : ∀ target, Steps p.tables e below (T0.setTop (mkF m 255 #[.val (.int i0), .val (.int i1), .val (.int i2), .val (.int i3), .val (.int i4), .val (.int i5), .val (.int i6), .val (.int i7), .val (.int i8), .unset] [])) target → Steps p.tables e below (T0.setTop (mkF m 218 #[.val (.int i0), .val (.int i1), .val (.int i2), .val (.int i3), .val (.int i4), .val (.int i5), .val (.int i6), .val (.int i7), .val (.int i8), .unset] [])) target := by
          intro target kt
          refine pre7 target ?_
          show Steps p.tables e below (T0.setTop (mkF m 234 #[.val (.int i0), .val (.int i1), .val (.int i2), .val (.int i3), .val (.int i4), .val (.int i5), .val (.int i6), .val (.int i7), .val (.int i8), .unset] [(.int (1114111 : Int32)), (.int i6)])) _
          refine XS.icmpYes X0.here hx rfl (pc0 := 234) (pc' := 255) rfl (hb hby d2_234) rfl (tlt hc234).2.2.1 (by decide) (by decide) ?_
          exact kt
        obtain ⟨T9, X9, e9, st9⟩ := own_b2_255 hx hZ hw hby hml hown hret i0 i1 i2 i3 i4 i5 i6 i7 i8  X0 e0 hcl hsl  
        have hv : (own_f2_218 i0 i1 i2 i3 i4 i5 i6 i7 i8) = (own_f2_255 i0 i1 i2 i3 i4 i5 i6 i7 i8) := by unfold own_f2_218; rw [if_neg hc220, if_neg hc227, if_pos hc234]
        exact ⟨T9, X9, e9, fun fs hr => pre8 _ (st9 fs (by rw [hv] at hr; exact hr))⟩
      · have pre10 : ∀ target, Steps p.tables e below (T0.setTop (mkF m 241 #[.val (.int i0), .val (.int i1), .val (.int i2), .val (.int i3), .val (.int i4), .val (.int i5), .val (.int i6), .val (.int i7), .val (.int i8), .unset] [(.int (55296 : Int32)), (.int i6)])) target → Steps p.tables e below (T0.setTop (mkF m 218 #[.val (.int i0), .val (.int i1), .val (.int i2), .val (.int i3), .val (.int i4), .val (.int i5), .val (.int i6), .val (.int i7), .val (.int i8), .unset] [])) target := by
          intro target kt
          refine pre7 target ?_
          show Steps p.tables e below (T0.setTop (mkF m 234 #[.val (.int i0), .val (.int i1), .val (.int i2), .val (.int i3), .val (.int i4), .val (.int i5), .val (.int i6), .val (.int i7), .val (.int i8), .unset] [(.int (1114111 : Int32)), (.int i6)])) _
          refine XS.icmpNo X0.here hx rfl (hb hby d2_234) rfl (flt hc234).2.2.1 ?_
          show Steps p.tables e below (T0.setTop (mkF m 237 #[.val (.int i0), .val (.int i1), .val (.int i2), .val (.int i3), .val (.int i4), .val (.int i5), .val (.int i6), .val (.int i7), .val (.int i8), .unset] [])) _
          refine XS.iload X0.here hx rfl (hb hby d2_237) rfl ?_
          show Steps p.tables e below (T0.setTop (mkF m 239 #[.val (.int i0), .val (.int i1), .val (.int i2), .val (.int i3), .val (.int i4), .val (.int i5), .val (.int i6), .val (.int i7), .val (.int i8), .unset] [(.int i6)])) _
          refine X0.ldcInt hx hown (mvT hZ (hw _ (List.mem_of_getElem? (i := 15) rfl))) (g := (mkF m 239 #[.val (.int i0), .val (.int i1), .val (.int i2), .val (.int i3), .val (.int i4), .val (.int i5), .val (.int i6), .val (.int i7), .val (.int i8), .unset] [(.int i6)])) rfl (hb hby d2_239) _ ?_
          exact kt
        by_cases hc241 : i6 < (55296 : Int32)
        · have pre11 : ∀ target, Steps p.tables e below (T0.setTop (mkF m 251 #[.val (.int i0), .val (.int i1), .val (.int i2), .val (.int i3), .val (.int i4), .val (.int i5), .val (.int i6), .val (.int i7), .val (.int i8), .unset] [])) target → Steps p.tables e below (T0.setTop (mkF m 218 #[.val (.int i0), .val (.int i1), .val (.int i2), .val (.int i3), .val (.int i4), .val (.int i5), .val (.int i6), .val (.int i7), .val (.int i8), .unset] [])) target := by
            intro target kt
            refine pre10 target ?_
            show Steps p.tables e below (T0.setTop (mkF m 241 #[.val (.int i0), .val (.int i1), .val (.int i2), .val (.int i3), .val (.int i4), .val (.int i5), .val (.int i6), .val (.int i7), .val (.int i8), .unset] [(.int (55296 : Int32)), (.int i6)])) _
            refine XS.icmpYes X0.here hx rfl (pc0 := 241) (pc' := 251) rfl (hb hby d2_241) rfl (tlt hc241).1 (by decide) (by decide) ?_
            exact kt
          obtain ⟨T12, X12, e12, st12⟩ := own_b2_251 hx hZ hw hby hml hown hret i0 i1 i2 i3 i4 i5 i6 i7 i8  X0 e0 hcl hsl  
          have hv : (own_f2_218 i0 i1 i2 i3 i4 i5 i6 i7 i8) = (own_f2_251 i0 i1 i2 i3 i4 i5 i6 i7 i8) := by unfold own_f2_218; rw [if_neg hc220, if_neg hc227, if_neg hc234, if_pos hc241]
          exact ⟨T12, X12, e12, fun fs hr => pre11 _ (st12 fs (by rw [hv] at hr; exact hr))⟩
        · have pre13 : ∀ target, Steps p.tables e below (T0.setTop (mkF m 248 #[.val (.int i0), .val (.int i1), .val (.int i2), .val (.int i3), .val (.int i4), .val (.int i5), .val (.int i6), .val (.int i7), .val (.int i8), .unset] [(.int (57343 : Int32)), (.int i6)])) target → Steps p.tables e below (T0.setTop (mkF m 218 #[.val (.int i0), .val (.int i1), .val (.int i2), .val (.int i3), .val (.int i4), .val (.int i5), .val (.int i6), .val (.int i7), .val (.int i8), .unset] [])) target := by
            intro target kt
            refine pre10 target ?_
            show Steps p.tables e below (T0.setTop (mkF m 241 #[.val (.int i0), .val (.int i1), .val (.int i2), .val (.int i3), .val (.int i4), .val (.int i5), .val (.int i6), .val (.int i7), .val (.int i8), .unset] [(.int (55296 : Int32)), (.int i6)])) _
            refine XS.icmpNo X0.here hx rfl (hb hby d2_241) rfl (flt hc241).1 ?_
            show Steps p.tables e below (T0.setTop (mkF m 244 #[.val (.int i0), .val (.int i1), .val (.int i2), .val (.int i3), .val (.int i4), .val (.int i5), .val (.int i6), .val (.int i7), .val (.int i8), .unset] [])) _
            refine XS.iload X0.here hx rfl (hb hby d2_244) rfl ?_
            show Steps p.tables e below (T0.setTop (mkF m 246 #[.val (.int i0), .val (.int i1), .val (.int i2), .val (.int i3), .val (.int i4), .val (.int i5), .val (.int i6), .val (.int i7), .val (.int i8), .unset] [(.int i6)])) _
            refine X0.ldcInt hx hown (mvT hZ (hw _ (List.mem_of_getElem? (i := 16) rfl))) (g := (mkF m 246 #[.val (.int i0), .val (.int i1), .val (.int i2), .val (.int i3), .val (.int i4), .val (.int i5), .val (.int i6), .val (.int i7), .val (.int i8), .unset] [(.int i6)])) rfl (hb hby d2_246) _ ?_
            exact kt
          by_cases hc248 : (57343 : Int32) < i6
          · have pre14 : ∀ target, Steps p.tables e below (T0.setTop (mkF m 251 #[.val (.int i0), .val (.int i1), .val (.int i2), .val (.int i3), .val (.int i4), .val (.int i5), .val (.int i6), .val (.int i7), .val (.int i8), .unset] [])) target → Steps p.tables e below (T0.setTop (mkF m 218 #[.val (.int i0), .val (.int i1), .val (.int i2), .val (.int i3), .val (.int i4), .val (.int i5), .val (.int i6), .val (.int i7), .val (.int i8), .unset] [])) target := by
              intro target kt
              refine pre13 target ?_
              show Steps p.tables e below (T0.setTop (mkF m 248 #[.val (.int i0), .val (.int i1), .val (.int i2), .val (.int i3), .val (.int i4), .val (.int i5), .val (.int i6), .val (.int i7), .val (.int i8), .unset] [(.int (57343 : Int32)), (.int i6)])) _
              refine XS.icmpNo X0.here hx rfl (hb hby d2_248) rfl (tlt hc248).2.2.2 ?_
              exact kt
            obtain ⟨T15, X15, e15, st15⟩ := own_b2_251 hx hZ hw hby hml hown hret i0 i1 i2 i3 i4 i5 i6 i7 i8  X0 e0 hcl hsl  
            have hv : (own_f2_218 i0 i1 i2 i3 i4 i5 i6 i7 i8) = (own_f2_251 i0 i1 i2 i3 i4 i5 i6 i7 i8) := by unfold own_f2_218; rw [if_neg hc220, if_neg hc227, if_neg hc234, if_neg hc241, if_pos hc248]
            exact ⟨T15, X15, e15, fun fs hr => pre14 _ (st15 fs (by rw [hv] at hr; exact hr))⟩
          · have pre16 : ∀ target, Steps p.tables e below (T0.setTop (mkF m 255 #[.val (.int i0), .val (.int i1), .val (.int i2), .val (.int i3), .val (.int i4), .val (.int i5), .val (.int i6), .val (.int i7), .val (.int i8), .unset] [])) target → Steps p.tables e below (T0.setTop (mkF m 218 #[.val (.int i0), .val (.int i1), .val (.int i2), .val (.int i3), .val (.int i4), .val (.int i5), .val (.int i6), .val (.int i7), .val (.int i8), .unset] [])) target := by
              intro target kt
              refine pre13 target ?_
              show Steps p.tables e below (T0.setTop (mkF m 248 #[.val (.int i0), .val (.int i1), .val (.int i2), .val (.int i3), .val (.int i4), .val (.int i5), .val (.int i6), .val (.int i7), .val (.int i8), .unset] [(.int (57343 : Int32)), (.int i6)])) _
              refine XS.icmpYes X0.here hx rfl (pc0 := 248) (pc' := 255) rfl (hb hby d2_248) rfl (flt hc248).2.2.2 (by decide) (by decide) ?_
              exact kt
            obtain ⟨T17, X17, e17, st17⟩ := own_b2_255 hx hZ hw hby hml hown hret i0 i1 i2 i3 i4 i5 i6 i7 i8  X0 e0 hcl hsl  
            have hv : (own_f2_218 i0 i1 i2 i3 i4 i5 i6 i7 i8) = (own_f2_255 i0 i1 i2 i3 i4 i5 i6 i7 i8) := by unfold own_f2_218; rw [if_neg hc220, if_neg hc227, if_neg hc234, if_neg hc241, if_neg hc248]
            exact ⟨T17, X17, e17, fun fs hr => pre16 _ (st17 fs (by rw [hv] at hr; exact hr))⟩
set_option maxRecDepth 65536 in
set_option maxHeartbeats 40000000 in
theorem own_b2_189 {p : Program} {l : Launch} {e : Env} {s : State} {m : MethodId} {args : Array Value} {below : List Frame} {meth : Method} {c : Code} {Z : State} {a0_ : Array Value} (hx : p.tables.exec = Jvm.exec) (hZ : Z.Warmed39 s.vm) (hw : ∀ d ∈ tables_1, d.before a0_ Z = true) (hby : c.code = method_4_code) (hml : c.maxLocals = 10) (hown : s.vm.findClass "com/example/open_brace/openbrace/text/Utf8SequenceLengthPinLaw" = some m.cls) (hret : meth.sig.returnType = some .int) {T0 : State} {locs : List Loc} {cells slots : Nat} {h0 : Heap} (i0 : Int32) (i1 : Int32) (i2 : Int32) (i3 : Int32) (i4 : Int32) (i5 : Int32) (i6 : Int32) (i7 : Int32)
    (X0 : Stand p l e ({ frames := 1, cells := 0, slots := 0, locals := 12 } : Room) s m args below meth c T0 locs cells slots) (e0 : T0.heap = h0) (hcl : cells ≤ ({ frames := 1, cells := 0, slots := 0, locals := 12 } : Room).cells) (hsl : slots ≤ ({ frames := 1, cells := 0, slots := 0, locals := 12 } : Room).slots)  :
    ∃ T', Stand p l e ({ frames := 1, cells := 0, slots := 0, locals := 12 } : Room) s m args below meth c T' locs cells slots ∧ T'.heap = h0 ∧ ∀ fs, (∀ (f : JFrame) (acts : List Action), f.method = m → f.locked = none → f.entered = [] → (doReturn e (T'.setTop f) acts (some (.int (own_f2_189 i0 i1 i2 i3 i4 i5 i6 i7)))).1 = T'.setFrames fs) → Steps p.tables e below (T0.setTop (mkF m 189 #[.val (.int i0), .val (.int i1), .val (.int i2), .val (.int i3), .val (.int i4), .val (.int i5), .val (.int i6), .val (.int i7), .unset, .unset] [])) (T'.setFrames fs) := by
  have pre1 : ∀ target, Steps p.tables e below (T0.setTop (mkF m 196 #[.val (.int i0), .val (.int i1), .val (.int i2), .val (.int i3), .val (.int i4), .val (.int i5), .val (.int i6), .val (.int i7), .val (.int (65536 : Int32)), .unset] [(.int (2 : Int32)), (.int i5)])) target → Steps p.tables e below (T0.setTop (mkF m 189 #[.val (.int i0), .val (.int i1), .val (.int i2), .val (.int i3), .val (.int i4), .val (.int i5), .val (.int i6), .val (.int i7), .unset, .unset] [])) target := by
    intro target kt
    show Steps p.tables e below (T0.setTop (mkF m 189 #[.val (.int i0), .val (.int i1), .val (.int i2), .val (.int i3), .val (.int i4), .val (.int i5), .val (.int i6), .val (.int i7), .unset, .unset] [])) _
    refine X0.ldcInt hx hown (mvT hZ (hw _ (List.mem_of_getElem? (i := 13) rfl))) (g := (mkF m 189 #[.val (.int i0), .val (.int i1), .val (.int i2), .val (.int i3), .val (.int i4), .val (.int i5), .val (.int i6), .val (.int i7), .unset, .unset] [])) rfl (hb hby d2_189) _ ?_
    show Steps p.tables e below (T0.setTop (mkF m 191 #[.val (.int i0), .val (.int i1), .val (.int i2), .val (.int i3), .val (.int i4), .val (.int i5), .val (.int i6), .val (.int i7), .unset, .unset] [(.int (65536 : Int32))])) _
    refine XS.istore X0.here hx rfl (hb hby d2_191) rfl (l' := #[.val (.int i0), .val (.int i1), .val (.int i2), .val (.int i3), .val (.int i4), .val (.int i5), .val (.int i6), .val (.int i7), .val (.int (65536 : Int32)), .unset]) rfl ?_
    show Steps p.tables e below (T0.setTop (mkF m 193 #[.val (.int i0), .val (.int i1), .val (.int i2), .val (.int i3), .val (.int i4), .val (.int i5), .val (.int i6), .val (.int i7), .val (.int (65536 : Int32)), .unset] [])) _
    refine XS.iload X0.here hx rfl (hb hby d2_193) rfl ?_
    show Steps p.tables e below (T0.setTop (mkF m 195 #[.val (.int i0), .val (.int i1), .val (.int i2), .val (.int i3), .val (.int i4), .val (.int i5), .val (.int i6), .val (.int i7), .val (.int (65536 : Int32)), .unset] [(.int i5)])) _
    refine XS.iconst X0.here hx rfl (hb hby d2_195) ?_
    exact kt
  by_cases hc196 : i5 = (2 : Int32)
  · have pre2 : ∀ target, Steps p.tables e below (T0.setTop (mkF m 218 #[.val (.int i0), .val (.int i1), .val (.int i2), .val (.int i3), .val (.int i4), .val (.int i5), .val (.int i6), .val (.int i7), .val (.int (128 : Int32)), .unset] [])) target → Steps p.tables e below (T0.setTop (mkF m 189 #[.val (.int i0), .val (.int i1), .val (.int i2), .val (.int i3), .val (.int i4), .val (.int i5), .val (.int i6), .val (.int i7), .unset, .unset] [])) target := by
      intro target kt
      refine pre1 target ?_
      show Steps p.tables e below (T0.setTop (mkF m 196 #[.val (.int i0), .val (.int i1), .val (.int i2), .val (.int i3), .val (.int i4), .val (.int i5), .val (.int i6), .val (.int i7), .val (.int (65536 : Int32)), .unset] [(.int (2 : Int32)), (.int i5)])) _
      refine XS.icmpNo X0.here hx rfl (hb hby d2_196) rfl (teq hc196).2 ?_
      show Steps p.tables e below (T0.setTop (mkF m 199 #[.val (.int i0), .val (.int i1), .val (.int i2), .val (.int i3), .val (.int i4), .val (.int i5), .val (.int i6), .val (.int i7), .val (.int (65536 : Int32)), .unset] [])) _
      refine XS.sipush X0.here hx rfl (hb hby d2_199) ?_
      show Steps p.tables e below (T0.setTop (mkF m 202 #[.val (.int i0), .val (.int i1), .val (.int i2), .val (.int i3), .val (.int i4), .val (.int i5), .val (.int i6), .val (.int i7), .val (.int (65536 : Int32)), .unset] [(.int (128 : Int32))])) _
      refine XS.istore X0.here hx rfl (hb hby d2_202) rfl (l' := #[.val (.int i0), .val (.int i1), .val (.int i2), .val (.int i3), .val (.int i4), .val (.int i5), .val (.int i6), .val (.int i7), .val (.int (128 : Int32)), .unset]) rfl ?_
      show Steps p.tables e below (T0.setTop (mkF m 204 #[.val (.int i0), .val (.int i1), .val (.int i2), .val (.int i3), .val (.int i4), .val (.int i5), .val (.int i6), .val (.int i7), .val (.int (128 : Int32)), .unset] [])) _
      refine XS.goto X0.here hx rfl (pc0 := 204) (pc' := 218) rfl (hb hby d2_204) (by decide) (by decide) ?_
      exact kt
    obtain ⟨T3, X3, e3, st3⟩ := own_b2_218 hx hZ hw hby hml hown hret i0 i1 i2 i3 i4 i5 i6 i7 (128 : Int32)  X0 e0 hcl hsl  
    have hv : (own_f2_189 i0 i1 i2 i3 i4 i5 i6 i7) = (own_f2_218 i0 i1 i2 i3 i4 i5 i6 i7 (128 : Int32)) := by unfold own_f2_189; rw [if_pos hc196]
    exact ⟨T3, X3, e3, fun fs hr => pre2 _ (st3 fs (by rw [hv] at hr; exact hr))⟩
  · have pre4 : ∀ target, Steps p.tables e below (T0.setTop (mkF m 210 #[.val (.int i0), .val (.int i1), .val (.int i2), .val (.int i3), .val (.int i4), .val (.int i5), .val (.int i6), .val (.int i7), .val (.int (65536 : Int32)), .unset] [(.int (3 : Int32)), (.int i5)])) target → Steps p.tables e below (T0.setTop (mkF m 189 #[.val (.int i0), .val (.int i1), .val (.int i2), .val (.int i3), .val (.int i4), .val (.int i5), .val (.int i6), .val (.int i7), .unset, .unset] [])) target := by
      intro target kt
      refine pre1 target ?_
      show Steps p.tables e below (T0.setTop (mkF m 196 #[.val (.int i0), .val (.int i1), .val (.int i2), .val (.int i3), .val (.int i4), .val (.int i5), .val (.int i6), .val (.int i7), .val (.int (65536 : Int32)), .unset] [(.int (2 : Int32)), (.int i5)])) _
      refine XS.icmpYes X0.here hx rfl (pc0 := 196) (pc' := 207) rfl (hb hby d2_196) rfl (feq hc196).2 (by decide) (by decide) ?_
      show Steps p.tables e below (T0.setTop (mkF m 207 #[.val (.int i0), .val (.int i1), .val (.int i2), .val (.int i3), .val (.int i4), .val (.int i5), .val (.int i6), .val (.int i7), .val (.int (65536 : Int32)), .unset] [])) _
      refine XS.iload X0.here hx rfl (hb hby d2_207) rfl ?_
      show Steps p.tables e below (T0.setTop (mkF m 209 #[.val (.int i0), .val (.int i1), .val (.int i2), .val (.int i3), .val (.int i4), .val (.int i5), .val (.int i6), .val (.int i7), .val (.int (65536 : Int32)), .unset] [(.int i5)])) _
      refine XS.iconst X0.here hx rfl (hb hby d2_209) ?_
      exact kt
    by_cases hc210 : i5 = (3 : Int32)
    · have pre5 : ∀ target, Steps p.tables e below (T0.setTop (mkF m 218 #[.val (.int i0), .val (.int i1), .val (.int i2), .val (.int i3), .val (.int i4), .val (.int i5), .val (.int i6), .val (.int i7), .val (.int (2048 : Int32)), .unset] [])) target → Steps p.tables e below (T0.setTop (mkF m 189 #[.val (.int i0), .val (.int i1), .val (.int i2), .val (.int i3), .val (.int i4), .val (.int i5), .val (.int i6), .val (.int i7), .unset, .unset] [])) target := by
        intro target kt
        refine pre4 target ?_
        show Steps p.tables e below (T0.setTop (mkF m 210 #[.val (.int i0), .val (.int i1), .val (.int i2), .val (.int i3), .val (.int i4), .val (.int i5), .val (.int i6), .val (.int i7), .val (.int (65536 : Int32)), .unset] [(.int (3 : Int32)), (.int i5)])) _
        refine XS.icmpNo X0.here hx rfl (hb hby d2_210) rfl (teq hc210).2 ?_
        show Steps p.tables e below (T0.setTop (mkF m 213 #[.val (.int i0), .val (.int i1), .val (.int i2), .val (.int i3), .val (.int i4), .val (.int i5), .val (.int i6), .val (.int i7), .val (.int (65536 : Int32)), .unset] [])) _
        refine XS.sipush X0.here hx rfl (hb hby d2_213) ?_
        show Steps p.tables e below (T0.setTop (mkF m 216 #[.val (.int i0), .val (.int i1), .val (.int i2), .val (.int i3), .val (.int i4), .val (.int i5), .val (.int i6), .val (.int i7), .val (.int (65536 : Int32)), .unset] [(.int (2048 : Int32))])) _
        refine XS.istore X0.here hx rfl (hb hby d2_216) rfl (l' := #[.val (.int i0), .val (.int i1), .val (.int i2), .val (.int i3), .val (.int i4), .val (.int i5), .val (.int i6), .val (.int i7), .val (.int (2048 : Int32)), .unset]) rfl ?_
        exact kt
      obtain ⟨T6, X6, e6, st6⟩ := own_b2_218 hx hZ hw hby hml hown hret i0 i1 i2 i3 i4 i5 i6 i7 (2048 : Int32)  X0 e0 hcl hsl  
      have hv : (own_f2_189 i0 i1 i2 i3 i4 i5 i6 i7) = (own_f2_218 i0 i1 i2 i3 i4 i5 i6 i7 (2048 : Int32)) := by unfold own_f2_189; rw [if_neg hc196, if_pos hc210]
      exact ⟨T6, X6, e6, fun fs hr => pre5 _ (st6 fs (by rw [hv] at hr; exact hr))⟩
    · have pre7 : ∀ target, Steps p.tables e below (T0.setTop (mkF m 218 #[.val (.int i0), .val (.int i1), .val (.int i2), .val (.int i3), .val (.int i4), .val (.int i5), .val (.int i6), .val (.int i7), .val (.int (65536 : Int32)), .unset] [])) target → Steps p.tables e below (T0.setTop (mkF m 189 #[.val (.int i0), .val (.int i1), .val (.int i2), .val (.int i3), .val (.int i4), .val (.int i5), .val (.int i6), .val (.int i7), .unset, .unset] [])) target := by
        intro target kt
        refine pre4 target ?_
        show Steps p.tables e below (T0.setTop (mkF m 210 #[.val (.int i0), .val (.int i1), .val (.int i2), .val (.int i3), .val (.int i4), .val (.int i5), .val (.int i6), .val (.int i7), .val (.int (65536 : Int32)), .unset] [(.int (3 : Int32)), (.int i5)])) _
        refine XS.icmpYes X0.here hx rfl (pc0 := 210) (pc' := 218) rfl (hb hby d2_210) rfl (feq hc210).2 (by decide) (by decide) ?_
        exact kt
      obtain ⟨T8, X8, e8, st8⟩ := own_b2_218 hx hZ hw hby hml hown hret i0 i1 i2 i3 i4 i5 i6 i7 (65536 : Int32)  X0 e0 hcl hsl  
      have hv : (own_f2_189 i0 i1 i2 i3 i4 i5 i6 i7) = (own_f2_218 i0 i1 i2 i3 i4 i5 i6 i7 (65536 : Int32)) := by unfold own_f2_189; rw [if_neg hc196, if_neg hc210]
      exact ⟨T8, X8, e8, fun fs hr => pre7 _ (st8 fs (by rw [hv] at hr; exact hr))⟩
set_option maxRecDepth 65536 in
set_option maxHeartbeats 40000000 in
theorem own_b2_175 {p : Program} {l : Launch} {e : Env} {s : State} {m : MethodId} {args : Array Value} {below : List Frame} {meth : Method} {c : Code} {Z : State} {a0_ : Array Value} (hx : p.tables.exec = Jvm.exec) (hZ : Z.Warmed39 s.vm) (hw : ∀ d ∈ tables_1, d.before a0_ Z = true) (hby : c.code = method_4_code) (hml : c.maxLocals = 10) (hown : s.vm.findClass "com/example/open_brace/openbrace/text/Utf8SequenceLengthPinLaw" = some m.cls) (hret : meth.sig.returnType = some .int) {T0 : State} {locs : List Loc} {cells slots : Nat} {h0 : Heap} (i0 : Int32) (i1 : Int32) (i2 : Int32) (i3 : Int32) (i4 : Int32) (i5 : Int32) (i6 : Int32) (i7 : Int32) (u0 : Int32)
    (X0 : Stand p l e ({ frames := 1, cells := 0, slots := 0, locals := 12 } : Room) s m args below meth c T0 locs cells slots) (e0 : T0.heap = h0) (hcl : cells ≤ ({ frames := 1, cells := 0, slots := 0, locals := 12 } : Room).cells) (hsl : slots ≤ ({ frames := 1, cells := 0, slots := 0, locals := 12 } : Room).slots)  :
    ∃ T', Stand p l e ({ frames := 1, cells := 0, slots := 0, locals := 12 } : Room) s m args below meth c T' locs cells slots ∧ T'.heap = h0 ∧ ∀ fs, (∀ (f : JFrame) (acts : List Action), f.method = m → f.locked = none → f.entered = [] → (doReturn e (T'.setTop f) acts (some (.int (own_f2_175 i0 i1 i2 i3 i4 i5 i6 i7 u0)))).1 = T'.setFrames fs) → Steps p.tables e below (T0.setTop (mkF m 175 #[.val (.int i0), .val (.int i1), .val (.int i2), .val (.int i3), .val (.int i4), .val (.int i5), .val (.int i6), .val (.int i7), .unset, .unset] [(.int u0)])) (T'.setFrames fs) := by
  have pre1 : ∀ target, Steps p.tables e below (T0.setTop (mkF m 189 #[.val (.int i0), .val (.int i1), .val (.int i2), .val (.int i3), .val (.int i4), .val (.int i5), .val (.int ((i6 <<< ((6 : Int32) &&& 31)) ||| (i3 &&& (63 : Int32)))), .val (.int u0), .unset, .unset] [])) target → Steps p.tables e below (T0.setTop (mkF m 175 #[.val (.int i0), .val (.int i1), .val (.int i2), .val (.int i3), .val (.int i4), .val (.int i5), .val (.int i6), .val (.int i7), .unset, .unset] [(.int u0)])) target := by
    intro target kt
    show Steps p.tables e below (T0.setTop (mkF m 175 #[.val (.int i0), .val (.int i1), .val (.int i2), .val (.int i3), .val (.int i4), .val (.int i5), .val (.int i6), .val (.int i7), .unset, .unset] [(.int u0)])) _
    refine XS.istore X0.here hx rfl (hb hby d2_175) rfl (l' := #[.val (.int i0), .val (.int i1), .val (.int i2), .val (.int i3), .val (.int i4), .val (.int i5), .val (.int i6), .val (.int u0), .unset, .unset]) rfl ?_
    show Steps p.tables e below (T0.setTop (mkF m 177 #[.val (.int i0), .val (.int i1), .val (.int i2), .val (.int i3), .val (.int i4), .val (.int i5), .val (.int i6), .val (.int u0), .unset, .unset] [])) _
    refine XS.iload X0.here hx rfl (hb hby d2_177) rfl ?_
    show Steps p.tables e below (T0.setTop (mkF m 179 #[.val (.int i0), .val (.int i1), .val (.int i2), .val (.int i3), .val (.int i4), .val (.int i5), .val (.int i6), .val (.int u0), .unset, .unset] [(.int i6)])) _
    refine XS.bipush X0.here hx rfl (hb hby d2_179) ?_
    show Steps p.tables e below (T0.setTop (mkF m 181 #[.val (.int i0), .val (.int i1), .val (.int i2), .val (.int i3), .val (.int i4), .val (.int i5), .val (.int i6), .val (.int u0), .unset, .unset] [(.int (6 : Int32)), (.int i6)])) _
    refine XS.ishl X0.here hx rfl (hb hby d2_181) rfl ?_
    show Steps p.tables e below (T0.setTop (mkF m 182 #[.val (.int i0), .val (.int i1), .val (.int i2), .val (.int i3), .val (.int i4), .val (.int i5), .val (.int i6), .val (.int u0), .unset, .unset] [(.int (i6 <<< ((6 : Int32) &&& 31)))])) _
    refine XS.iloadN X0.here hx rfl (hb hby d2_182) rfl ?_
    show Steps p.tables e below (T0.setTop (mkF m 183 #[.val (.int i0), .val (.int i1), .val (.int i2), .val (.int i3), .val (.int i4), .val (.int i5), .val (.int i6), .val (.int u0), .unset, .unset] [(.int i3), (.int (i6 <<< ((6 : Int32) &&& 31)))])) _
    refine XS.bipush X0.here hx rfl (hb hby d2_183) ?_
    show Steps p.tables e below (T0.setTop (mkF m 185 #[.val (.int i0), .val (.int i1), .val (.int i2), .val (.int i3), .val (.int i4), .val (.int i5), .val (.int i6), .val (.int u0), .unset, .unset] [(.int (63 : Int32)), (.int i3), (.int (i6 <<< ((6 : Int32) &&& 31)))])) _
    refine XS.iand X0.here hx rfl (hb hby d2_185) rfl ?_
    show Steps p.tables e below (T0.setTop (mkF m 186 #[.val (.int i0), .val (.int i1), .val (.int i2), .val (.int i3), .val (.int i4), .val (.int i5), .val (.int i6), .val (.int u0), .unset, .unset] [(.int (i3 &&& (63 : Int32))), (.int (i6 <<< ((6 : Int32) &&& 31)))])) _
    refine XS.ior X0.here hx rfl (hb hby d2_186) rfl ?_
    show Steps p.tables e below (T0.setTop (mkF m 187 #[.val (.int i0), .val (.int i1), .val (.int i2), .val (.int i3), .val (.int i4), .val (.int i5), .val (.int i6), .val (.int u0), .unset, .unset] [(.int ((i6 <<< ((6 : Int32) &&& 31)) ||| (i3 &&& (63 : Int32))))])) _
    refine XS.istore X0.here hx rfl (hb hby d2_187) rfl (l' := #[.val (.int i0), .val (.int i1), .val (.int i2), .val (.int i3), .val (.int i4), .val (.int i5), .val (.int ((i6 <<< ((6 : Int32) &&& 31)) ||| (i3 &&& (63 : Int32)))), .val (.int u0), .unset, .unset]) rfl ?_
    exact kt
  obtain ⟨T2, X2, e2, st2⟩ := own_b2_189 hx hZ hw hby hml hown hret i0 i1 i2 i3 i4 i5 ((i6 <<< ((6 : Int32) &&& 31)) ||| (i3 &&& (63 : Int32))) u0  X0 e0 hcl hsl  
  have hv : (own_f2_175 i0 i1 i2 i3 i4 i5 i6 i7 u0) = (own_f2_189 i0 i1 i2 i3 i4 i5 ((i6 <<< ((6 : Int32) &&& 31)) ||| (i3 &&& (63 : Int32))) u0) := by unfold own_f2_175; rfl
  exact ⟨T2, X2, e2, fun fs hr => pre1 _ (st2 fs (by rw [hv] at hr; exact hr))⟩
set_option maxRecDepth 65536 in
set_option maxHeartbeats 40000000 in
theorem own_b2_174 {p : Program} {l : Launch} {e : Env} {s : State} {m : MethodId} {args : Array Value} {below : List Frame} {meth : Method} {c : Code} {Z : State} {a0_ : Array Value} (hx : p.tables.exec = Jvm.exec) (hZ : Z.Warmed39 s.vm) (hw : ∀ d ∈ tables_1, d.before a0_ Z = true) (hby : c.code = method_4_code) (hml : c.maxLocals = 10) (hown : s.vm.findClass "com/example/open_brace/openbrace/text/Utf8SequenceLengthPinLaw" = some m.cls) (hret : meth.sig.returnType = some .int) {T0 : State} {locs : List Loc} {cells slots : Nat} {h0 : Heap} (i0 : Int32) (i1 : Int32) (i2 : Int32) (i3 : Int32) (i4 : Int32) (i5 : Int32) (i6 : Int32) (i7 : Int32)
    (X0 : Stand p l e ({ frames := 1, cells := 0, slots := 0, locals := 12 } : Room) s m args below meth c T0 locs cells slots) (e0 : T0.heap = h0) (hcl : cells ≤ ({ frames := 1, cells := 0, slots := 0, locals := 12 } : Room).cells) (hsl : slots ≤ ({ frames := 1, cells := 0, slots := 0, locals := 12 } : Room).slots)  :
    ∃ T', Stand p l e ({ frames := 1, cells := 0, slots := 0, locals := 12 } : Room) s m args below meth c T' locs cells slots ∧ T'.heap = h0 ∧ ∀ fs, (∀ (f : JFrame) (acts : List Action), f.method = m → f.locked = none → f.entered = [] → (doReturn e (T'.setTop f) acts (some (.int (own_f2_174 i0 i1 i2 i3 i4 i5 i6 i7)))).1 = T'.setFrames fs) → Steps p.tables e below (T0.setTop (mkF m 174 #[.val (.int i0), .val (.int i1), .val (.int i2), .val (.int i3), .val (.int i4), .val (.int i5), .val (.int i6), .val (.int i7), .unset, .unset] [])) (T'.setFrames fs) := by
  have pre1 : ∀ target, Steps p.tables e below (T0.setTop (mkF m 175 #[.val (.int i0), .val (.int i1), .val (.int i2), .val (.int i3), .val (.int i4), .val (.int i5), .val (.int i6), .val (.int i7), .unset, .unset] [(.int (0 : Int32))])) target → Steps p.tables e below (T0.setTop (mkF m 174 #[.val (.int i0), .val (.int i1), .val (.int i2), .val (.int i3), .val (.int i4), .val (.int i5), .val (.int i6), .val (.int i7), .unset, .unset] [])) target := by
    intro target kt
    show Steps p.tables e below (T0.setTop (mkF m 174 #[.val (.int i0), .val (.int i1), .val (.int i2), .val (.int i3), .val (.int i4), .val (.int i5), .val (.int i6), .val (.int i7), .unset, .unset] [])) _
    refine XS.iconst X0.here hx rfl (hb hby d2_174) ?_
    exact kt
  obtain ⟨T2, X2, e2, st2⟩ := own_b2_175 hx hZ hw hby hml hown hret i0 i1 i2 i3 i4 i5 i6 i7 (0 : Int32)  X0 e0 hcl hsl  
  have hv : (own_f2_174 i0 i1 i2 i3 i4 i5 i6 i7) = (own_f2_175 i0 i1 i2 i3 i4 i5 i6 i7 (0 : Int32)) := by unfold own_f2_174; rfl
  exact ⟨T2, X2, e2, fun fs hr => pre1 _ (st2 fs (by rw [hv] at hr; exact hr))⟩
set_option maxRecDepth 65536 in
set_option maxHeartbeats 40000000 in
theorem own_b2_152 {p : Program} {l : Launch} {e : Env} {s : State} {m : MethodId} {args : Array Value} {below : List Frame} {meth : Method} {c : Code} {Z : State} {a0_ : Array Value} (hx : p.tables.exec = Jvm.exec) (hZ : Z.Warmed39 s.vm) (hw : ∀ d ∈ tables_1, d.before a0_ Z = true) (hby : c.code = method_4_code) (hml : c.maxLocals = 10) (hown : s.vm.findClass "com/example/open_brace/openbrace/text/Utf8SequenceLengthPinLaw" = some m.cls) (hret : meth.sig.returnType = some .int) {T0 : State} {locs : List Loc} {cells slots : Nat} {h0 : Heap} (i0 : Int32) (i1 : Int32) (i2 : Int32) (i3 : Int32) (i4 : Int32) (i5 : Int32) (i6 : Int32) (i7 : Int32)
    (X0 : Stand p l e ({ frames := 1, cells := 0, slots := 0, locals := 12 } : Room) s m args below meth c T0 locs cells slots) (e0 : T0.heap = h0) (hcl : cells ≤ ({ frames := 1, cells := 0, slots := 0, locals := 12 } : Room).cells) (hsl : slots ≤ ({ frames := 1, cells := 0, slots := 0, locals := 12 } : Room).slots)  :
    ∃ T', Stand p l e ({ frames := 1, cells := 0, slots := 0, locals := 12 } : Room) s m args below meth c T' locs cells slots ∧ T'.heap = h0 ∧ ∀ fs, (∀ (f : JFrame) (acts : List Action), f.method = m → f.locked = none → f.entered = [] → (doReturn e (T'.setTop f) acts (some (.int (own_f2_152 i0 i1 i2 i3 i4 i5 i6 i7)))).1 = T'.setFrames fs) → Steps p.tables e below (T0.setTop (mkF m 152 #[.val (.int i0), .val (.int i1), .val (.int i2), .val (.int i3), .val (.int i4), .val (.int i5), .val (.int i6), .val (.int i7), .unset, .unset] [])) (T'.setFrames fs) := by
  have pre1 : ∀ target, Steps p.tables e below (T0.setTop (mkF m 155 #[.val (.int i0), .val (.int i1), .val (.int i2), .val (.int i3), .val (.int i4), .val (.int i5), .val (.int i6), .val (.int i7), .unset, .unset] [(.int (4 : Int32)), (.int i5)])) target → Steps p.tables e below (T0.setTop (mkF m 152 #[.val (.int i0), .val (.int i1), .val (.int i2), .val (.int i3), .val (.int i4), .val (.int i5), .val (.int i6), .val (.int i7), .unset, .unset] [])) target := by
    intro target kt
    show Steps p.tables e below (T0.setTop (mkF m 152 #[.val (.int i0), .val (.int i1), .val (.int i2), .val (.int i3), .val (.int i4), .val (.int i5), .val (.int i6), .val (.int i7), .unset, .unset] [])) _
    refine XS.iload X0.here hx rfl (hb hby d2_152) rfl ?_
    show Steps p.tables e below (T0.setTop (mkF m 154 #[.val (.int i0), .val (.int i1), .val (.int i2), .val (.int i3), .val (.int i4), .val (.int i5), .val (.int i6), .val (.int i7), .unset, .unset] [(.int i5)])) _
    refine XS.iconst X0.here hx rfl (hb hby d2_154) ?_
    exact kt
  by_cases hc155 : i5 = (4 : Int32)
  · have pre2 : ∀ target, Steps p.tables e below (T0.setTop (mkF m 160 #[.val (.int i0), .val (.int i1), .val (.int i2), .val (.int i3), .val (.int i4), .val (.int i5), .val (.int i6), .val (.int i7), .unset, .unset] [(.int i7)])) target → Steps p.tables e below (T0.setTop (mkF m 152 #[.val (.int i0), .val (.int i1), .val (.int i2), .val (.int i3), .val (.int i4), .val (.int i5), .val (.int i6), .val (.int i7), .unset, .unset] [])) target := by
      intro target kt
      refine pre1 target ?_
      show Steps p.tables e below (T0.setTop (mkF m 155 #[.val (.int i0), .val (.int i1), .val (.int i2), .val (.int i3), .val (.int i4), .val (.int i5), .val (.int i6), .val (.int i7), .unset, .unset] [(.int (4 : Int32)), (.int i5)])) _
      refine XS.icmpNo X0.here hx rfl (hb hby d2_155) rfl (teq hc155).2 ?_
      show Steps p.tables e below (T0.setTop (mkF m 158 #[.val (.int i0), .val (.int i1), .val (.int i2), .val (.int i3), .val (.int i4), .val (.int i5), .val (.int i6), .val (.int i7), .unset, .unset] [])) _
      refine XS.iload X0.here hx rfl (hb hby d2_158) rfl ?_
      exact kt
    by_cases hc160 : i7 = (0 : Int32)
    · have pre3 : ∀ target, Steps p.tables e below (T0.setTop (mkF m 174 #[.val (.int i0), .val (.int i1), .val (.int i2), .val (.int i3), .val (.int i4), .val (.int i5), .val (.int i6), .val (.int i7), .unset, .unset] [])) target → Steps p.tables e below (T0.setTop (mkF m 152 #[.val (.int i0), .val (.int i1), .val (.int i2), .val (.int i3), .val (.int i4), .val (.int i5), .val (.int i6), .val (.int i7), .unset, .unset] [])) target := by
        intro target kt
        refine pre2 target ?_
        show Steps p.tables e below (T0.setTop (mkF m 160 #[.val (.int i0), .val (.int i1), .val (.int i2), .val (.int i3), .val (.int i4), .val (.int i5), .val (.int i6), .val (.int i7), .unset, .unset] [(.int i7)])) _
        refine XS.ifYes X0.here hx rfl (pc0 := 160) (pc' := 174) rfl (hb hby d2_160) rfl ((if0 _ _).trans (teq hc160).1) (by decide) (by decide) ?_
        exact kt
      obtain ⟨T4, X4, e4, st4⟩ := own_b2_174 hx hZ hw hby hml hown hret i0 i1 i2 i3 i4 i5 i6 i7  X0 e0 hcl hsl  
      have hv : (own_f2_152 i0 i1 i2 i3 i4 i5 i6 i7) = (own_f2_174 i0 i1 i2 i3 i4 i5 i6 i7) := by unfold own_f2_152; rw [if_pos hc155, if_pos hc160]
      exact ⟨T4, X4, e4, fun fs hr => pre3 _ (st4 fs (by rw [hv] at hr; exact hr))⟩
    · obtain ⟨_, _, ⟨T5, L5, k5, n5⟩, -, X5, ⟨Lc5, hQ5, l5, y5, z5⟩, st5⟩ := Jvm.LawKit.callS X0 hx (y := (⟨"com/example/open_brace/openbrace/text/Utf8SequenceLengthPinLaw", "isCont", "(I)Z"⟩ : MethodName)) hown (mvT hZ (hw _ (List.mem_of_getElem? (i := 10) rfl))) (mvT hZ (hw _ (List.mem_of_getElem? (i := 11) rfl))) (mvT hZ (hw _ (List.mem_of_getElem? (i := 8) rfl))) (mvT hZ (hw _ (List.mem_of_getElem? (i := 12) rfl))) (by decide) (backOf (W := 0) (rm3 l Z a0_ hw [] i3  h0 0 (Nat.zero_le _) ) hZ (hw _ (List.mem_of_getElem? (i := 12) rfl)) (hw _ (List.mem_of_getElem? (i := 8) rfl)) (by decide) (by decide)) (g := (mkF m 164 #[.val (.int i0), .val (.int i1), .val (.int i2), .val (.int i3), .val (.int i4), .val (.int i5), .val (.int i6), .val (.int i7), .unset, .unset] [(.int i3)])) rfl (by rw [hml]; rfl) (argsL := [(.int i3)]) (rest := []) (lenOf pd_2_0 rfl) rfl (by show 2 * 0 + _ ≤ _; exact Nat.le_of_eq rfl) (hb hby d2_164) (fun _ _ => ⟨rfl, e0, hcl, hsl⟩)
      dsimp only [Pt.U, Pt.locs, Pt.cells, Pt.slots] at X5 l5 y5 z5 st5 hQ5
      subst l5 y5 z5
      obtain ⟨rfl, rfl, e5⟩ := hQ5
      rw [List.append_nil] at X5
      have pre6 : ∀ target, Steps p.tables e below (T5.setTop (mkF m 167 #[.val (.int i0), .val (.int i1), .val (.int i2), .val (.int i3), .val (.int i4), .val (.int i5), .val (.int i6), .val (.int i7), .unset, .unset] [(.int (own_f3_0 i3))])) target → Steps p.tables e below (T0.setTop (mkF m 152 #[.val (.int i0), .val (.int i1), .val (.int i2), .val (.int i3), .val (.int i4), .val (.int i5), .val (.int i6), .val (.int i7), .unset, .unset] [])) target := by
        intro target kt
        refine pre2 target ?_
        show Steps p.tables e below (T0.setTop (mkF m 160 #[.val (.int i0), .val (.int i1), .val (.int i2), .val (.int i3), .val (.int i4), .val (.int i5), .val (.int i6), .val (.int i7), .unset, .unset] [(.int i7)])) _
        refine XS.ifNo X0.here hx rfl (hb hby d2_160) rfl ((if0 _ _).trans (feq hc160).1) ?_
        show Steps p.tables e below (T0.setTop (mkF m 163 #[.val (.int i0), .val (.int i1), .val (.int i2), .val (.int i3), .val (.int i4), .val (.int i5), .val (.int i6), .val (.int i7), .unset, .unset] [])) _
        refine XS.iloadN X0.here hx rfl (hb hby d2_163) rfl ?_
        show Steps p.tables e below (T0.setTop (mkF m 164 #[.val (.int i0), .val (.int i1), .val (.int i2), .val (.int i3), .val (.int i4), .val (.int i5), .val (.int i6), .val (.int i7), .unset, .unset] [(.int i3)])) _
        refine st5 _ ?_
        exact kt
      by_cases hc167 : (own_f3_0 i3) = (0 : Int32)
      · have pre7 : ∀ target, Steps p.tables e below (T5.setTop (mkF m 174 #[.val (.int i0), .val (.int i1), .val (.int i2), .val (.int i3), .val (.int i4), .val (.int i5), .val (.int i6), .val (.int i7), .unset, .unset] [])) target → Steps p.tables e below (T0.setTop (mkF m 152 #[.val (.int i0), .val (.int i1), .val (.int i2), .val (.int i3), .val (.int i4), .val (.int i5), .val (.int i6), .val (.int i7), .unset, .unset] [])) target := by
          intro target kt
          refine pre6 target ?_
          show Steps p.tables e below (T5.setTop (mkF m 167 #[.val (.int i0), .val (.int i1), .val (.int i2), .val (.int i3), .val (.int i4), .val (.int i5), .val (.int i6), .val (.int i7), .unset, .unset] [(.int (own_f3_0 i3))])) _
          refine XS.ifYes X5.here hx rfl (pc0 := 167) (pc' := 174) rfl (hb hby d2_167) rfl ((if0 _ _).trans (teq hc167).1) (by decide) (by decide) ?_
          exact kt
        obtain ⟨T8, X8, e8, st8⟩ := own_b2_174 hx hZ hw hby hml hown hret i0 i1 i2 i3 i4 i5 i6 i7  X5 e5 hcl hsl  
        have hv : (own_f2_152 i0 i1 i2 i3 i4 i5 i6 i7) = (own_f2_174 i0 i1 i2 i3 i4 i5 i6 i7) := by unfold own_f2_152; rw [if_pos hc155, if_neg hc160, if_pos hc167]
        exact ⟨T8, X8, e8, fun fs hr => pre7 _ (st8 fs (by rw [hv] at hr; exact hr))⟩
      · have pre9 : ∀ target, Steps p.tables e below (T5.setTop (mkF m 175 #[.val (.int i0), .val (.int i1), .val (.int i2), .val (.int i3), .val (.int i4), .val (.int i5), .val (.int i6), .val (.int i7), .unset, .unset] [(.int (1 : Int32))])) target → Steps p.tables e below (T0.setTop (mkF m 152 #[.val (.int i0), .val (.int i1), .val (.int i2), .val (.int i3), .val (.int i4), .val (.int i5), .val (.int i6), .val (.int i7), .unset, .unset] [])) target := by
          intro target kt
          refine pre6 target ?_
          show Steps p.tables e below (T5.setTop (mkF m 167 #[.val (.int i0), .val (.int i1), .val (.int i2), .val (.int i3), .val (.int i4), .val (.int i5), .val (.int i6), .val (.int i7), .unset, .unset] [(.int (own_f3_0 i3))])) _
          refine XS.ifNo X5.here hx rfl (hb hby d2_167) rfl ((if0 _ _).trans (feq hc167).1) ?_
          show Steps p.tables e below (T5.setTop (mkF m 170 #[.val (.int i0), .val (.int i1), .val (.int i2), .val (.int i3), .val (.int i4), .val (.int i5), .val (.int i6), .val (.int i7), .unset, .unset] [])) _
          refine XS.iconst X5.here hx rfl (hb hby d2_170) ?_
          show Steps p.tables e below (T5.setTop (mkF m 171 #[.val (.int i0), .val (.int i1), .val (.int i2), .val (.int i3), .val (.int i4), .val (.int i5), .val (.int i6), .val (.int i7), .unset, .unset] [(.int (1 : Int32))])) _
          refine XS.goto X5.here hx rfl (pc0 := 171) (pc' := 175) rfl (hb hby d2_171) (by decide) (by decide) ?_
          exact kt
        obtain ⟨T10, X10, e10, st10⟩ := own_b2_175 hx hZ hw hby hml hown hret i0 i1 i2 i3 i4 i5 i6 i7 (1 : Int32)  X5 e5 hcl hsl  
        have hv : (own_f2_152 i0 i1 i2 i3 i4 i5 i6 i7) = (own_f2_175 i0 i1 i2 i3 i4 i5 i6 i7 (1 : Int32)) := by unfold own_f2_152; rw [if_pos hc155, if_neg hc160, if_neg hc167]
        exact ⟨T10, X10, e10, fun fs hr => pre9 _ (st10 fs (by rw [hv] at hr; exact hr))⟩
  · have pre11 : ∀ target, Steps p.tables e below (T0.setTop (mkF m 189 #[.val (.int i0), .val (.int i1), .val (.int i2), .val (.int i3), .val (.int i4), .val (.int i5), .val (.int i6), .val (.int i7), .unset, .unset] [])) target → Steps p.tables e below (T0.setTop (mkF m 152 #[.val (.int i0), .val (.int i1), .val (.int i2), .val (.int i3), .val (.int i4), .val (.int i5), .val (.int i6), .val (.int i7), .unset, .unset] [])) target := by
      intro target kt
      refine pre1 target ?_
      show Steps p.tables e below (T0.setTop (mkF m 155 #[.val (.int i0), .val (.int i1), .val (.int i2), .val (.int i3), .val (.int i4), .val (.int i5), .val (.int i6), .val (.int i7), .unset, .unset] [(.int (4 : Int32)), (.int i5)])) _
      refine XS.icmpYes X0.here hx rfl (pc0 := 155) (pc' := 189) rfl (hb hby d2_155) rfl (feq hc155).2 (by decide) (by decide) ?_
      exact kt
    obtain ⟨T12, X12, e12, st12⟩ := own_b2_189 hx hZ hw hby hml hown hret i0 i1 i2 i3 i4 i5 i6 i7  X0 e0 hcl hsl  
    have hv : (own_f2_152 i0 i1 i2 i3 i4 i5 i6 i7) = (own_f2_189 i0 i1 i2 i3 i4 i5 i6 i7) := by unfold own_f2_152; rw [if_neg hc155]
    exact ⟨T12, X12, e12, fun fs hr => pre11 _ (st12 fs (by rw [hv] at hr; exact hr))⟩
set_option maxRecDepth 65536 in
set_option maxHeartbeats 40000000 in
theorem own_b2_138 {p : Program} {l : Launch} {e : Env} {s : State} {m : MethodId} {args : Array Value} {below : List Frame} {meth : Method} {c : Code} {Z : State} {a0_ : Array Value} (hx : p.tables.exec = Jvm.exec) (hZ : Z.Warmed39 s.vm) (hw : ∀ d ∈ tables_1, d.before a0_ Z = true) (hby : c.code = method_4_code) (hml : c.maxLocals = 10) (hown : s.vm.findClass "com/example/open_brace/openbrace/text/Utf8SequenceLengthPinLaw" = some m.cls) (hret : meth.sig.returnType = some .int) {T0 : State} {locs : List Loc} {cells slots : Nat} {h0 : Heap} (i0 : Int32) (i1 : Int32) (i2 : Int32) (i3 : Int32) (i4 : Int32) (i5 : Int32) (i6 : Int32) (i7 : Int32) (u0 : Int32)
    (X0 : Stand p l e ({ frames := 1, cells := 0, slots := 0, locals := 12 } : Room) s m args below meth c T0 locs cells slots) (e0 : T0.heap = h0) (hcl : cells ≤ ({ frames := 1, cells := 0, slots := 0, locals := 12 } : Room).cells) (hsl : slots ≤ ({ frames := 1, cells := 0, slots := 0, locals := 12 } : Room).slots)  :
    ∃ T', Stand p l e ({ frames := 1, cells := 0, slots := 0, locals := 12 } : Room) s m args below meth c T' locs cells slots ∧ T'.heap = h0 ∧ ∀ fs, (∀ (f : JFrame) (acts : List Action), f.method = m → f.locked = none → f.entered = [] → (doReturn e (T'.setTop f) acts (some (.int (own_f2_138 i0 i1 i2 i3 i4 i5 i6 i7 u0)))).1 = T'.setFrames fs) → Steps p.tables e below (T0.setTop (mkF m 138 #[.val (.int i0), .val (.int i1), .val (.int i2), .val (.int i3), .val (.int i4), .val (.int i5), .val (.int i6), .val (.int i7), .unset, .unset] [(.int u0)])) (T'.setFrames fs) := by
  have pre1 : ∀ target, Steps p.tables e below (T0.setTop (mkF m 152 #[.val (.int i0), .val (.int i1), .val (.int i2), .val (.int i3), .val (.int i4), .val (.int i5), .val (.int ((i6 <<< ((6 : Int32) &&& 31)) ||| (i2 &&& (63 : Int32)))), .val (.int u0), .unset, .unset] [])) target → Steps p.tables e below (T0.setTop (mkF m 138 #[.val (.int i0), .val (.int i1), .val (.int i2), .val (.int i3), .val (.int i4), .val (.int i5), .val (.int i6), .val (.int i7), .unset, .unset] [(.int u0)])) target := by
    intro target kt
    show Steps p.tables e below (T0.setTop (mkF m 138 #[.val (.int i0), .val (.int i1), .val (.int i2), .val (.int i3), .val (.int i4), .val (.int i5), .val (.int i6), .val (.int i7), .unset, .unset] [(.int u0)])) _
    refine XS.istore X0.here hx rfl (hb hby d2_138) rfl (l' := #[.val (.int i0), .val (.int i1), .val (.int i2), .val (.int i3), .val (.int i4), .val (.int i5), .val (.int i6), .val (.int u0), .unset, .unset]) rfl ?_
    show Steps p.tables e below (T0.setTop (mkF m 140 #[.val (.int i0), .val (.int i1), .val (.int i2), .val (.int i3), .val (.int i4), .val (.int i5), .val (.int i6), .val (.int u0), .unset, .unset] [])) _
    refine XS.iload X0.here hx rfl (hb hby d2_140) rfl ?_
    show Steps p.tables e below (T0.setTop (mkF m 142 #[.val (.int i0), .val (.int i1), .val (.int i2), .val (.int i3), .val (.int i4), .val (.int i5), .val (.int i6), .val (.int u0), .unset, .unset] [(.int i6)])) _
    refine XS.bipush X0.here hx rfl (hb hby d2_142) ?_
    show Steps p.tables e below (T0.setTop (mkF m 144 #[.val (.int i0), .val (.int i1), .val (.int i2), .val (.int i3), .val (.int i4), .val (.int i5), .val (.int i6), .val (.int u0), .unset, .unset] [(.int (6 : Int32)), (.int i6)])) _
    refine XS.ishl X0.here hx rfl (hb hby d2_144) rfl ?_
    show Steps p.tables e below (T0.setTop (mkF m 145 #[.val (.int i0), .val (.int i1), .val (.int i2), .val (.int i3), .val (.int i4), .val (.int i5), .val (.int i6), .val (.int u0), .unset, .unset] [(.int (i6 <<< ((6 : Int32) &&& 31)))])) _
    refine XS.iloadN X0.here hx rfl (hb hby d2_145) rfl ?_
    show Steps p.tables e below (T0.setTop (mkF m 146 #[.val (.int i0), .val (.int i1), .val (.int i2), .val (.int i3), .val (.int i4), .val (.int i5), .val (.int i6), .val (.int u0), .unset, .unset] [(.int i2), (.int (i6 <<< ((6 : Int32) &&& 31)))])) _
    refine XS.bipush X0.here hx rfl (hb hby d2_146) ?_
    show Steps p.tables e below (T0.setTop (mkF m 148 #[.val (.int i0), .val (.int i1), .val (.int i2), .val (.int i3), .val (.int i4), .val (.int i5), .val (.int i6), .val (.int u0), .unset, .unset] [(.int (63 : Int32)), (.int i2), (.int (i6 <<< ((6 : Int32) &&& 31)))])) _
    refine XS.iand X0.here hx rfl (hb hby d2_148) rfl ?_
    show Steps p.tables e below (T0.setTop (mkF m 149 #[.val (.int i0), .val (.int i1), .val (.int i2), .val (.int i3), .val (.int i4), .val (.int i5), .val (.int i6), .val (.int u0), .unset, .unset] [(.int (i2 &&& (63 : Int32))), (.int (i6 <<< ((6 : Int32) &&& 31)))])) _
    refine XS.ior X0.here hx rfl (hb hby d2_149) rfl ?_
    show Steps p.tables e below (T0.setTop (mkF m 150 #[.val (.int i0), .val (.int i1), .val (.int i2), .val (.int i3), .val (.int i4), .val (.int i5), .val (.int i6), .val (.int u0), .unset, .unset] [(.int ((i6 <<< ((6 : Int32) &&& 31)) ||| (i2 &&& (63 : Int32))))])) _
    refine XS.istore X0.here hx rfl (hb hby d2_150) rfl (l' := #[.val (.int i0), .val (.int i1), .val (.int i2), .val (.int i3), .val (.int i4), .val (.int i5), .val (.int ((i6 <<< ((6 : Int32) &&& 31)) ||| (i2 &&& (63 : Int32)))), .val (.int u0), .unset, .unset]) rfl ?_
    exact kt
  obtain ⟨T2, X2, e2, st2⟩ := own_b2_152 hx hZ hw hby hml hown hret i0 i1 i2 i3 i4 i5 ((i6 <<< ((6 : Int32) &&& 31)) ||| (i2 &&& (63 : Int32))) u0  X0 e0 hcl hsl  
  have hv : (own_f2_138 i0 i1 i2 i3 i4 i5 i6 i7 u0) = (own_f2_152 i0 i1 i2 i3 i4 i5 ((i6 <<< ((6 : Int32) &&& 31)) ||| (i2 &&& (63 : Int32))) u0) := by unfold own_f2_138; rfl
  exact ⟨T2, X2, e2, fun fs hr => pre1 _ (st2 fs (by rw [hv] at hr; exact hr))⟩
set_option maxRecDepth 65536 in
set_option maxHeartbeats 40000000 in
theorem own_b2_137 {p : Program} {l : Launch} {e : Env} {s : State} {m : MethodId} {args : Array Value} {below : List Frame} {meth : Method} {c : Code} {Z : State} {a0_ : Array Value} (hx : p.tables.exec = Jvm.exec) (hZ : Z.Warmed39 s.vm) (hw : ∀ d ∈ tables_1, d.before a0_ Z = true) (hby : c.code = method_4_code) (hml : c.maxLocals = 10) (hown : s.vm.findClass "com/example/open_brace/openbrace/text/Utf8SequenceLengthPinLaw" = some m.cls) (hret : meth.sig.returnType = some .int) {T0 : State} {locs : List Loc} {cells slots : Nat} {h0 : Heap} (i0 : Int32) (i1 : Int32) (i2 : Int32) (i3 : Int32) (i4 : Int32) (i5 : Int32) (i6 : Int32) (i7 : Int32)
    (X0 : Stand p l e ({ frames := 1, cells := 0, slots := 0, locals := 12 } : Room) s m args below meth c T0 locs cells slots) (e0 : T0.heap = h0) (hcl : cells ≤ ({ frames := 1, cells := 0, slots := 0, locals := 12 } : Room).cells) (hsl : slots ≤ ({ frames := 1, cells := 0, slots := 0, locals := 12 } : Room).slots)  :
    ∃ T', Stand p l e ({ frames := 1, cells := 0, slots := 0, locals := 12 } : Room) s m args below meth c T' locs cells slots ∧ T'.heap = h0 ∧ ∀ fs, (∀ (f : JFrame) (acts : List Action), f.method = m → f.locked = none → f.entered = [] → (doReturn e (T'.setTop f) acts (some (.int (own_f2_137 i0 i1 i2 i3 i4 i5 i6 i7)))).1 = T'.setFrames fs) → Steps p.tables e below (T0.setTop (mkF m 137 #[.val (.int i0), .val (.int i1), .val (.int i2), .val (.int i3), .val (.int i4), .val (.int i5), .val (.int i6), .val (.int i7), .unset, .unset] [])) (T'.setFrames fs) := by
  have pre1 : ∀ target, Steps p.tables e below (T0.setTop (mkF m 138 #[.val (.int i0), .val (.int i1), .val (.int i2), .val (.int i3), .val (.int i4), .val (.int i5), .val (.int i6), .val (.int i7), .unset, .unset] [(.int (0 : Int32))])) target → Steps p.tables e below (T0.setTop (mkF m 137 #[.val (.int i0), .val (.int i1), .val (.int i2), .val (.int i3), .val (.int i4), .val (.int i5), .val (.int i6), .val (.int i7), .unset, .unset] [])) target := by
    intro target kt
    show Steps p.tables e below (T0.setTop (mkF m 137 #[.val (.int i0), .val (.int i1), .val (.int i2), .val (.int i3), .val (.int i4), .val (.int i5), .val (.int i6), .val (.int i7), .unset, .unset] [])) _
    refine XS.iconst X0.here hx rfl (hb hby d2_137) ?_
    exact kt
  obtain ⟨T2, X2, e2, st2⟩ := own_b2_138 hx hZ hw hby hml hown hret i0 i1 i2 i3 i4 i5 i6 i7 (0 : Int32)  X0 e0 hcl hsl  
  have hv : (own_f2_137 i0 i1 i2 i3 i4 i5 i6 i7) = (own_f2_138 i0 i1 i2 i3 i4 i5 i6 i7 (0 : Int32)) := by unfold own_f2_137; rfl
  exact ⟨T2, X2, e2, fun fs hr => pre1 _ (st2 fs (by rw [hv] at hr; exact hr))⟩
set_option maxRecDepth 65536 in
set_option maxHeartbeats 40000000 in
theorem own_b2_81 {p : Program} {l : Launch} {e : Env} {s : State} {m : MethodId} {args : Array Value} {below : List Frame} {meth : Method} {c : Code} {Z : State} {a0_ : Array Value} (hx : p.tables.exec = Jvm.exec) (hZ : Z.Warmed39 s.vm) (hw : ∀ d ∈ tables_1, d.before a0_ Z = true) (hby : c.code = method_4_code) (hml : c.maxLocals = 10) (hown : s.vm.findClass "com/example/open_brace/openbrace/text/Utf8SequenceLengthPinLaw" = some m.cls) (hret : meth.sig.returnType = some .int) {T0 : State} {locs : List Loc} {cells slots : Nat} {h0 : Heap} (i0 : Int32) (i1 : Int32) (i2 : Int32) (i3 : Int32) (i4 : Int32) (i5 : Int32) (i6 : Int32)
    (X0 : Stand p l e ({ frames := 1, cells := 0, slots := 0, locals := 12 } : Room) s m args below meth c T0 locs cells slots) (e0 : T0.heap = h0) (hcl : cells ≤ ({ frames := 1, cells := 0, slots := 0, locals := 12 } : Room).cells) (hsl : slots ≤ ({ frames := 1, cells := 0, slots := 0, locals := 12 } : Room).slots)  :
    ∃ T', Stand p l e ({ frames := 1, cells := 0, slots := 0, locals := 12 } : Room) s m args below meth c T' locs cells slots ∧ T'.heap = h0 ∧ ∀ fs, (∀ (f : JFrame) (acts : List Action), f.method = m → f.locked = none → f.entered = [] → (doReturn e (T'.setTop f) acts (some (.int (own_f2_81 i0 i1 i2 i3 i4 i5 i6)))).1 = T'.setFrames fs) → Steps p.tables e below (T0.setTop (mkF m 81 #[.val (.int i0), .val (.int i1), .val (.int i2), .val (.int i3), .val (.int i4), .val (.int i5), .val (.int i6), .unset, .unset, .unset] [])) (T'.setFrames fs) := by
  have pre1 : ∀ target, Steps p.tables e below (T0.setTop (mkF m 83 #[.val (.int i0), .val (.int i1), .val (.int i2), .val (.int i3), .val (.int i4), .val (.int i5), .val (.int i6), .unset, .unset, .unset] [(.int i5)])) target → Steps p.tables e below (T0.setTop (mkF m 81 #[.val (.int i0), .val (.int i1), .val (.int i2), .val (.int i3), .val (.int i4), .val (.int i5), .val (.int i6), .unset, .unset, .unset] [])) target := by
    intro target kt
    show Steps p.tables e below (T0.setTop (mkF m 81 #[.val (.int i0), .val (.int i1), .val (.int i2), .val (.int i3), .val (.int i4), .val (.int i5), .val (.int i6), .unset, .unset, .unset] [])) _
    refine XS.iload X0.here hx rfl (hb hby d2_81) rfl ?_
    exact kt
  by_cases hc83 : i5 = (0 : Int32)
  · refine ⟨T0, X0, e0, fun fs hr => ?_⟩
    have hv : (own_f2_81 i0 i1 i2 i3 i4 i5 i6) = (0 : Int32) := by unfold own_f2_81; rw [if_pos hc83]
    rw [hv] at hr
    refine pre1 _ ?_
    show Steps p.tables e below (T0.setTop (mkF m 83 #[.val (.int i0), .val (.int i1), .val (.int i2), .val (.int i3), .val (.int i4), .val (.int i5), .val (.int i6), .unset, .unset, .unset] [(.int i5)])) _
    refine XS.ifNo X0.here hx rfl (hb hby d2_83) rfl ((if0 _ _).trans (teq hc83).2) ?_
    show Steps p.tables e below (T0.setTop (mkF m 86 #[.val (.int i0), .val (.int i1), .val (.int i2), .val (.int i3), .val (.int i4), .val (.int i5), .val (.int i6), .unset, .unset, .unset] [])) _
    refine XS.iconst X0.here hx rfl (hb hby d2_86) ?_
    show Steps p.tables e below (T0.setTop (mkF m 87 #[.val (.int i0), .val (.int i1), .val (.int i2), .val (.int i3), .val (.int i4), .val (.int i5), .val (.int i6), .unset, .unset, .unset] [(.int (0 : Int32))])) _
    exact retI X0 hx hret (hb hby d2_87) hr
  · have pre2 : ∀ target, Steps p.tables e below (T0.setTop (mkF m 92 #[.val (.int i0), .val (.int i1), .val (.int i2), .val (.int i3), .val (.int i4), .val (.int i5), .val (.int i6), .unset, .unset, .unset] [(.int i5), (.int i4)])) target → Steps p.tables e below (T0.setTop (mkF m 81 #[.val (.int i0), .val (.int i1), .val (.int i2), .val (.int i3), .val (.int i4), .val (.int i5), .val (.int i6), .unset, .unset, .unset] [])) target := by
      intro target kt
      refine pre1 target ?_
      show Steps p.tables e below (T0.setTop (mkF m 83 #[.val (.int i0), .val (.int i1), .val (.int i2), .val (.int i3), .val (.int i4), .val (.int i5), .val (.int i6), .unset, .unset, .unset] [(.int i5)])) _
      refine XS.ifYes X0.here hx rfl (pc0 := 83) (pc' := 88) rfl (hb hby d2_83) rfl ((if0 _ _).trans (feq hc83).2) (by decide) (by decide) ?_
      show Steps p.tables e below (T0.setTop (mkF m 88 #[.val (.int i0), .val (.int i1), .val (.int i2), .val (.int i3), .val (.int i4), .val (.int i5), .val (.int i6), .unset, .unset, .unset] [])) _
      refine XS.iload X0.here hx rfl (hb hby d2_88) rfl ?_
      show Steps p.tables e below (T0.setTop (mkF m 90 #[.val (.int i0), .val (.int i1), .val (.int i2), .val (.int i3), .val (.int i4), .val (.int i5), .val (.int i6), .unset, .unset, .unset] [(.int i4)])) _
      refine XS.iload X0.here hx rfl (hb hby d2_90) rfl ?_
      exact kt
    by_cases hc92 : i4 < i5
    · refine ⟨T0, X0, e0, fun fs hr => ?_⟩
      have hv : (own_f2_81 i0 i1 i2 i3 i4 i5 i6) = (0 : Int32) := by unfold own_f2_81; rw [if_neg hc83, if_pos hc92]
      rw [hv] at hr
      refine pre2 _ ?_
      show Steps p.tables e below (T0.setTop (mkF m 92 #[.val (.int i0), .val (.int i1), .val (.int i2), .val (.int i3), .val (.int i4), .val (.int i5), .val (.int i6), .unset, .unset, .unset] [(.int i5), (.int i4)])) _
      refine XS.icmpNo X0.here hx rfl (hb hby d2_92) rfl (tlt hc92).2.1 ?_
      show Steps p.tables e below (T0.setTop (mkF m 95 #[.val (.int i0), .val (.int i1), .val (.int i2), .val (.int i3), .val (.int i4), .val (.int i5), .val (.int i6), .unset, .unset, .unset] [])) _
      refine XS.iconst X0.here hx rfl (hb hby d2_95) ?_
      show Steps p.tables e below (T0.setTop (mkF m 96 #[.val (.int i0), .val (.int i1), .val (.int i2), .val (.int i3), .val (.int i4), .val (.int i5), .val (.int i6), .unset, .unset, .unset] [(.int (0 : Int32))])) _
      exact retI X0 hx hret (hb hby d2_96) hr
    · obtain ⟨_, _, ⟨T3, L3, k3, n3⟩, -, X3, ⟨Lc3, hQ3, l3, y3, z3⟩, st3⟩ := Jvm.LawKit.callS X0 hx (y := (⟨"com/example/open_brace/openbrace/text/Utf8SequenceLengthPinLaw", "isCont", "(I)Z"⟩ : MethodName)) hown (mvT hZ (hw _ (List.mem_of_getElem? (i := 10) rfl))) (mvT hZ (hw _ (List.mem_of_getElem? (i := 11) rfl))) (mvT hZ (hw _ (List.mem_of_getElem? (i := 8) rfl))) (mvT hZ (hw _ (List.mem_of_getElem? (i := 12) rfl))) (by decide) (backOf (W := 0) (rm3 l Z a0_ hw [] i1  h0 0 (Nat.zero_le _) ) hZ (hw _ (List.mem_of_getElem? (i := 12) rfl)) (hw _ (List.mem_of_getElem? (i := 8) rfl)) (by decide) (by decide)) (g := (mkF m 98 #[.val (.int i0), .val (.int i1), .val (.int i2), .val (.int i3), .val (.int i4), .val (.int i5), .val (.int i6), .unset, .unset, .unset] [(.int i1)])) rfl (by rw [hml]; rfl) (argsL := [(.int i1)]) (rest := []) (lenOf pd_2_0 rfl) rfl (by show 2 * 0 + _ ≤ _; exact Nat.le_of_eq rfl) (hb hby d2_98) (fun _ _ => ⟨rfl, e0, hcl, hsl⟩)
      dsimp only [Pt.U, Pt.locs, Pt.cells, Pt.slots] at X3 l3 y3 z3 st3 hQ3
      subst l3 y3 z3
      obtain ⟨rfl, rfl, e3⟩ := hQ3
      rw [List.append_nil] at X3
      have pre4 : ∀ target, Steps p.tables e below (T3.setTop (mkF m 118 #[.val (.int i0), .val (.int i1), .val (.int i2), .val (.int i3), .val (.int i4), .val (.int i5), .val (.int ((i6 <<< ((6 : Int32) &&& 31)) ||| (i1 &&& (63 : Int32)))), .val (.int (own_f3_0 i1)), .unset, .unset] [(.int (3 : Int32)), (.int i5)])) target → Steps p.tables e below (T0.setTop (mkF m 81 #[.val (.int i0), .val (.int i1), .val (.int i2), .val (.int i3), .val (.int i4), .val (.int i5), .val (.int i6), .unset, .unset, .unset] [])) target := by
        intro target kt
        refine pre2 target ?_
        show Steps p.tables e below (T0.setTop (mkF m 92 #[.val (.int i0), .val (.int i1), .val (.int i2), .val (.int i3), .val (.int i4), .val (.int i5), .val (.int i6), .unset, .unset, .unset] [(.int i5), (.int i4)])) _
        refine XS.icmpYes X0.here hx rfl (pc0 := 92) (pc' := 97) rfl (hb hby d2_92) rfl (flt hc92).2.1 (by decide) (by decide) ?_
        show Steps p.tables e below (T0.setTop (mkF m 97 #[.val (.int i0), .val (.int i1), .val (.int i2), .val (.int i3), .val (.int i4), .val (.int i5), .val (.int i6), .unset, .unset, .unset] [])) _
        refine XS.iloadN X0.here hx rfl (hb hby d2_97) rfl ?_
        show Steps p.tables e below (T0.setTop (mkF m 98 #[.val (.int i0), .val (.int i1), .val (.int i2), .val (.int i3), .val (.int i4), .val (.int i5), .val (.int i6), .unset, .unset, .unset] [(.int i1)])) _
        refine st3 _ ?_
        show Steps p.tables e below (T3.setTop (mkF m 101 #[.val (.int i0), .val (.int i1), .val (.int i2), .val (.int i3), .val (.int i4), .val (.int i5), .val (.int i6), .unset, .unset, .unset] [(.int (own_f3_0 i1))])) _
        refine XS.istore X3.here hx rfl (hb hby d2_101) rfl (l' := #[.val (.int i0), .val (.int i1), .val (.int i2), .val (.int i3), .val (.int i4), .val (.int i5), .val (.int i6), .val (.int (own_f3_0 i1)), .unset, .unset]) rfl ?_
        show Steps p.tables e below (T3.setTop (mkF m 103 #[.val (.int i0), .val (.int i1), .val (.int i2), .val (.int i3), .val (.int i4), .val (.int i5), .val (.int i6), .val (.int (own_f3_0 i1)), .unset, .unset] [])) _
        refine XS.iload X3.here hx rfl (hb hby d2_103) rfl ?_
        show Steps p.tables e below (T3.setTop (mkF m 105 #[.val (.int i0), .val (.int i1), .val (.int i2), .val (.int i3), .val (.int i4), .val (.int i5), .val (.int i6), .val (.int (own_f3_0 i1)), .unset, .unset] [(.int i6)])) _
        refine XS.bipush X3.here hx rfl (hb hby d2_105) ?_
        show Steps p.tables e below (T3.setTop (mkF m 107 #[.val (.int i0), .val (.int i1), .val (.int i2), .val (.int i3), .val (.int i4), .val (.int i5), .val (.int i6), .val (.int (own_f3_0 i1)), .unset, .unset] [(.int (6 : Int32)), (.int i6)])) _
        refine XS.ishl X3.here hx rfl (hb hby d2_107) rfl ?_
        show Steps p.tables e below (T3.setTop (mkF m 108 #[.val (.int i0), .val (.int i1), .val (.int i2), .val (.int i3), .val (.int i4), .val (.int i5), .val (.int i6), .val (.int (own_f3_0 i1)), .unset, .unset] [(.int (i6 <<< ((6 : Int32) &&& 31)))])) _
        refine XS.iloadN X3.here hx rfl (hb hby d2_108) rfl ?_
        show Steps p.tables e below (T3.setTop (mkF m 109 #[.val (.int i0), .val (.int i1), .val (.int i2), .val (.int i3), .val (.int i4), .val (.int i5), .val (.int i6), .val (.int (own_f3_0 i1)), .unset, .unset] [(.int i1), (.int (i6 <<< ((6 : Int32) &&& 31)))])) _
        refine XS.bipush X3.here hx rfl (hb hby d2_109) ?_
        show Steps p.tables e below (T3.setTop (mkF m 111 #[.val (.int i0), .val (.int i1), .val (.int i2), .val (.int i3), .val (.int i4), .val (.int i5), .val (.int i6), .val (.int (own_f3_0 i1)), .unset, .unset] [(.int (63 : Int32)), (.int i1), (.int (i6 <<< ((6 : Int32) &&& 31)))])) _
        refine XS.iand X3.here hx rfl (hb hby d2_111) rfl ?_
        show Steps p.tables e below (T3.setTop (mkF m 112 #[.val (.int i0), .val (.int i1), .val (.int i2), .val (.int i3), .val (.int i4), .val (.int i5), .val (.int i6), .val (.int (own_f3_0 i1)), .unset, .unset] [(.int (i1 &&& (63 : Int32))), (.int (i6 <<< ((6 : Int32) &&& 31)))])) _
        refine XS.ior X3.here hx rfl (hb hby d2_112) rfl ?_
        show Steps p.tables e below (T3.setTop (mkF m 113 #[.val (.int i0), .val (.int i1), .val (.int i2), .val (.int i3), .val (.int i4), .val (.int i5), .val (.int i6), .val (.int (own_f3_0 i1)), .unset, .unset] [(.int ((i6 <<< ((6 : Int32) &&& 31)) ||| (i1 &&& (63 : Int32))))])) _
        refine XS.istore X3.here hx rfl (hb hby d2_113) rfl (l' := #[.val (.int i0), .val (.int i1), .val (.int i2), .val (.int i3), .val (.int i4), .val (.int i5), .val (.int ((i6 <<< ((6 : Int32) &&& 31)) ||| (i1 &&& (63 : Int32)))), .val (.int (own_f3_0 i1)), .unset, .unset]) rfl ?_
        show Steps p.tables e below (T3.setTop (mkF m 115 #[.val (.int i0), .val (.int i1), .val (.int i2), .val (.int i3), .val (.int i4), .val (.int i5), .val (.int ((i6 <<< ((6 : Int32) &&& 31)) ||| (i1 &&& (63 : Int32)))), .val (.int (own_f3_0 i1)), .unset, .unset] [])) _
        refine XS.iload X3.here hx rfl (hb hby d2_115) rfl ?_
        show Steps p.tables e below (T3.setTop (mkF m 117 #[.val (.int i0), .val (.int i1), .val (.int i2), .val (.int i3), .val (.int i4), .val (.int i5), .val (.int ((i6 <<< ((6 : Int32) &&& 31)) ||| (i1 &&& (63 : Int32)))), .val (.int (own_f3_0 i1)), .unset, .unset] [(.int i5)])) _
        refine XS.iconst X3.here hx rfl (hb hby d2_117) ?_
        exact kt
      by_cases hc118 : i5 < (3 : Int32)
      · have pre5 : ∀ target, Steps p.tables e below (T3.setTop (mkF m 152 #[.val (.int i0), .val (.int i1), .val (.int i2), .val (.int i3), .val (.int i4), .val (.int i5), .val (.int ((i6 <<< ((6 : Int32) &&& 31)) ||| (i1 &&& (63 : Int32)))), .val (.int (own_f3_0 i1)), .unset, .unset] [])) target → Steps p.tables e below (T0.setTop (mkF m 81 #[.val (.int i0), .val (.int i1), .val (.int i2), .val (.int i3), .val (.int i4), .val (.int i5), .val (.int i6), .unset, .unset, .unset] [])) target := by
          intro target kt
          refine pre4 target ?_
          show Steps p.tables e below (T3.setTop (mkF m 118 #[.val (.int i0), .val (.int i1), .val (.int i2), .val (.int i3), .val (.int i4), .val (.int i5), .val (.int ((i6 <<< ((6 : Int32) &&& 31)) ||| (i1 &&& (63 : Int32)))), .val (.int (own_f3_0 i1)), .unset, .unset] [(.int (3 : Int32)), (.int i5)])) _
          refine XS.icmpYes X3.here hx rfl (pc0 := 118) (pc' := 152) rfl (hb hby d2_118) rfl (tlt hc118).1 (by decide) (by decide) ?_
          exact kt
        obtain ⟨T6, X6, e6, st6⟩ := own_b2_152 hx hZ hw hby hml hown hret i0 i1 i2 i3 i4 i5 ((i6 <<< ((6 : Int32) &&& 31)) ||| (i1 &&& (63 : Int32))) (own_f3_0 i1)  X3 e3 hcl hsl  
        have hv : (own_f2_81 i0 i1 i2 i3 i4 i5 i6) = (own_f2_152 i0 i1 i2 i3 i4 i5 ((i6 <<< ((6 : Int32) &&& 31)) ||| (i1 &&& (63 : Int32))) (own_f3_0 i1)) := by unfold own_f2_81; rw [if_neg hc83, if_neg hc92, if_pos hc118]
        exact ⟨T6, X6, e6, fun fs hr => pre5 _ (st6 fs (by rw [hv] at hr; exact hr))⟩
      · have pre7 : ∀ target, Steps p.tables e below (T3.setTop (mkF m 123 #[.val (.int i0), .val (.int i1), .val (.int i2), .val (.int i3), .val (.int i4), .val (.int i5), .val (.int ((i6 <<< ((6 : Int32) &&& 31)) ||| (i1 &&& (63 : Int32)))), .val (.int (own_f3_0 i1)), .unset, .unset] [(.int (own_f3_0 i1))])) target → Steps p.tables e below (T0.setTop (mkF m 81 #[.val (.int i0), .val (.int i1), .val (.int i2), .val (.int i3), .val (.int i4), .val (.int i5), .val (.int i6), .unset, .unset, .unset] [])) target := by
          intro target kt
          refine pre4 target ?_
          show Steps p.tables e below (T3.setTop (mkF m 118 #[.val (.int i0), .val (.int i1), .val (.int i2), .val (.int i3), .val (.int i4), .val (.int i5), .val (.int ((i6 <<< ((6 : Int32) &&& 31)) ||| (i1 &&& (63 : Int32)))), .val (.int (own_f3_0 i1)), .unset, .unset] [(.int (3 : Int32)), (.int i5)])) _
          refine XS.icmpNo X3.here hx rfl (hb hby d2_118) rfl (flt hc118).1 ?_
          show Steps p.tables e below (T3.setTop (mkF m 121 #[.val (.int i0), .val (.int i1), .val (.int i2), .val (.int i3), .val (.int i4), .val (.int i5), .val (.int ((i6 <<< ((6 : Int32) &&& 31)) ||| (i1 &&& (63 : Int32)))), .val (.int (own_f3_0 i1)), .unset, .unset] [])) _
          refine XS.iload X3.here hx rfl (hb hby d2_121) rfl ?_
          exact kt
        by_cases hc123 : (own_f3_0 i1) = (0 : Int32)
        · have pre8 : ∀ target, Steps p.tables e below (T3.setTop (mkF m 137 #[.val (.int i0), .val (.int i1), .val (.int i2), .val (.int i3), .val (.int i4), .val (.int i5), .val (.int ((i6 <<< ((6 : Int32) &&& 31)) ||| (i1 &&& (63 : Int32)))), .val (.int (own_f3_0 i1)), .unset, .unset] [])) target → Steps p.tables e below (T0.setTop (mkF m 81 #[.val (.int i0), .val (.int i1), .val (.int i2), .val (.int i3), .val (.int i4), .val (.int i5), .val (.int i6), .unset, .unset, .unset] [])) target := by
            intro target kt
            refine pre7 target ?_
            show Steps p.tables e below (T3.setTop (mkF m 123 #[.val (.int i0), .val (.int i1), .val (.int i2), .val (.int i3), .val (.int i4), .val (.int i5), .val (.int ((i6 <<< ((6 : Int32) &&& 31)) ||| (i1 &&& (63 : Int32)))), .val (.int (own_f3_0 i1)), .unset, .unset] [(.int (own_f3_0 i1))])) _
            refine XS.ifYes X3.here hx rfl (pc0 := 123) (pc' := 137) rfl (hb hby d2_123) rfl ((if0 _ _).trans (teq hc123).1) (by decide) (by decide) ?_
            exact kt
          obtain ⟨T9, X9, e9, st9⟩ := own_b2_137 hx hZ hw hby hml hown hret i0 i1 i2 i3 i4 i5 ((i6 <<< ((6 : Int32) &&& 31)) ||| (i1 &&& (63 : Int32))) (own_f3_0 i1)  X3 e3 hcl hsl  
          have hv : (own_f2_81 i0 i1 i2 i3 i4 i5 i6) = (own_f2_137 i0 i1 i2 i3 i4 i5 ((i6 <<< ((6 : Int32) &&& 31)) ||| (i1 &&& (63 : Int32))) (own_f3_0 i1)) := by unfold own_f2_81; rw [if_neg hc83, if_neg hc92, if_neg hc118, if_pos hc123]
          exact ⟨T9, X9, e9, fun fs hr => pre8 _ (st9 fs (by rw [hv] at hr; exact hr))⟩
        · obtain ⟨_, _, ⟨T10, L10, k10, n10⟩, -, X10, ⟨Lc10, hQ10, l10, y10, z10⟩, st10⟩ := Jvm.LawKit.callS X3 hx (y := (⟨"com/example/open_brace/openbrace/text/Utf8SequenceLengthPinLaw", "isCont", "(I)Z"⟩ : MethodName)) hown (mvT hZ (hw _ (List.mem_of_getElem? (i := 10) rfl))) (mvT hZ (hw _ (List.mem_of_getElem? (i := 11) rfl))) (mvT hZ (hw _ (List.mem_of_getElem? (i := 8) rfl))) (mvT hZ (hw _ (List.mem_of_getElem? (i := 12) rfl))) (by decide) (backOf (W := 0) (rm3 l Z a0_ hw [] i2  h0 0 (Nat.zero_le _) ) hZ (hw _ (List.mem_of_getElem? (i := 12) rfl)) (hw _ (List.mem_of_getElem? (i := 8) rfl)) (by decide) (by decide)) (g := (mkF m 127 #[.val (.int i0), .val (.int i1), .val (.int i2), .val (.int i3), .val (.int i4), .val (.int i5), .val (.int ((i6 <<< ((6 : Int32) &&& 31)) ||| (i1 &&& (63 : Int32)))), .val (.int (own_f3_0 i1)), .unset, .unset] [(.int i2)])) rfl (by rw [hml]; rfl) (argsL := [(.int i2)]) (rest := []) (lenOf pd_2_0 rfl) rfl (by show 2 * 0 + _ ≤ _; exact Nat.le_of_eq rfl) (hb hby d2_127) (fun _ _ => ⟨rfl, e3, hcl, hsl⟩)
          dsimp only [Pt.U, Pt.locs, Pt.cells, Pt.slots] at X10 l10 y10 z10 st10 hQ10
          subst l10 y10 z10
          obtain ⟨rfl, rfl, e10⟩ := hQ10
          rw [List.append_nil] at X10
          have pre11 : ∀ target, Steps p.tables e below (T10.setTop (mkF m 130 #[.val (.int i0), .val (.int i1), .val (.int i2), .val (.int i3), .val (.int i4), .val (.int i5), .val (.int ((i6 <<< ((6 : Int32) &&& 31)) ||| (i1 &&& (63 : Int32)))), .val (.int (own_f3_0 i1)), .unset, .unset] [(.int (own_f3_0 i2))])) target → Steps p.tables e below (T0.setTop (mkF m 81 #[.val (.int i0), .val (.int i1), .val (.int i2), .val (.int i3), .val (.int i4), .val (.int i5), .val (.int i6), .unset, .unset, .unset] [])) target := by
            intro target kt
            refine pre7 target ?_
            show Steps p.tables e below (T3.setTop (mkF m 123 #[.val (.int i0), .val (.int i1), .val (.int i2), .val (.int i3), .val (.int i4), .val (.int i5), .val (.int ((i6 <<< ((6 : Int32) &&& 31)) ||| (i1 &&& (63 : Int32)))), .val (.int (own_f3_0 i1)), .unset, .unset] [(.int (own_f3_0 i1))])) _
            refine XS.ifNo X3.here hx rfl (hb hby d2_123) rfl ((if0 _ _).trans (feq hc123).1) ?_
            show Steps p.tables e below (T3.setTop (mkF m 126 #[.val (.int i0), .val (.int i1), .val (.int i2), .val (.int i3), .val (.int i4), .val (.int i5), .val (.int ((i6 <<< ((6 : Int32) &&& 31)) ||| (i1 &&& (63 : Int32)))), .val (.int (own_f3_0 i1)), .unset, .unset] [])) _
            refine XS.iloadN X3.here hx rfl (hb hby d2_126) rfl ?_
            show Steps p.tables e below (T3.setTop (mkF m 127 #[.val (.int i0), .val (.int i1), .val (.int i2), .val (.int i3), .val (.int i4), .val (.int i5), .val (.int ((i6 <<< ((6 : Int32) &&& 31)) ||| (i1 &&& (63 : Int32)))), .val (.int (own_f3_0 i1)), .unset, .unset] [(.int i2)])) _
            refine st10 _ ?_
            exact kt
          by_cases hc130 : (own_f3_0 i2) = (0 : Int32)
          · have pre12 : ∀ target, Steps p.tables e below (T10.setTop (mkF m 137 #[.val (.int i0), .val (.int i1), .val (.int i2), .val (.int i3), .val (.int i4), .val (.int i5), .val (.int ((i6 <<< ((6 : Int32) &&& 31)) ||| (i1 &&& (63 : Int32)))), .val (.int (own_f3_0 i1)), .unset, .unset] [])) target → Steps p.tables e below (T0.setTop (mkF m 81 #[.val (.int i0), .val (.int i1), .val (.int i2), .val (.int i3), .val (.int i4), .val (.int i5), .val (.int i6), .unset, .unset, .unset] [])) target := by
              intro target kt
              refine pre11 target ?_
              show Steps p.tables e below (T10.setTop (mkF m 130 #[.val (.int i0), .val (.int i1), .val (.int i2), .val (.int i3), .val (.int i4), .val (.int i5), .val (.int ((i6 <<< ((6 : Int32) &&& 31)) ||| (i1 &&& (63 : Int32)))), .val (.int (own_f3_0 i1)), .unset, .unset] [(.int (own_f3_0 i2))])) _
              refine XS.ifYes X10.here hx rfl (pc0 := 130) (pc' := 137) rfl (hb hby d2_130) rfl ((if0 _ _).trans (teq hc130).1) (by decide) (by decide) ?_
              exact kt
            obtain ⟨T13, X13, e13, st13⟩ := own_b2_137 hx hZ hw hby hml hown hret i0 i1 i2 i3 i4 i5 ((i6 <<< ((6 : Int32) &&& 31)) ||| (i1 &&& (63 : Int32))) (own_f3_0 i1)  X10 e10 hcl hsl  
            have hv : (own_f2_81 i0 i1 i2 i3 i4 i5 i6) = (own_f2_137 i0 i1 i2 i3 i4 i5 ((i6 <<< ((6 : Int32) &&& 31)) ||| (i1 &&& (63 : Int32))) (own_f3_0 i1)) := by unfold own_f2_81; rw [if_neg hc83, if_neg hc92, if_neg hc118, if_neg hc123, if_pos hc130]
            exact ⟨T13, X13, e13, fun fs hr => pre12 _ (st13 fs (by rw [hv] at hr; exact hr))⟩
          · have pre14 : ∀ target, Steps p.tables e below (T10.setTop (mkF m 138 #[.val (.int i0), .val (.int i1), .val (.int i2), .val (.int i3), .val (.int i4), .val (.int i5), .val (.int ((i6 <<< ((6 : Int32) &&& 31)) ||| (i1 &&& (63 : Int32)))), .val (.int (own_f3_0 i1)), .unset, .unset] [(.int (1 : Int32))])) target → Steps p.tables e below (T0.setTop (mkF m 81 #[.val (.int i0), .val (.int i1), .val (.int i2), .val (.int i3), .val (.int i4), .val (.int i5), .val (.int i6), .unset, .unset, .unset] [])) target := by
              intro target kt
              refine pre11 target ?_
              show Steps p.tables e below (T10.setTop (mkF m 130 #[.val (.int i0), .val (.int i1), .val (.int i2), .val (.int i3), .val (.int i4), .val (.int i5), .val (.int ((i6 <<< ((6 : Int32) &&& 31)) ||| (i1 &&& (63 : Int32)))), .val (.int (own_f3_0 i1)), .unset, .unset] [(.int (own_f3_0 i2))])) _
              refine XS.ifNo X10.here hx rfl (hb hby d2_130) rfl ((if0 _ _).trans (feq hc130).1) ?_
              show Steps p.tables e below (T10.setTop (mkF m 133 #[.val (.int i0), .val (.int i1), .val (.int i2), .val (.int i3), .val (.int i4), .val (.int i5), .val (.int ((i6 <<< ((6 : Int32) &&& 31)) ||| (i1 &&& (63 : Int32)))), .val (.int (own_f3_0 i1)), .unset, .unset] [])) _
              refine XS.iconst X10.here hx rfl (hb hby d2_133) ?_
              show Steps p.tables e below (T10.setTop (mkF m 134 #[.val (.int i0), .val (.int i1), .val (.int i2), .val (.int i3), .val (.int i4), .val (.int i5), .val (.int ((i6 <<< ((6 : Int32) &&& 31)) ||| (i1 &&& (63 : Int32)))), .val (.int (own_f3_0 i1)), .unset, .unset] [(.int (1 : Int32))])) _
              refine XS.goto X10.here hx rfl (pc0 := 134) (pc' := 138) rfl (hb hby d2_134) (by decide) (by decide) ?_
              exact kt
            obtain ⟨T15, X15, e15, st15⟩ := own_b2_138 hx hZ hw hby hml hown hret i0 i1 i2 i3 i4 i5 ((i6 <<< ((6 : Int32) &&& 31)) ||| (i1 &&& (63 : Int32))) (own_f3_0 i1) (1 : Int32)  X10 e10 hcl hsl  
            have hv : (own_f2_81 i0 i1 i2 i3 i4 i5 i6) = (own_f2_138 i0 i1 i2 i3 i4 i5 ((i6 <<< ((6 : Int32) &&& 31)) ||| (i1 &&& (63 : Int32))) (own_f3_0 i1) (1 : Int32)) := by unfold own_f2_81; rw [if_neg hc83, if_neg hc92, if_neg hc118, if_neg hc123, if_neg hc130]
            exact ⟨T15, X15, e15, fun fs hr => pre14 _ (st15 fs (by rw [hv] at hr; exact hr))⟩
set_option maxRecDepth 65536 in
set_option maxHeartbeats 40000000 in
theorem own_b2_58 {p : Program} {l : Launch} {e : Env} {s : State} {m : MethodId} {args : Array Value} {below : List Frame} {meth : Method} {c : Code} {Z : State} {a0_ : Array Value} (hx : p.tables.exec = Jvm.exec) (hZ : Z.Warmed39 s.vm) (hw : ∀ d ∈ tables_1, d.before a0_ Z = true) (hby : c.code = method_4_code) (hml : c.maxLocals = 10) (hown : s.vm.findClass "com/example/open_brace/openbrace/text/Utf8SequenceLengthPinLaw" = some m.cls) (hret : meth.sig.returnType = some .int) {T0 : State} {locs : List Loc} {cells slots : Nat} {h0 : Heap} (i0 : Int32) (i1 : Int32) (i2 : Int32) (i3 : Int32) (i4 : Int32) (i5 : Int32) (i6 : Int32)
    (X0 : Stand p l e ({ frames := 1, cells := 0, slots := 0, locals := 12 } : Room) s m args below meth c T0 locs cells slots) (e0 : T0.heap = h0) (hcl : cells ≤ ({ frames := 1, cells := 0, slots := 0, locals := 12 } : Room).cells) (hsl : slots ≤ ({ frames := 1, cells := 0, slots := 0, locals := 12 } : Room).slots)  :
    ∃ T', Stand p l e ({ frames := 1, cells := 0, slots := 0, locals := 12 } : Room) s m args below meth c T' locs cells slots ∧ T'.heap = h0 ∧ ∀ fs, (∀ (f : JFrame) (acts : List Action), f.method = m → f.locked = none → f.entered = [] → (doReturn e (T'.setTop f) acts (some (.int (own_f2_58 i0 i1 i2 i3 i4 i5 i6)))).1 = T'.setFrames fs) → Steps p.tables e below (T0.setTop (mkF m 58 #[.val (.int i0), .val (.int i1), .val (.int i2), .val (.int i3), .val (.int i4), .val (.int i5), .val (.int i6), .unset, .unset, .unset] [])) (T'.setFrames fs) := by
  have pre1 : ∀ target, Steps p.tables e below (T0.setTop (mkF m 62 #[.val (.int i0), .val (.int i1), .val (.int i2), .val (.int i3), .val (.int i4), .val (.int i5), .val (.int i6), .unset, .unset, .unset] [(.int (240 : Int32)), (.int i0)])) target → Steps p.tables e below (T0.setTop (mkF m 58 #[.val (.int i0), .val (.int i1), .val (.int i2), .val (.int i3), .val (.int i4), .val (.int i5), .val (.int i6), .unset, .unset, .unset] [])) target := by
    intro target kt
    show Steps p.tables e below (T0.setTop (mkF m 58 #[.val (.int i0), .val (.int i1), .val (.int i2), .val (.int i3), .val (.int i4), .val (.int i5), .val (.int i6), .unset, .unset, .unset] [])) _
    refine XS.iloadN X0.here hx rfl (hb hby d2_58) rfl ?_
    show Steps p.tables e below (T0.setTop (mkF m 59 #[.val (.int i0), .val (.int i1), .val (.int i2), .val (.int i3), .val (.int i4), .val (.int i5), .val (.int i6), .unset, .unset, .unset] [(.int i0)])) _
    refine XS.sipush X0.here hx rfl (hb hby d2_59) ?_
    exact kt
  by_cases hc62 : i0 < (240 : Int32)
  · have pre2 : ∀ target, Steps p.tables e below (T0.setTop (mkF m 81 #[.val (.int i0), .val (.int i1), .val (.int i2), .val (.int i3), .val (.int i4), .val (.int i5), .val (.int i6), .unset, .unset, .unset] [])) target → Steps p.tables e below (T0.setTop (mkF m 58 #[.val (.int i0), .val (.int i1), .val (.int i2), .val (.int i3), .val (.int i4), .val (.int i5), .val (.int i6), .unset, .unset, .unset] [])) target := by
      intro target kt
      refine pre1 target ?_
      show Steps p.tables e below (T0.setTop (mkF m 62 #[.val (.int i0), .val (.int i1), .val (.int i2), .val (.int i3), .val (.int i4), .val (.int i5), .val (.int i6), .unset, .unset, .unset] [(.int (240 : Int32)), (.int i0)])) _
      refine XS.icmpYes X0.here hx rfl (pc0 := 62) (pc' := 81) rfl (hb hby d2_62) rfl (tlt hc62).1 (by decide) (by decide) ?_
      exact kt
    obtain ⟨T3, X3, e3, st3⟩ := own_b2_81 hx hZ hw hby hml hown hret i0 i1 i2 i3 i4 i5 i6  X0 e0 hcl hsl  
    have hv : (own_f2_58 i0 i1 i2 i3 i4 i5 i6) = (own_f2_81 i0 i1 i2 i3 i4 i5 i6) := by unfold own_f2_58; rw [if_pos hc62]
    exact ⟨T3, X3, e3, fun fs hr => pre2 _ (st3 fs (by rw [hv] at hr; exact hr))⟩
  · have pre4 : ∀ target, Steps p.tables e below (T0.setTop (mkF m 69 #[.val (.int i0), .val (.int i1), .val (.int i2), .val (.int i3), .val (.int i4), .val (.int i5), .val (.int i6), .unset, .unset, .unset] [(.int (248 : Int32)), (.int i0)])) target → Steps p.tables e below (T0.setTop (mkF m 58 #[.val (.int i0), .val (.int i1), .val (.int i2), .val (.int i3), .val (.int i4), .val (.int i5), .val (.int i6), .unset, .unset, .unset] [])) target := by
      intro target kt
      refine pre1 target ?_
      show Steps p.tables e below (T0.setTop (mkF m 62 #[.val (.int i0), .val (.int i1), .val (.int i2), .val (.int i3), .val (.int i4), .val (.int i5), .val (.int i6), .unset, .unset, .unset] [(.int (240 : Int32)), (.int i0)])) _
      refine XS.icmpNo X0.here hx rfl (hb hby d2_62) rfl (flt hc62).1 ?_
      show Steps p.tables e below (T0.setTop (mkF m 65 #[.val (.int i0), .val (.int i1), .val (.int i2), .val (.int i3), .val (.int i4), .val (.int i5), .val (.int i6), .unset, .unset, .unset] [])) _
      refine XS.iloadN X0.here hx rfl (hb hby d2_65) rfl ?_
      show Steps p.tables e below (T0.setTop (mkF m 66 #[.val (.int i0), .val (.int i1), .val (.int i2), .val (.int i3), .val (.int i4), .val (.int i5), .val (.int i6), .unset, .unset, .unset] [(.int i0)])) _
      refine XS.sipush X0.here hx rfl (hb hby d2_66) ?_
      exact kt
    by_cases hc69 : i0 < (248 : Int32)
    · have pre5 : ∀ target, Steps p.tables e below (T0.setTop (mkF m 81 #[.val (.int i0), .val (.int i1), .val (.int i2), .val (.int i3), .val (.int i4), .val (.int (4 : Int32)), .val (.int (i0 &&& (7 : Int32))), .unset, .unset, .unset] [])) target → Steps p.tables e below (T0.setTop (mkF m 58 #[.val (.int i0), .val (.int i1), .val (.int i2), .val (.int i3), .val (.int i4), .val (.int i5), .val (.int i6), .unset, .unset, .unset] [])) target := by
        intro target kt
        refine pre4 target ?_
        show Steps p.tables e below (T0.setTop (mkF m 69 #[.val (.int i0), .val (.int i1), .val (.int i2), .val (.int i3), .val (.int i4), .val (.int i5), .val (.int i6), .unset, .unset, .unset] [(.int (248 : Int32)), (.int i0)])) _
        refine XS.icmpNo X0.here hx rfl (hb hby d2_69) rfl (tlt hc69).2.1 ?_
        show Steps p.tables e below (T0.setTop (mkF m 72 #[.val (.int i0), .val (.int i1), .val (.int i2), .val (.int i3), .val (.int i4), .val (.int i5), .val (.int i6), .unset, .unset, .unset] [])) _
        refine XS.iconst X0.here hx rfl (hb hby d2_72) ?_
        show Steps p.tables e below (T0.setTop (mkF m 73 #[.val (.int i0), .val (.int i1), .val (.int i2), .val (.int i3), .val (.int i4), .val (.int i5), .val (.int i6), .unset, .unset, .unset] [(.int (4 : Int32))])) _
        refine XS.istore X0.here hx rfl (hb hby d2_73) rfl (l' := #[.val (.int i0), .val (.int i1), .val (.int i2), .val (.int i3), .val (.int i4), .val (.int (4 : Int32)), .val (.int i6), .unset, .unset, .unset]) rfl ?_
        show Steps p.tables e below (T0.setTop (mkF m 75 #[.val (.int i0), .val (.int i1), .val (.int i2), .val (.int i3), .val (.int i4), .val (.int (4 : Int32)), .val (.int i6), .unset, .unset, .unset] [])) _
        refine XS.iloadN X0.here hx rfl (hb hby d2_75) rfl ?_
        show Steps p.tables e below (T0.setTop (mkF m 76 #[.val (.int i0), .val (.int i1), .val (.int i2), .val (.int i3), .val (.int i4), .val (.int (4 : Int32)), .val (.int i6), .unset, .unset, .unset] [(.int i0)])) _
        refine XS.bipush X0.here hx rfl (hb hby d2_76) ?_
        show Steps p.tables e below (T0.setTop (mkF m 78 #[.val (.int i0), .val (.int i1), .val (.int i2), .val (.int i3), .val (.int i4), .val (.int (4 : Int32)), .val (.int i6), .unset, .unset, .unset] [(.int (7 : Int32)), (.int i0)])) _
        refine XS.iand X0.here hx rfl (hb hby d2_78) rfl ?_
        show Steps p.tables e below (T0.setTop (mkF m 79 #[.val (.int i0), .val (.int i1), .val (.int i2), .val (.int i3), .val (.int i4), .val (.int (4 : Int32)), .val (.int i6), .unset, .unset, .unset] [(.int (i0 &&& (7 : Int32)))])) _
        refine XS.istore X0.here hx rfl (hb hby d2_79) rfl (l' := #[.val (.int i0), .val (.int i1), .val (.int i2), .val (.int i3), .val (.int i4), .val (.int (4 : Int32)), .val (.int (i0 &&& (7 : Int32))), .unset, .unset, .unset]) rfl ?_
        exact kt
      obtain ⟨T6, X6, e6, st6⟩ := own_b2_81 hx hZ hw hby hml hown hret i0 i1 i2 i3 i4 (4 : Int32) (i0 &&& (7 : Int32))  X0 e0 hcl hsl  
      have hv : (own_f2_58 i0 i1 i2 i3 i4 i5 i6) = (own_f2_81 i0 i1 i2 i3 i4 (4 : Int32) (i0 &&& (7 : Int32))) := by unfold own_f2_58; rw [if_neg hc62, if_pos hc69]
      exact ⟨T6, X6, e6, fun fs hr => pre5 _ (st6 fs (by rw [hv] at hr; exact hr))⟩
    · have pre7 : ∀ target, Steps p.tables e below (T0.setTop (mkF m 81 #[.val (.int i0), .val (.int i1), .val (.int i2), .val (.int i3), .val (.int i4), .val (.int i5), .val (.int i6), .unset, .unset, .unset] [])) target → Steps p.tables e below (T0.setTop (mkF m 58 #[.val (.int i0), .val (.int i1), .val (.int i2), .val (.int i3), .val (.int i4), .val (.int i5), .val (.int i6), .unset, .unset, .unset] [])) target := by
        intro target kt
        refine pre4 target ?_
        show Steps p.tables e below (T0.setTop (mkF m 69 #[.val (.int i0), .val (.int i1), .val (.int i2), .val (.int i3), .val (.int i4), .val (.int i5), .val (.int i6), .unset, .unset, .unset] [(.int (248 : Int32)), (.int i0)])) _
        refine XS.icmpYes X0.here hx rfl (pc0 := 69) (pc' := 81) rfl (hb hby d2_69) rfl (flt hc69).2.1 (by decide) (by decide) ?_
        exact kt
      obtain ⟨T8, X8, e8, st8⟩ := own_b2_81 hx hZ hw hby hml hown hret i0 i1 i2 i3 i4 i5 i6  X0 e0 hcl hsl  
      have hv : (own_f2_58 i0 i1 i2 i3 i4 i5 i6) = (own_f2_81 i0 i1 i2 i3 i4 i5 i6) := by unfold own_f2_58; rw [if_neg hc62, if_neg hc69]
      exact ⟨T8, X8, e8, fun fs hr => pre7 _ (st8 fs (by rw [hv] at hr; exact hr))⟩
set_option maxRecDepth 65536 in
set_option maxHeartbeats 40000000 in
theorem own_b2_32 {p : Program} {l : Launch} {e : Env} {s : State} {m : MethodId} {args : Array Value} {below : List Frame} {meth : Method} {c : Code} {Z : State} {a0_ : Array Value} (hx : p.tables.exec = Jvm.exec) (hZ : Z.Warmed39 s.vm) (hw : ∀ d ∈ tables_1, d.before a0_ Z = true) (hby : c.code = method_4_code) (hml : c.maxLocals = 10) (hown : s.vm.findClass "com/example/open_brace/openbrace/text/Utf8SequenceLengthPinLaw" = some m.cls) (hret : meth.sig.returnType = some .int) {T0 : State} {locs : List Loc} {cells slots : Nat} {h0 : Heap} (i0 : Int32) (i1 : Int32) (i2 : Int32) (i3 : Int32) (i4 : Int32) (i5 : Int32) (i6 : Int32)
    (X0 : Stand p l e ({ frames := 1, cells := 0, slots := 0, locals := 12 } : Room) s m args below meth c T0 locs cells slots) (e0 : T0.heap = h0) (hcl : cells ≤ ({ frames := 1, cells := 0, slots := 0, locals := 12 } : Room).cells) (hsl : slots ≤ ({ frames := 1, cells := 0, slots := 0, locals := 12 } : Room).slots)  :
    ∃ T', Stand p l e ({ frames := 1, cells := 0, slots := 0, locals := 12 } : Room) s m args below meth c T' locs cells slots ∧ T'.heap = h0 ∧ ∀ fs, (∀ (f : JFrame) (acts : List Action), f.method = m → f.locked = none → f.entered = [] → (doReturn e (T'.setTop f) acts (some (.int (own_f2_32 i0 i1 i2 i3 i4 i5 i6)))).1 = T'.setFrames fs) → Steps p.tables e below (T0.setTop (mkF m 32 #[.val (.int i0), .val (.int i1), .val (.int i2), .val (.int i3), .val (.int i4), .val (.int i5), .val (.int i6), .unset, .unset, .unset] [])) (T'.setFrames fs) := by
  have pre1 : ∀ target, Steps p.tables e below (T0.setTop (mkF m 36 #[.val (.int i0), .val (.int i1), .val (.int i2), .val (.int i3), .val (.int i4), .val (.int i5), .val (.int i6), .unset, .unset, .unset] [(.int (224 : Int32)), (.int i0)])) target → Steps p.tables e below (T0.setTop (mkF m 32 #[.val (.int i0), .val (.int i1), .val (.int i2), .val (.int i3), .val (.int i4), .val (.int i5), .val (.int i6), .unset, .unset, .unset] [])) target := by
    intro target kt
    show Steps p.tables e below (T0.setTop (mkF m 32 #[.val (.int i0), .val (.int i1), .val (.int i2), .val (.int i3), .val (.int i4), .val (.int i5), .val (.int i6), .unset, .unset, .unset] [])) _
    refine XS.iloadN X0.here hx rfl (hb hby d2_32) rfl ?_
    show Steps p.tables e below (T0.setTop (mkF m 33 #[.val (.int i0), .val (.int i1), .val (.int i2), .val (.int i3), .val (.int i4), .val (.int i5), .val (.int i6), .unset, .unset, .unset] [(.int i0)])) _
    refine XS.sipush X0.here hx rfl (hb hby d2_33) ?_
    exact kt
  by_cases hc36 : i0 < (224 : Int32)
  · have pre2 : ∀ target, Steps p.tables e below (T0.setTop (mkF m 58 #[.val (.int i0), .val (.int i1), .val (.int i2), .val (.int i3), .val (.int i4), .val (.int i5), .val (.int i6), .unset, .unset, .unset] [])) target → Steps p.tables e below (T0.setTop (mkF m 32 #[.val (.int i0), .val (.int i1), .val (.int i2), .val (.int i3), .val (.int i4), .val (.int i5), .val (.int i6), .unset, .unset, .unset] [])) target := by
      intro target kt
      refine pre1 target ?_
      show Steps p.tables e below (T0.setTop (mkF m 36 #[.val (.int i0), .val (.int i1), .val (.int i2), .val (.int i3), .val (.int i4), .val (.int i5), .val (.int i6), .unset, .unset, .unset] [(.int (224 : Int32)), (.int i0)])) _
      refine XS.icmpYes X0.here hx rfl (pc0 := 36) (pc' := 58) rfl (hb hby d2_36) rfl (tlt hc36).1 (by decide) (by decide) ?_
      exact kt
    obtain ⟨T3, X3, e3, st3⟩ := own_b2_58 hx hZ hw hby hml hown hret i0 i1 i2 i3 i4 i5 i6  X0 e0 hcl hsl  
    have hv : (own_f2_32 i0 i1 i2 i3 i4 i5 i6) = (own_f2_58 i0 i1 i2 i3 i4 i5 i6) := by unfold own_f2_32; rw [if_pos hc36]
    exact ⟨T3, X3, e3, fun fs hr => pre2 _ (st3 fs (by rw [hv] at hr; exact hr))⟩
  · have pre4 : ∀ target, Steps p.tables e below (T0.setTop (mkF m 43 #[.val (.int i0), .val (.int i1), .val (.int i2), .val (.int i3), .val (.int i4), .val (.int i5), .val (.int i6), .unset, .unset, .unset] [(.int (240 : Int32)), (.int i0)])) target → Steps p.tables e below (T0.setTop (mkF m 32 #[.val (.int i0), .val (.int i1), .val (.int i2), .val (.int i3), .val (.int i4), .val (.int i5), .val (.int i6), .unset, .unset, .unset] [])) target := by
      intro target kt
      refine pre1 target ?_
      show Steps p.tables e below (T0.setTop (mkF m 36 #[.val (.int i0), .val (.int i1), .val (.int i2), .val (.int i3), .val (.int i4), .val (.int i5), .val (.int i6), .unset, .unset, .unset] [(.int (224 : Int32)), (.int i0)])) _
      refine XS.icmpNo X0.here hx rfl (hb hby d2_36) rfl (flt hc36).1 ?_
      show Steps p.tables e below (T0.setTop (mkF m 39 #[.val (.int i0), .val (.int i1), .val (.int i2), .val (.int i3), .val (.int i4), .val (.int i5), .val (.int i6), .unset, .unset, .unset] [])) _
      refine XS.iloadN X0.here hx rfl (hb hby d2_39) rfl ?_
      show Steps p.tables e below (T0.setTop (mkF m 40 #[.val (.int i0), .val (.int i1), .val (.int i2), .val (.int i3), .val (.int i4), .val (.int i5), .val (.int i6), .unset, .unset, .unset] [(.int i0)])) _
      refine XS.sipush X0.here hx rfl (hb hby d2_40) ?_
      exact kt
    by_cases hc43 : i0 < (240 : Int32)
    · have pre5 : ∀ target, Steps p.tables e below (T0.setTop (mkF m 81 #[.val (.int i0), .val (.int i1), .val (.int i2), .val (.int i3), .val (.int i4), .val (.int (3 : Int32)), .val (.int (i0 &&& (15 : Int32))), .unset, .unset, .unset] [])) target → Steps p.tables e below (T0.setTop (mkF m 32 #[.val (.int i0), .val (.int i1), .val (.int i2), .val (.int i3), .val (.int i4), .val (.int i5), .val (.int i6), .unset, .unset, .unset] [])) target := by
        intro target kt
        refine pre4 target ?_
        show Steps p.tables e below (T0.setTop (mkF m 43 #[.val (.int i0), .val (.int i1), .val (.int i2), .val (.int i3), .val (.int i4), .val (.int i5), .val (.int i6), .unset, .unset, .unset] [(.int (240 : Int32)), (.int i0)])) _
        refine XS.icmpNo X0.here hx rfl (hb hby d2_43) rfl (tlt hc43).2.1 ?_
        show Steps p.tables e below (T0.setTop (mkF m 46 #[.val (.int i0), .val (.int i1), .val (.int i2), .val (.int i3), .val (.int i4), .val (.int i5), .val (.int i6), .unset, .unset, .unset] [])) _
        refine XS.iconst X0.here hx rfl (hb hby d2_46) ?_
        show Steps p.tables e below (T0.setTop (mkF m 47 #[.val (.int i0), .val (.int i1), .val (.int i2), .val (.int i3), .val (.int i4), .val (.int i5), .val (.int i6), .unset, .unset, .unset] [(.int (3 : Int32))])) _
        refine XS.istore X0.here hx rfl (hb hby d2_47) rfl (l' := #[.val (.int i0), .val (.int i1), .val (.int i2), .val (.int i3), .val (.int i4), .val (.int (3 : Int32)), .val (.int i6), .unset, .unset, .unset]) rfl ?_
        show Steps p.tables e below (T0.setTop (mkF m 49 #[.val (.int i0), .val (.int i1), .val (.int i2), .val (.int i3), .val (.int i4), .val (.int (3 : Int32)), .val (.int i6), .unset, .unset, .unset] [])) _
        refine XS.iloadN X0.here hx rfl (hb hby d2_49) rfl ?_
        show Steps p.tables e below (T0.setTop (mkF m 50 #[.val (.int i0), .val (.int i1), .val (.int i2), .val (.int i3), .val (.int i4), .val (.int (3 : Int32)), .val (.int i6), .unset, .unset, .unset] [(.int i0)])) _
        refine XS.bipush X0.here hx rfl (hb hby d2_50) ?_
        show Steps p.tables e below (T0.setTop (mkF m 52 #[.val (.int i0), .val (.int i1), .val (.int i2), .val (.int i3), .val (.int i4), .val (.int (3 : Int32)), .val (.int i6), .unset, .unset, .unset] [(.int (15 : Int32)), (.int i0)])) _
        refine XS.iand X0.here hx rfl (hb hby d2_52) rfl ?_
        show Steps p.tables e below (T0.setTop (mkF m 53 #[.val (.int i0), .val (.int i1), .val (.int i2), .val (.int i3), .val (.int i4), .val (.int (3 : Int32)), .val (.int i6), .unset, .unset, .unset] [(.int (i0 &&& (15 : Int32)))])) _
        refine XS.istore X0.here hx rfl (hb hby d2_53) rfl (l' := #[.val (.int i0), .val (.int i1), .val (.int i2), .val (.int i3), .val (.int i4), .val (.int (3 : Int32)), .val (.int (i0 &&& (15 : Int32))), .unset, .unset, .unset]) rfl ?_
        show Steps p.tables e below (T0.setTop (mkF m 55 #[.val (.int i0), .val (.int i1), .val (.int i2), .val (.int i3), .val (.int i4), .val (.int (3 : Int32)), .val (.int (i0 &&& (15 : Int32))), .unset, .unset, .unset] [])) _
        refine XS.goto X0.here hx rfl (pc0 := 55) (pc' := 81) rfl (hb hby d2_55) (by decide) (by decide) ?_
        exact kt
      obtain ⟨T6, X6, e6, st6⟩ := own_b2_81 hx hZ hw hby hml hown hret i0 i1 i2 i3 i4 (3 : Int32) (i0 &&& (15 : Int32))  X0 e0 hcl hsl  
      have hv : (own_f2_32 i0 i1 i2 i3 i4 i5 i6) = (own_f2_81 i0 i1 i2 i3 i4 (3 : Int32) (i0 &&& (15 : Int32))) := by unfold own_f2_32; rw [if_neg hc36, if_pos hc43]
      exact ⟨T6, X6, e6, fun fs hr => pre5 _ (st6 fs (by rw [hv] at hr; exact hr))⟩
    · have pre7 : ∀ target, Steps p.tables e below (T0.setTop (mkF m 58 #[.val (.int i0), .val (.int i1), .val (.int i2), .val (.int i3), .val (.int i4), .val (.int i5), .val (.int i6), .unset, .unset, .unset] [])) target → Steps p.tables e below (T0.setTop (mkF m 32 #[.val (.int i0), .val (.int i1), .val (.int i2), .val (.int i3), .val (.int i4), .val (.int i5), .val (.int i6), .unset, .unset, .unset] [])) target := by
        intro target kt
        refine pre4 target ?_
        show Steps p.tables e below (T0.setTop (mkF m 43 #[.val (.int i0), .val (.int i1), .val (.int i2), .val (.int i3), .val (.int i4), .val (.int i5), .val (.int i6), .unset, .unset, .unset] [(.int (240 : Int32)), (.int i0)])) _
        refine XS.icmpYes X0.here hx rfl (pc0 := 43) (pc' := 58) rfl (hb hby d2_43) rfl (flt hc43).2.1 (by decide) (by decide) ?_
        exact kt
      obtain ⟨T8, X8, e8, st8⟩ := own_b2_58 hx hZ hw hby hml hown hret i0 i1 i2 i3 i4 i5 i6  X0 e0 hcl hsl  
      have hv : (own_f2_32 i0 i1 i2 i3 i4 i5 i6) = (own_f2_58 i0 i1 i2 i3 i4 i5 i6) := by unfold own_f2_32; rw [if_neg hc36, if_neg hc43]
      exact ⟨T8, X8, e8, fun fs hr => pre7 _ (st8 fs (by rw [hv] at hr; exact hr))⟩
set_option maxRecDepth 65536 in
set_option maxHeartbeats 40000000 in
theorem own_b2_0 {p : Program} {l : Launch} {e : Env} {s : State} {m : MethodId} {args : Array Value} {below : List Frame} {meth : Method} {c : Code} {Z : State} {a0_ : Array Value} (hx : p.tables.exec = Jvm.exec) (hZ : Z.Warmed39 s.vm) (hw : ∀ d ∈ tables_1, d.before a0_ Z = true) (hby : c.code = method_4_code) (hml : c.maxLocals = 10) (hown : s.vm.findClass "com/example/open_brace/openbrace/text/Utf8SequenceLengthPinLaw" = some m.cls) (hret : meth.sig.returnType = some .int) {T0 : State} {locs : List Loc} {cells slots : Nat} {h0 : Heap} (i0 : Int32) (i1 : Int32) (i2 : Int32) (i3 : Int32) (i4 : Int32)
    (X0 : Stand p l e ({ frames := 1, cells := 0, slots := 0, locals := 12 } : Room) s m args below meth c T0 locs cells slots) (e0 : T0.heap = h0) (hcl : cells ≤ ({ frames := 1, cells := 0, slots := 0, locals := 12 } : Room).cells) (hsl : slots ≤ ({ frames := 1, cells := 0, slots := 0, locals := 12 } : Room).slots)  :
    ∃ T', Stand p l e ({ frames := 1, cells := 0, slots := 0, locals := 12 } : Room) s m args below meth c T' locs cells slots ∧ T'.heap = h0 ∧ ∀ fs, (∀ (f : JFrame) (acts : List Action), f.method = m → f.locked = none → f.entered = [] → (doReturn e (T'.setTop f) acts (some (.int (own_f2_0 i0 i1 i2 i3 i4)))).1 = T'.setFrames fs) → Steps p.tables e below (T0.setTop (mkF m 0 #[.val (.int i0), .val (.int i1), .val (.int i2), .val (.int i3), .val (.int i4), .unset, .unset, .unset, .unset, .unset] [])) (T'.setFrames fs) := by
  have pre1 : ∀ target, Steps p.tables e below (T0.setTop (mkF m 10 #[.val (.int i0), .val (.int i1), .val (.int i2), .val (.int i3), .val (.int i4), .val (.int (0 : Int32)), .val (.int (0 : Int32)), .unset, .unset, .unset] [(.int (192 : Int32)), (.int i0)])) target → Steps p.tables e below (T0.setTop (mkF m 0 #[.val (.int i0), .val (.int i1), .val (.int i2), .val (.int i3), .val (.int i4), .unset, .unset, .unset, .unset, .unset] [])) target := by
    intro target kt
    show Steps p.tables e below (T0.setTop (mkF m 0 #[.val (.int i0), .val (.int i1), .val (.int i2), .val (.int i3), .val (.int i4), .unset, .unset, .unset, .unset, .unset] [])) _
    refine XS.iconst X0.here hx rfl (hb hby d2_0) ?_
    show Steps p.tables e below (T0.setTop (mkF m 1 #[.val (.int i0), .val (.int i1), .val (.int i2), .val (.int i3), .val (.int i4), .unset, .unset, .unset, .unset, .unset] [(.int (0 : Int32))])) _
    refine XS.istore X0.here hx rfl (hb hby d2_1) rfl (l' := #[.val (.int i0), .val (.int i1), .val (.int i2), .val (.int i3), .val (.int i4), .val (.int (0 : Int32)), .unset, .unset, .unset, .unset]) rfl ?_
    show Steps p.tables e below (T0.setTop (mkF m 3 #[.val (.int i0), .val (.int i1), .val (.int i2), .val (.int i3), .val (.int i4), .val (.int (0 : Int32)), .unset, .unset, .unset, .unset] [])) _
    refine XS.iconst X0.here hx rfl (hb hby d2_3) ?_
    show Steps p.tables e below (T0.setTop (mkF m 4 #[.val (.int i0), .val (.int i1), .val (.int i2), .val (.int i3), .val (.int i4), .val (.int (0 : Int32)), .unset, .unset, .unset, .unset] [(.int (0 : Int32))])) _
    refine XS.istore X0.here hx rfl (hb hby d2_4) rfl (l' := #[.val (.int i0), .val (.int i1), .val (.int i2), .val (.int i3), .val (.int i4), .val (.int (0 : Int32)), .val (.int (0 : Int32)), .unset, .unset, .unset]) rfl ?_
    show Steps p.tables e below (T0.setTop (mkF m 6 #[.val (.int i0), .val (.int i1), .val (.int i2), .val (.int i3), .val (.int i4), .val (.int (0 : Int32)), .val (.int (0 : Int32)), .unset, .unset, .unset] [])) _
    refine XS.iloadN X0.here hx rfl (hb hby d2_6) rfl ?_
    show Steps p.tables e below (T0.setTop (mkF m 7 #[.val (.int i0), .val (.int i1), .val (.int i2), .val (.int i3), .val (.int i4), .val (.int (0 : Int32)), .val (.int (0 : Int32)), .unset, .unset, .unset] [(.int i0)])) _
    refine XS.sipush X0.here hx rfl (hb hby d2_7) ?_
    exact kt
  by_cases hc10 : i0 < (192 : Int32)
  · have pre2 : ∀ target, Steps p.tables e below (T0.setTop (mkF m 32 #[.val (.int i0), .val (.int i1), .val (.int i2), .val (.int i3), .val (.int i4), .val (.int (0 : Int32)), .val (.int (0 : Int32)), .unset, .unset, .unset] [])) target → Steps p.tables e below (T0.setTop (mkF m 0 #[.val (.int i0), .val (.int i1), .val (.int i2), .val (.int i3), .val (.int i4), .unset, .unset, .unset, .unset, .unset] [])) target := by
      intro target kt
      refine pre1 target ?_
      show Steps p.tables e below (T0.setTop (mkF m 10 #[.val (.int i0), .val (.int i1), .val (.int i2), .val (.int i3), .val (.int i4), .val (.int (0 : Int32)), .val (.int (0 : Int32)), .unset, .unset, .unset] [(.int (192 : Int32)), (.int i0)])) _
      refine XS.icmpYes X0.here hx rfl (pc0 := 10) (pc' := 32) rfl (hb hby d2_10) rfl (tlt hc10).1 (by decide) (by decide) ?_
      exact kt
    obtain ⟨T3, X3, e3, st3⟩ := own_b2_32 hx hZ hw hby hml hown hret i0 i1 i2 i3 i4 (0 : Int32) (0 : Int32)  X0 e0 hcl hsl  
    have hv : (own_f2_0 i0 i1 i2 i3 i4) = (own_f2_32 i0 i1 i2 i3 i4 (0 : Int32) (0 : Int32)) := by unfold own_f2_0; rw [if_pos hc10]
    exact ⟨T3, X3, e3, fun fs hr => pre2 _ (st3 fs (by rw [hv] at hr; exact hr))⟩
  · have pre4 : ∀ target, Steps p.tables e below (T0.setTop (mkF m 17 #[.val (.int i0), .val (.int i1), .val (.int i2), .val (.int i3), .val (.int i4), .val (.int (0 : Int32)), .val (.int (0 : Int32)), .unset, .unset, .unset] [(.int (224 : Int32)), (.int i0)])) target → Steps p.tables e below (T0.setTop (mkF m 0 #[.val (.int i0), .val (.int i1), .val (.int i2), .val (.int i3), .val (.int i4), .unset, .unset, .unset, .unset, .unset] [])) target := by
      intro target kt
      refine pre1 target ?_
      show Steps p.tables e below (T0.setTop (mkF m 10 #[.val (.int i0), .val (.int i1), .val (.int i2), .val (.int i3), .val (.int i4), .val (.int (0 : Int32)), .val (.int (0 : Int32)), .unset, .unset, .unset] [(.int (192 : Int32)), (.int i0)])) _
      refine XS.icmpNo X0.here hx rfl (hb hby d2_10) rfl (flt hc10).1 ?_
      show Steps p.tables e below (T0.setTop (mkF m 13 #[.val (.int i0), .val (.int i1), .val (.int i2), .val (.int i3), .val (.int i4), .val (.int (0 : Int32)), .val (.int (0 : Int32)), .unset, .unset, .unset] [])) _
      refine XS.iloadN X0.here hx rfl (hb hby d2_13) rfl ?_
      show Steps p.tables e below (T0.setTop (mkF m 14 #[.val (.int i0), .val (.int i1), .val (.int i2), .val (.int i3), .val (.int i4), .val (.int (0 : Int32)), .val (.int (0 : Int32)), .unset, .unset, .unset] [(.int i0)])) _
      refine XS.sipush X0.here hx rfl (hb hby d2_14) ?_
      exact kt
    by_cases hc17 : i0 < (224 : Int32)
    · have pre5 : ∀ target, Steps p.tables e below (T0.setTop (mkF m 81 #[.val (.int i0), .val (.int i1), .val (.int i2), .val (.int i3), .val (.int i4), .val (.int (2 : Int32)), .val (.int (i0 &&& (31 : Int32))), .unset, .unset, .unset] [])) target → Steps p.tables e below (T0.setTop (mkF m 0 #[.val (.int i0), .val (.int i1), .val (.int i2), .val (.int i3), .val (.int i4), .unset, .unset, .unset, .unset, .unset] [])) target := by
        intro target kt
        refine pre4 target ?_
        show Steps p.tables e below (T0.setTop (mkF m 17 #[.val (.int i0), .val (.int i1), .val (.int i2), .val (.int i3), .val (.int i4), .val (.int (0 : Int32)), .val (.int (0 : Int32)), .unset, .unset, .unset] [(.int (224 : Int32)), (.int i0)])) _
        refine XS.icmpNo X0.here hx rfl (hb hby d2_17) rfl (tlt hc17).2.1 ?_
        show Steps p.tables e below (T0.setTop (mkF m 20 #[.val (.int i0), .val (.int i1), .val (.int i2), .val (.int i3), .val (.int i4), .val (.int (0 : Int32)), .val (.int (0 : Int32)), .unset, .unset, .unset] [])) _
        refine XS.iconst X0.here hx rfl (hb hby d2_20) ?_
        show Steps p.tables e below (T0.setTop (mkF m 21 #[.val (.int i0), .val (.int i1), .val (.int i2), .val (.int i3), .val (.int i4), .val (.int (0 : Int32)), .val (.int (0 : Int32)), .unset, .unset, .unset] [(.int (2 : Int32))])) _
        refine XS.istore X0.here hx rfl (hb hby d2_21) rfl (l' := #[.val (.int i0), .val (.int i1), .val (.int i2), .val (.int i3), .val (.int i4), .val (.int (2 : Int32)), .val (.int (0 : Int32)), .unset, .unset, .unset]) rfl ?_
        show Steps p.tables e below (T0.setTop (mkF m 23 #[.val (.int i0), .val (.int i1), .val (.int i2), .val (.int i3), .val (.int i4), .val (.int (2 : Int32)), .val (.int (0 : Int32)), .unset, .unset, .unset] [])) _
        refine XS.iloadN X0.here hx rfl (hb hby d2_23) rfl ?_
        show Steps p.tables e below (T0.setTop (mkF m 24 #[.val (.int i0), .val (.int i1), .val (.int i2), .val (.int i3), .val (.int i4), .val (.int (2 : Int32)), .val (.int (0 : Int32)), .unset, .unset, .unset] [(.int i0)])) _
        refine XS.bipush X0.here hx rfl (hb hby d2_24) ?_
        show Steps p.tables e below (T0.setTop (mkF m 26 #[.val (.int i0), .val (.int i1), .val (.int i2), .val (.int i3), .val (.int i4), .val (.int (2 : Int32)), .val (.int (0 : Int32)), .unset, .unset, .unset] [(.int (31 : Int32)), (.int i0)])) _
        refine XS.iand X0.here hx rfl (hb hby d2_26) rfl ?_
        show Steps p.tables e below (T0.setTop (mkF m 27 #[.val (.int i0), .val (.int i1), .val (.int i2), .val (.int i3), .val (.int i4), .val (.int (2 : Int32)), .val (.int (0 : Int32)), .unset, .unset, .unset] [(.int (i0 &&& (31 : Int32)))])) _
        refine XS.istore X0.here hx rfl (hb hby d2_27) rfl (l' := #[.val (.int i0), .val (.int i1), .val (.int i2), .val (.int i3), .val (.int i4), .val (.int (2 : Int32)), .val (.int (i0 &&& (31 : Int32))), .unset, .unset, .unset]) rfl ?_
        show Steps p.tables e below (T0.setTop (mkF m 29 #[.val (.int i0), .val (.int i1), .val (.int i2), .val (.int i3), .val (.int i4), .val (.int (2 : Int32)), .val (.int (i0 &&& (31 : Int32))), .unset, .unset, .unset] [])) _
        refine XS.goto X0.here hx rfl (pc0 := 29) (pc' := 81) rfl (hb hby d2_29) (by decide) (by decide) ?_
        exact kt
      obtain ⟨T6, X6, e6, st6⟩ := own_b2_81 hx hZ hw hby hml hown hret i0 i1 i2 i3 i4 (2 : Int32) (i0 &&& (31 : Int32))  X0 e0 hcl hsl  
      have hv : (own_f2_0 i0 i1 i2 i3 i4) = (own_f2_81 i0 i1 i2 i3 i4 (2 : Int32) (i0 &&& (31 : Int32))) := by unfold own_f2_0; rw [if_neg hc10, if_pos hc17]
      exact ⟨T6, X6, e6, fun fs hr => pre5 _ (st6 fs (by rw [hv] at hr; exact hr))⟩
    · have pre7 : ∀ target, Steps p.tables e below (T0.setTop (mkF m 32 #[.val (.int i0), .val (.int i1), .val (.int i2), .val (.int i3), .val (.int i4), .val (.int (0 : Int32)), .val (.int (0 : Int32)), .unset, .unset, .unset] [])) target → Steps p.tables e below (T0.setTop (mkF m 0 #[.val (.int i0), .val (.int i1), .val (.int i2), .val (.int i3), .val (.int i4), .unset, .unset, .unset, .unset, .unset] [])) target := by
        intro target kt
        refine pre4 target ?_
        show Steps p.tables e below (T0.setTop (mkF m 17 #[.val (.int i0), .val (.int i1), .val (.int i2), .val (.int i3), .val (.int i4), .val (.int (0 : Int32)), .val (.int (0 : Int32)), .unset, .unset, .unset] [(.int (224 : Int32)), (.int i0)])) _
        refine XS.icmpYes X0.here hx rfl (pc0 := 17) (pc' := 32) rfl (hb hby d2_17) rfl (flt hc17).2.1 (by decide) (by decide) ?_
        exact kt
      obtain ⟨T8, X8, e8, st8⟩ := own_b2_32 hx hZ hw hby hml hown hret i0 i1 i2 i3 i4 (0 : Int32) (0 : Int32)  X0 e0 hcl hsl  
      have hv : (own_f2_0 i0 i1 i2 i3 i4) = (own_f2_32 i0 i1 i2 i3 i4 (0 : Int32) (0 : Int32)) := by unfold own_f2_0; rw [if_neg hc10, if_neg hc17]
      exact ⟨T8, X8, e8, fun fs hr => pre7 _ (st8 fs (by rw [hv] at hr; exact hr))⟩
def Q2 (Z : State) (i0 : Int32) (i1 : Int32) (i2 : Int32) (i3 : Int32) (i4 : Int32) (h0 : Heap) (n0 : Nat) (v : Option Value) (h : Heap) (L : List Loc) : Prop := v = some (.int (own_f2_0 i0 i1 i2 i3 i4)) ∧ L = [] ∧ h = h0
set_option maxRecDepth 65536 in
set_option maxHeartbeats 40000000 in
theorem rm2 (l : Launch) (Z : State) (a0_ : Array Value) (hw : ∀ d ∈ tables_1, d.before a0_ Z = true) (ws : List Jvm.Cond) (i0 : Int32) (i1 : Int32) (i2 : Int32) (i3 : Int32) (i4 : Int32) (h0 : Heap) (n0 : Nat) (Z0 : n0 ≤ h0.size)  :
    MetFree l (⟨"com/example/open_brace/openbrace/text/Utf8SequenceLengthPinLaw", "expected", "(IIIII)I"⟩ : MethodName) (head1 (Jvm.Cond.code (⟨"com/example/open_brace/openbrace/text/Utf8SequenceLengthPinLaw", "expected", "(IIIII)I"⟩ : MethodName) method_4_code 10 (some .int) :: ws) ({ frames := 1, cells := 0, slots := 0, locals := 12 } : Room)) (fun a U => a = #[(.int i0), (.int i1), (.int i2), (.int i3), (.int i4)] ∧ Z.Warmed39 U.vm ∧ U.heap = h0) (fun _ _ _ _ _ => True) (fun _ U o U' => ∃ v L, o = .returned v ∧ Q2 Z i0 i1 i2 i3 i4 h0 n0 v U'.heap L ∧ FrameEnd U o U' L ({ frames := 1, cells := 0, slots := 0, locals := 12 } : Room).cells ({ frames := 1, cells := 0, slots := 0, locals := 12 } : Room).slots) := by
  refine MetFree.of_bodySF (plainFor_of_name pn_2) hisR ?_
  intro p e s m args below meth c s₁ Bd hml0 hP hK
  obtain ⟨rfl, hZ, hh⟩ := hP
  have hx := Bd.exec
  have hby := Bd.bytes
  have hml : c.maxLocals = 10 := hml0
  have hown : s.vm.findClass "com/example/open_brace/openbrace/text/Utf8SequenceLengthPinLaw" = some m.cls := findClass_of_methodNamed Bd.named
  have X0 : Stand p l e ({ frames := 1, cells := 0, slots := 0, locals := 12 } : Room) s m #[(.int i0), (.int i1), (.int i2), (.int i3), (.int i4)] below meth c s₁ [] 0 0 := Stand.of_body Bd
  have e0 : s₁.heap = h0 := by rw [← hh, Bd.state]; rfl
  obtain ⟨T', X', e', st'⟩ := own_b2_0 hx hZ hw hby hml hown Bd.returns  i0 i1 i2 i3 i4 X0 e0 (by decide) (by decide) 
  obtain ⟨fs, hr, hrun, hended, hW, hsame⟩ := X'.leave (v := some (.int (own_f2_0 i0 i1 i2 i3 i4))) (fun h => by rw [Bd.returns] at h; cases h)
  refine ⟨_, _, castTop (ef_2 m i0 i1 i2 i3 i4) (st' fs hr), hrun, hended, _, _, rfl, ?_, ⟨_, rfl⟩, hW, hsame.mono (by decide) (by decide)⟩
  exact ⟨rfl, rfl, e'⟩
theorem pn_0 : plainName "com/example/open_brace/openbrace/text/Utf8SequenceLengthPinLaw" = true := by first | (simp [plainName, overriddenIn]; done) | decide +kernel
theorem pd_0_0 : parseMethodDescriptor "([BII)I" = some ⟨[(.array .byte), .int, .int], some .int⟩ := by decide +kernel
theorem pd_0_1 : parseMethodDescriptor "(IIIII)I" = some ⟨[.int, .int, .int, .int, .int], some .int⟩ := by decide +kernel
theorem ef_0 (m : MethodId) (i0 : Int32) (i1 : Int32) (i2 : Int32) (i3 : Int32) (i4 : Int32) (i5 : Int32) : entryFrame m #[(.int i0), (.int i1), (.int i2), (.int i3), (.int i4), (.int i5)] maxLocals = mkF m 0 #[.val (.int i0), .val (.int i1), .val (.int i2), .val (.int i3), .val (.int i4), .val (.int i5), .unset, .unset, .unset, .unset, .unset] [] := by first | (simp [entryFrame, mkF, argsToLocals, Value.category, maxLocals]; done) | rfl
def own_f0_0 (i0 : Int32) (i1 : Int32) (i2 : Int32) (i3 : Int32) (i4 : Int32) (i5 : Int32) : Int32 :=
  (if (own_f1_0 (i5 &&& (1 : Int32)) ((i5 &&& (1 : Int32)) + ((((i5.toUInt32 >>> ((1 : Int32) &&& 31).toUInt32).toInt32) &&& (2147483647 : Int32)) - ((((i5.toUInt32 >>> ((1 : Int32) &&& 31).toUInt32).toInt32) &&& (2147483647 : Int32)) / (5 : Int32)) * (5 : Int32))) (5 : Int32) (own_up (own_up (own_up (own_up (own_up (own_up (fun _ => 0) (0 : Int32).toNatClampNeg ((i4.toInt8.toInt32).toInt8.toInt32)) (4 : Int32).toNatClampNeg ((i4.toInt8.toInt32).toInt8.toInt32)) (i5 &&& (1 : Int32)).toNatClampNeg ((i0.toInt8.toInt32).toInt8.toInt32)) ((i5 &&& (1 : Int32)) + (1 : Int32)).toNatClampNeg ((i1.toInt8.toInt32).toInt8.toInt32)) ((i5 &&& (1 : Int32)) + (2 : Int32)).toNatClampNeg ((i2.toInt8.toInt32).toInt8.toInt32)) ((i5 &&& (1 : Int32)) + (3 : Int32)).toNatClampNeg ((i3.toInt8.toInt32).toInt8.toInt32))) = (own_f2_0 (i0 &&& (255 : Int32)) (i1 &&& (255 : Int32)) (i2 &&& (255 : Int32)) (i3 &&& (255 : Int32)) ((((i5.toUInt32 >>> ((1 : Int32) &&& 31).toUInt32).toInt32) &&& (2147483647 : Int32)) - ((((i5.toUInt32 >>> ((1 : Int32) &&& 31).toUInt32).toInt32) &&& (2147483647 : Int32)) / (5 : Int32)) * (5 : Int32))) then (1 : Int32) else (0 : Int32))
set_option maxRecDepth 65536 in
set_option maxHeartbeats 40000000 in
theorem own_b0_0 {p : Program} {l : Launch} {e : Env} {s : State} {m : MethodId} {args : Array Value} {below : List Frame} {meth : Method} {c : Code} {Z : State} {a0_ : Array Value} {n0 : Nat} (hx : p.tables.exec = Jvm.exec) (hZ : Z.Warmed39 s.vm) (hw : ∀ d ∈ tables_1, d.before a0_ Z = true) (hby : c.code = code) (hml : c.maxLocals = 11) (hown : s.vm.findClass "com/example/open_brace/openbrace/text/Utf8SequenceLengthPinLaw" = some m.cls) (hret : meth.sig.returnType = some .boolean) {T0 : State} {locs : List Loc} {h0 : Heap} (i0 : Int32) (i1 : Int32) (i2 : Int32) (i3 : Int32) (i4 : Int32) (i5 : Int32)
    (X0 : Stand p l e room_1 s m args below meth c T0 locs 0 0) (e0 : T0.heap = h0) (N0 : Fr n0 locs) (Z0 : n0 ≤ h0.size)  :
    ∃ T' locs' cells' slots', Stand p l e room_1 s m args below meth c T' locs' cells' slots' ∧ Fr n0 locs' ∧ cells' ≤ room_1.cells ∧ slots' ≤ room_1.slots ∧ ∀ fs, (∀ (f : JFrame) (acts : List Action), f.method = m → f.locked = none → f.entered = [] → (doReturn e (T'.setTop f) acts (some (.int (own_f0_0 i0 i1 i2 i3 i4 i5)))).1 = T'.setFrames fs) → Steps p.tables e below (T0.setTop (mkF m 0 #[.val (.int i0), .val (.int i1), .val (.int i2), .val (.int i3), .val (.int i4), .val (.int i5), .unset, .unset, .unset, .unset, .unset] [])) (T'.setFrames fs) := by
  obtain ⟨T1, h1, k1, X1, e1, E1, A1, st1⟩ := newP X0 hx hZ (hw _ (List.mem_of_getElem? (i := 1) rfl)) e0 (g := (mkF m 18 #[.val (.int i0), .val (.int i1), .val (.int i2), .val (.int i3), .val (.int i4), .val (.int i5), .val (.int (i5 &&& (1 : Int32))), .val (.int ((((i5.toUInt32 >>> ((1 : Int32) &&& 31).toUInt32).toInt32) &&& (2147483647 : Int32)) - ((((i5.toUInt32 >>> ((1 : Int32) &&& 31).toUInt32).toInt32) &&& (2147483647 : Int32)) / (5 : Int32)) * (5 : Int32))), .unset, .unset, .unset] [(.int (5 : Int32))])) rfl (hb hby at_18) rfl (by decide) (cap := 5) (by decide) (by decide) (by decide) (by decide)
  obtain ⟨b1, g1⟩ : ∃ z, z = h0.size := ⟨_, rfl⟩
  rw [← g1] at A1 st1
  have g_b1 : n0 ≤ b1 := Nat.le_trans Z0 (Nat.le_of_eq g1.symm)
  have Z1 : n0 ≤ h1.size := Nat.le_trans Z0 E1.1
  have V_b1 : own_Ar Z h1 b1 .byte (5 : Int32) (fun _ => 0) := own_Ar.new A1 (by decide) rfl
  obtain ⟨T2, h2, X2, e2, W2, V2, st2⟩ := own_stB X1 hx hZ e1 V_b1 ⟨by decide, by decide⟩ (g := (mkF m 28 #[.val (.int i0), .val (.int i1), .val (.int i2), .val (.int i3), .val (.int i4), .val (.int i5), .val (.int (i5 &&& (1 : Int32))), .val (.int ((((i5.toUInt32 >>> ((1 : Int32) &&& 31).toUInt32).toInt32) &&& (2147483647 : Int32)) - ((((i5.toUInt32 >>> ((1 : Int32) &&& 31).toUInt32).toInt32) &&& (2147483647 : Int32)) / (5 : Int32)) * (5 : Int32))), .val (.ref b1), .unset, .unset] [(.int (i4.toInt8.toInt32)), (.int (0 : Int32)), (.ref b1)])) rfl rfl (hb hby at_28)
  have N2 := Fr.snoc X2 N0 g_b1
  have Z2 : n0 ≤ h2.size := Nat.le_trans Z1 (Keep.of_wr W2).1
  have V_b1_k2 := V2
  obtain ⟨T3, h3, X3, e3, W3, V3, st3⟩ := own_stB X2 hx hZ e2 V_b1_k2 ⟨by decide, by decide⟩ (g := (mkF m 35 #[.val (.int i0), .val (.int i1), .val (.int i2), .val (.int i3), .val (.int i4), .val (.int i5), .val (.int (i5 &&& (1 : Int32))), .val (.int ((((i5.toUInt32 >>> ((1 : Int32) &&& 31).toUInt32).toInt32) &&& (2147483647 : Int32)) - ((((i5.toUInt32 >>> ((1 : Int32) &&& 31).toUInt32).toInt32) &&& (2147483647 : Int32)) / (5 : Int32)) * (5 : Int32))), .val (.ref b1), .unset, .unset] [(.int (i4.toInt8.toInt32)), (.int (4 : Int32)), (.ref b1)])) rfl rfl (hb hby at_35)
  have N3 := Fr.snoc X3 N2 g_b1
  have Z3 : n0 ≤ h3.size := Nat.le_trans Z2 (Keep.of_wr W3).1
  have V_b1_k3 := V3
  have hix42 : ¬ (i5 &&& (1 : Int32)) < 0 ∧ (i5 &&& (1 : Int32)) < (5 : Int32) := by exact own_lx0 _
  obtain ⟨T4, h4, X4, e4, W4, V4, st4⟩ := own_stB X3 hx hZ e3 V_b1_k3 hix42 (g := (mkF m 42 #[.val (.int i0), .val (.int i1), .val (.int i2), .val (.int i3), .val (.int i4), .val (.int i5), .val (.int (i5 &&& (1 : Int32))), .val (.int ((((i5.toUInt32 >>> ((1 : Int32) &&& 31).toUInt32).toInt32) &&& (2147483647 : Int32)) - ((((i5.toUInt32 >>> ((1 : Int32) &&& 31).toUInt32).toInt32) &&& (2147483647 : Int32)) / (5 : Int32)) * (5 : Int32))), .val (.ref b1), .unset, .unset] [(.int (i0.toInt8.toInt32)), (.int (i5 &&& (1 : Int32))), (.ref b1)])) rfl rfl (hb hby at_42)
  have N4 := Fr.snoc X4 N3 g_b1
  have Z4 : n0 ≤ h4.size := Nat.le_trans Z3 (Keep.of_wr W4).1
  have V_b1_k4 := V4
  have hix51 : ¬ ((i5 &&& (1 : Int32)) + (1 : Int32)) < 0 ∧ ((i5 &&& (1 : Int32)) + (1 : Int32)) < (5 : Int32) := by exact own_lx1 _
  obtain ⟨T5, h5, X5, e5, W5, V5, st5⟩ := own_stB X4 hx hZ e4 V_b1_k4 hix51 (g := (mkF m 51 #[.val (.int i0), .val (.int i1), .val (.int i2), .val (.int i3), .val (.int i4), .val (.int i5), .val (.int (i5 &&& (1 : Int32))), .val (.int ((((i5.toUInt32 >>> ((1 : Int32) &&& 31).toUInt32).toInt32) &&& (2147483647 : Int32)) - ((((i5.toUInt32 >>> ((1 : Int32) &&& 31).toUInt32).toInt32) &&& (2147483647 : Int32)) / (5 : Int32)) * (5 : Int32))), .val (.ref b1), .unset, .unset] [(.int (i1.toInt8.toInt32)), (.int ((i5 &&& (1 : Int32)) + (1 : Int32))), (.ref b1)])) rfl rfl (hb hby at_51)
  have N5 := Fr.snoc X5 N4 g_b1
  have Z5 : n0 ≤ h5.size := Nat.le_trans Z4 (Keep.of_wr W5).1
  have V_b1_k5 := V5
  have hix60 : ¬ ((i5 &&& (1 : Int32)) + (2 : Int32)) < 0 ∧ ((i5 &&& (1 : Int32)) + (2 : Int32)) < (5 : Int32) := by exact own_lx2 _
  obtain ⟨T6, h6, X6, e6, W6, V6, st6⟩ := own_stB X5 hx hZ e5 V_b1_k5 hix60 (g := (mkF m 60 #[.val (.int i0), .val (.int i1), .val (.int i2), .val (.int i3), .val (.int i4), .val (.int i5), .val (.int (i5 &&& (1 : Int32))), .val (.int ((((i5.toUInt32 >>> ((1 : Int32) &&& 31).toUInt32).toInt32) &&& (2147483647 : Int32)) - ((((i5.toUInt32 >>> ((1 : Int32) &&& 31).toUInt32).toInt32) &&& (2147483647 : Int32)) / (5 : Int32)) * (5 : Int32))), .val (.ref b1), .unset, .unset] [(.int (i2.toInt8.toInt32)), (.int ((i5 &&& (1 : Int32)) + (2 : Int32))), (.ref b1)])) rfl rfl (hb hby at_60)
  have N6 := Fr.snoc X6 N5 g_b1
  have Z6 : n0 ≤ h6.size := Nat.le_trans Z5 (Keep.of_wr W6).1
  have V_b1_k6 := V6
  have hix69 : ¬ ((i5 &&& (1 : Int32)) + (3 : Int32)) < 0 ∧ ((i5 &&& (1 : Int32)) + (3 : Int32)) < (5 : Int32) := by exact own_lx3 _
  obtain ⟨T7, h7, X7, e7, W7, V7, st7⟩ := own_stB X6 hx hZ e6 V_b1_k6 hix69 (g := (mkF m 69 #[.val (.int i0), .val (.int i1), .val (.int i2), .val (.int i3), .val (.int i4), .val (.int i5), .val (.int (i5 &&& (1 : Int32))), .val (.int ((((i5.toUInt32 >>> ((1 : Int32) &&& 31).toUInt32).toInt32) &&& (2147483647 : Int32)) - ((((i5.toUInt32 >>> ((1 : Int32) &&& 31).toUInt32).toInt32) &&& (2147483647 : Int32)) / (5 : Int32)) * (5 : Int32))), .val (.ref b1), .unset, .unset] [(.int (i3.toInt8.toInt32)), (.int ((i5 &&& (1 : Int32)) + (3 : Int32))), (.ref b1)])) rfl rfl (hb hby at_69)
  have N7 := Fr.snoc X7 N6 g_b1
  have Z7 : n0 ≤ h7.size := Nat.le_trans Z6 (Keep.of_wr W7).1
  have V_b1_k7 := V7
  have hJ8 : (5 : Int32) = 5 ∧ ((i5 &&& (1 : Int32)) = 0 ∨ (i5 &&& (1 : Int32)) = 1) := by exact own_lc _
  obtain ⟨_, _, ⟨T8, L8, k8, n8⟩, -, X8, ⟨Lc8, hQ8, l8, y8, z8⟩, st8⟩ := Jvm.LawKit.callS X7 hx (y := (⟨"com/example/open_brace/openbrace/text/Utf8", "sequenceLength", "([BII)I"⟩ : MethodName)) hown (mvT hZ (hw _ (List.mem_of_getElem? (i := 2) rfl))) (mvT hZ (hw _ (List.mem_of_getElem? (i := 3) rfl))) (mvT hZ (hw _ (List.mem_of_getElem? (i := 4) rfl))) (mvT hZ (hw _ (List.mem_of_getElem? (i := 5) rfl))) (by decide) (backOf (W := 0) (rm1 l Z a0_ hw [] b1 (i5 &&& (1 : Int32)) ((i5 &&& (1 : Int32)) + ((((i5.toUInt32 >>> ((1 : Int32) &&& 31).toUInt32).toInt32) &&& (2147483647 : Int32)) - ((((i5.toUInt32 >>> ((1 : Int32) &&& 31).toUInt32).toInt32) &&& (2147483647 : Int32)) / (5 : Int32)) * (5 : Int32))) (5 : Int32) (own_up (own_up (own_up (own_up (own_up (own_up (fun _ => 0) (0 : Int32).toNatClampNeg ((i4.toInt8.toInt32).toInt8.toInt32)) (4 : Int32).toNatClampNeg ((i4.toInt8.toInt32).toInt8.toInt32)) (i5 &&& (1 : Int32)).toNatClampNeg ((i0.toInt8.toInt32).toInt8.toInt32)) ((i5 &&& (1 : Int32)) + (1 : Int32)).toNatClampNeg ((i1.toInt8.toInt32).toInt8.toInt32)) ((i5 &&& (1 : Int32)) + (2 : Int32)).toNatClampNeg ((i2.toInt8.toInt32).toInt8.toInt32)) ((i5 &&& (1 : Int32)) + (3 : Int32)).toNatClampNeg ((i3.toInt8.toInt32).toInt8.toInt32)) h7 n0 Z7 V_b1_k7 hJ8) hZ (hw _ (List.mem_of_getElem? (i := 5) rfl)) (hw _ (List.mem_of_getElem? (i := 4) rfl)) (by decide) (by decide)) (g := (mkF m 83 #[.val (.int i0), .val (.int i1), .val (.int i2), .val (.int i3), .val (.int i4), .val (.int i5), .val (.int (i5 &&& (1 : Int32))), .val (.int ((((i5.toUInt32 >>> ((1 : Int32) &&& 31).toUInt32).toInt32) &&& (2147483647 : Int32)) - ((((i5.toUInt32 >>> ((1 : Int32) &&& 31).toUInt32).toInt32) &&& (2147483647 : Int32)) / (5 : Int32)) * (5 : Int32))), .val (.ref b1), .val (.int ((i5 &&& (1 : Int32)) + ((((i5.toUInt32 >>> ((1 : Int32) &&& 31).toUInt32).toInt32) &&& (2147483647 : Int32)) - ((((i5.toUInt32 >>> ((1 : Int32) &&& 31).toUInt32).toInt32) &&& (2147483647 : Int32)) / (5 : Int32)) * (5 : Int32)))), .unset] [(.int ((i5 &&& (1 : Int32)) + ((((i5.toUInt32 >>> ((1 : Int32) &&& 31).toUInt32).toInt32) &&& (2147483647 : Int32)) - ((((i5.toUInt32 >>> ((1 : Int32) &&& 31).toUInt32).toInt32) &&& (2147483647 : Int32)) / (5 : Int32)) * (5 : Int32)))), (.int (i5 &&& (1 : Int32))), (.ref b1)])) rfl (by rw [hml]; rfl) (argsL := [(.ref b1), (.int (i5 &&& (1 : Int32))), (.int ((i5 &&& (1 : Int32)) + ((((i5.toUInt32 >>> ((1 : Int32) &&& 31).toUInt32).toInt32) &&& (2147483647 : Int32)) - ((((i5.toUInt32 >>> ((1 : Int32) &&& 31).toUInt32).toInt32) &&& (2147483647 : Int32)) / (5 : Int32)) * (5 : Int32))))]) (rest := []) (lenOf pd_0_0 rfl) rfl (by show 2 * 0 + _ ≤ _; exact Nat.le_of_eq rfl) (hb hby at_83) (fun _ _ => ⟨rfl, e7, (by decide : 1 + 0 ≤ room_1.cells), (by decide : 5 + 0 ≤ room_1.slots)⟩)
  dsimp only [Pt.U, Pt.locs, Pt.cells, Pt.slots] at X8 l8 y8 z8 st8 hQ8
  subst l8 y8 z8
  obtain ⟨rfl, rfl, e8⟩ := hQ8
  rw [List.append_nil] at X8
  obtain ⟨_, _, ⟨T9, L9, k9, n9⟩, -, X9, ⟨Lc9, hQ9, l9, y9, z9⟩, st9⟩ := Jvm.LawKit.callS X8 hx (y := (⟨"com/example/open_brace/openbrace/text/Utf8SequenceLengthPinLaw", "expected", "(IIIII)I"⟩ : MethodName)) hown (mvT hZ (hw _ (List.mem_of_getElem? (i := 6) rfl))) (mvT hZ (hw _ (List.mem_of_getElem? (i := 7) rfl))) (mvT hZ (hw _ (List.mem_of_getElem? (i := 8) rfl))) (mvT hZ (hw _ (List.mem_of_getElem? (i := 9) rfl))) (by decide) (backOf (W := 1) (rm2 l Z a0_ hw [] (i0 &&& (255 : Int32)) (i1 &&& (255 : Int32)) (i2 &&& (255 : Int32)) (i3 &&& (255 : Int32)) ((((i5.toUInt32 >>> ((1 : Int32) &&& 31).toUInt32).toInt32) &&& (2147483647 : Int32)) - ((((i5.toUInt32 >>> ((1 : Int32) &&& 31).toUInt32).toInt32) &&& (2147483647 : Int32)) / (5 : Int32)) * (5 : Int32))  h7 n0 Z7 ) hZ (hw _ (List.mem_of_getElem? (i := 9) rfl)) (hw _ (List.mem_of_getElem? (i := 8) rfl)) (by decide) (by decide)) (g := (mkF m 112 #[.val (.int i0), .val (.int i1), .val (.int i2), .val (.int i3), .val (.int i4), .val (.int i5), .val (.int (i5 &&& (1 : Int32))), .val (.int ((((i5.toUInt32 >>> ((1 : Int32) &&& 31).toUInt32).toInt32) &&& (2147483647 : Int32)) - ((((i5.toUInt32 >>> ((1 : Int32) &&& 31).toUInt32).toInt32) &&& (2147483647 : Int32)) / (5 : Int32)) * (5 : Int32))), .val (.ref b1), .val (.int ((i5 &&& (1 : Int32)) + ((((i5.toUInt32 >>> ((1 : Int32) &&& 31).toUInt32).toInt32) &&& (2147483647 : Int32)) - ((((i5.toUInt32 >>> ((1 : Int32) &&& 31).toUInt32).toInt32) &&& (2147483647 : Int32)) / (5 : Int32)) * (5 : Int32)))), .val (.int (own_f1_0 (i5 &&& (1 : Int32)) ((i5 &&& (1 : Int32)) + ((((i5.toUInt32 >>> ((1 : Int32) &&& 31).toUInt32).toInt32) &&& (2147483647 : Int32)) - ((((i5.toUInt32 >>> ((1 : Int32) &&& 31).toUInt32).toInt32) &&& (2147483647 : Int32)) / (5 : Int32)) * (5 : Int32))) (5 : Int32) (own_up (own_up (own_up (own_up (own_up (own_up (fun _ => 0) (0 : Int32).toNatClampNeg ((i4.toInt8.toInt32).toInt8.toInt32)) (4 : Int32).toNatClampNeg ((i4.toInt8.toInt32).toInt8.toInt32)) (i5 &&& (1 : Int32)).toNatClampNeg ((i0.toInt8.toInt32).toInt8.toInt32)) ((i5 &&& (1 : Int32)) + (1 : Int32)).toNatClampNeg ((i1.toInt8.toInt32).toInt8.toInt32)) ((i5 &&& (1 : Int32)) + (2 : Int32)).toNatClampNeg ((i2.toInt8.toInt32).toInt8.toInt32)) ((i5 &&& (1 : Int32)) + (3 : Int32)).toNatClampNeg ((i3.toInt8.toInt32).toInt8.toInt32))))] [(.int ((((i5.toUInt32 >>> ((1 : Int32) &&& 31).toUInt32).toInt32) &&& (2147483647 : Int32)) - ((((i5.toUInt32 >>> ((1 : Int32) &&& 31).toUInt32).toInt32) &&& (2147483647 : Int32)) / (5 : Int32)) * (5 : Int32))), (.int (i3 &&& (255 : Int32))), (.int (i2 &&& (255 : Int32))), (.int (i1 &&& (255 : Int32))), (.int (i0 &&& (255 : Int32))), (.int (own_f1_0 (i5 &&& (1 : Int32)) ((i5 &&& (1 : Int32)) + ((((i5.toUInt32 >>> ((1 : Int32) &&& 31).toUInt32).toInt32) &&& (2147483647 : Int32)) - ((((i5.toUInt32 >>> ((1 : Int32) &&& 31).toUInt32).toInt32) &&& (2147483647 : Int32)) / (5 : Int32)) * (5 : Int32))) (5 : Int32) (own_up (own_up (own_up (own_up (own_up (own_up (fun _ => 0) (0 : Int32).toNatClampNeg ((i4.toInt8.toInt32).toInt8.toInt32)) (4 : Int32).toNatClampNeg ((i4.toInt8.toInt32).toInt8.toInt32)) (i5 &&& (1 : Int32)).toNatClampNeg ((i0.toInt8.toInt32).toInt8.toInt32)) ((i5 &&& (1 : Int32)) + (1 : Int32)).toNatClampNeg ((i1.toInt8.toInt32).toInt8.toInt32)) ((i5 &&& (1 : Int32)) + (2 : Int32)).toNatClampNeg ((i2.toInt8.toInt32).toInt8.toInt32)) ((i5 &&& (1 : Int32)) + (3 : Int32)).toNatClampNeg ((i3.toInt8.toInt32).toInt8.toInt32))))])) rfl (by rw [hml]; rfl) (argsL := [(.int (i0 &&& (255 : Int32))), (.int (i1 &&& (255 : Int32))), (.int (i2 &&& (255 : Int32))), (.int (i3 &&& (255 : Int32))), (.int ((((i5.toUInt32 >>> ((1 : Int32) &&& 31).toUInt32).toInt32) &&& (2147483647 : Int32)) - ((((i5.toUInt32 >>> ((1 : Int32) &&& 31).toUInt32).toInt32) &&& (2147483647 : Int32)) / (5 : Int32)) * (5 : Int32)))]) (rest := [(.int (own_f1_0 (i5 &&& (1 : Int32)) ((i5 &&& (1 : Int32)) + ((((i5.toUInt32 >>> ((1 : Int32) &&& 31).toUInt32).toInt32) &&& (2147483647 : Int32)) - ((((i5.toUInt32 >>> ((1 : Int32) &&& 31).toUInt32).toInt32) &&& (2147483647 : Int32)) / (5 : Int32)) * (5 : Int32))) (5 : Int32) (own_up (own_up (own_up (own_up (own_up (own_up (fun _ => 0) (0 : Int32).toNatClampNeg ((i4.toInt8.toInt32).toInt8.toInt32)) (4 : Int32).toNatClampNeg ((i4.toInt8.toInt32).toInt8.toInt32)) (i5 &&& (1 : Int32)).toNatClampNeg ((i0.toInt8.toInt32).toInt8.toInt32)) ((i5 &&& (1 : Int32)) + (1 : Int32)).toNatClampNeg ((i1.toInt8.toInt32).toInt8.toInt32)) ((i5 &&& (1 : Int32)) + (2 : Int32)).toNatClampNeg ((i2.toInt8.toInt32).toInt8.toInt32)) ((i5 &&& (1 : Int32)) + (3 : Int32)).toNatClampNeg ((i3.toInt8.toInt32).toInt8.toInt32))))]) (lenOf pd_0_1 rfl) rfl (by show 2 * 0 + _ ≤ _; exact Nat.le_of_eq rfl) (hb hby at_112) (fun _ _ => ⟨rfl, e8, (by decide : 1 + 0 ≤ room_1.cells), (by decide : 5 + 0 ≤ room_1.slots)⟩)
  dsimp only [Pt.U, Pt.locs, Pt.cells, Pt.slots] at X9 l9 y9 z9 st9 hQ9
  subst l9 y9 z9
  obtain ⟨rfl, rfl, e9⟩ := hQ9
  rw [List.append_nil] at X9
  have pre10 : ∀ target, Steps p.tables e below (T9.setTop (mkF m 115 #[.val (.int i0), .val (.int i1), .val (.int i2), .val (.int i3), .val (.int i4), .val (.int i5), .val (.int (i5 &&& (1 : Int32))), .val (.int ((((i5.toUInt32 >>> ((1 : Int32) &&& 31).toUInt32).toInt32) &&& (2147483647 : Int32)) - ((((i5.toUInt32 >>> ((1 : Int32) &&& 31).toUInt32).toInt32) &&& (2147483647 : Int32)) / (5 : Int32)) * (5 : Int32))), .val (.ref b1), .val (.int ((i5 &&& (1 : Int32)) + ((((i5.toUInt32 >>> ((1 : Int32) &&& 31).toUInt32).toInt32) &&& (2147483647 : Int32)) - ((((i5.toUInt32 >>> ((1 : Int32) &&& 31).toUInt32).toInt32) &&& (2147483647 : Int32)) / (5 : Int32)) * (5 : Int32)))), .val (.int (own_f1_0 (i5 &&& (1 : Int32)) ((i5 &&& (1 : Int32)) + ((((i5.toUInt32 >>> ((1 : Int32) &&& 31).toUInt32).toInt32) &&& (2147483647 : Int32)) - ((((i5.toUInt32 >>> ((1 : Int32) &&& 31).toUInt32).toInt32) &&& (2147483647 : Int32)) / (5 : Int32)) * (5 : Int32))) (5 : Int32) (own_up (own_up (own_up (own_up (own_up (own_up (fun _ => 0) (0 : Int32).toNatClampNeg ((i4.toInt8.toInt32).toInt8.toInt32)) (4 : Int32).toNatClampNeg ((i4.toInt8.toInt32).toInt8.toInt32)) (i5 &&& (1 : Int32)).toNatClampNeg ((i0.toInt8.toInt32).toInt8.toInt32)) ((i5 &&& (1 : Int32)) + (1 : Int32)).toNatClampNeg ((i1.toInt8.toInt32).toInt8.toInt32)) ((i5 &&& (1 : Int32)) + (2 : Int32)).toNatClampNeg ((i2.toInt8.toInt32).toInt8.toInt32)) ((i5 &&& (1 : Int32)) + (3 : Int32)).toNatClampNeg ((i3.toInt8.toInt32).toInt8.toInt32))))] [(.int (own_f2_0 (i0 &&& (255 : Int32)) (i1 &&& (255 : Int32)) (i2 &&& (255 : Int32)) (i3 &&& (255 : Int32)) ((((i5.toUInt32 >>> ((1 : Int32) &&& 31).toUInt32).toInt32) &&& (2147483647 : Int32)) - ((((i5.toUInt32 >>> ((1 : Int32) &&& 31).toUInt32).toInt32) &&& (2147483647 : Int32)) / (5 : Int32)) * (5 : Int32)))), (.int (own_f1_0 (i5 &&& (1 : Int32)) ((i5 &&& (1 : Int32)) + ((((i5.toUInt32 >>> ((1 : Int32) &&& 31).toUInt32).toInt32) &&& (2147483647 : Int32)) - ((((i5.toUInt32 >>> ((1 : Int32) &&& 31).toUInt32).toInt32) &&& (2147483647 : Int32)) / (5 : Int32)) * (5 : Int32))) (5 : Int32) (own_up (own_up (own_up (own_up (own_up (own_up (fun _ => 0) (0 : Int32).toNatClampNeg ((i4.toInt8.toInt32).toInt8.toInt32)) (4 : Int32).toNatClampNeg ((i4.toInt8.toInt32).toInt8.toInt32)) (i5 &&& (1 : Int32)).toNatClampNeg ((i0.toInt8.toInt32).toInt8.toInt32)) ((i5 &&& (1 : Int32)) + (1 : Int32)).toNatClampNeg ((i1.toInt8.toInt32).toInt8.toInt32)) ((i5 &&& (1 : Int32)) + (2 : Int32)).toNatClampNeg ((i2.toInt8.toInt32).toInt8.toInt32)) ((i5 &&& (1 : Int32)) + (3 : Int32)).toNatClampNeg ((i3.toInt8.toInt32).toInt8.toInt32))))])) target → Steps p.tables e below (T0.setTop (mkF m 0 #[.val (.int i0), .val (.int i1), .val (.int i2), .val (.int i3), .val (.int i4), .val (.int i5), .unset, .unset, .unset, .unset, .unset] [])) target := by
    intro target kt
    show Steps p.tables e below (T0.setTop (mkF m 0 #[.val (.int i0), .val (.int i1), .val (.int i2), .val (.int i3), .val (.int i4), .val (.int i5), .unset, .unset, .unset, .unset, .unset] [])) _
    refine XS.iload X0.here hx rfl (hb hby at_0) rfl ?_
    show Steps p.tables e below (T0.setTop (mkF m 2 #[.val (.int i0), .val (.int i1), .val (.int i2), .val (.int i3), .val (.int i4), .val (.int i5), .unset, .unset, .unset, .unset, .unset] [(.int i5)])) _
    refine XS.iconst X0.here hx rfl (hb hby at_2) ?_
    show Steps p.tables e below (T0.setTop (mkF m 3 #[.val (.int i0), .val (.int i1), .val (.int i2), .val (.int i3), .val (.int i4), .val (.int i5), .unset, .unset, .unset, .unset, .unset] [(.int (1 : Int32)), (.int i5)])) _
    refine XS.iand X0.here hx rfl (hb hby at_3) rfl ?_
    show Steps p.tables e below (T0.setTop (mkF m 4 #[.val (.int i0), .val (.int i1), .val (.int i2), .val (.int i3), .val (.int i4), .val (.int i5), .unset, .unset, .unset, .unset, .unset] [(.int (i5 &&& (1 : Int32)))])) _
    refine XS.istore X0.here hx rfl (hb hby at_4) rfl (l' := #[.val (.int i0), .val (.int i1), .val (.int i2), .val (.int i3), .val (.int i4), .val (.int i5), .val (.int (i5 &&& (1 : Int32))), .unset, .unset, .unset, .unset]) rfl ?_
    show Steps p.tables e below (T0.setTop (mkF m 6 #[.val (.int i0), .val (.int i1), .val (.int i2), .val (.int i3), .val (.int i4), .val (.int i5), .val (.int (i5 &&& (1 : Int32))), .unset, .unset, .unset, .unset] [])) _
    refine XS.iload X0.here hx rfl (hb hby at_6) rfl ?_
    show Steps p.tables e below (T0.setTop (mkF m 8 #[.val (.int i0), .val (.int i1), .val (.int i2), .val (.int i3), .val (.int i4), .val (.int i5), .val (.int (i5 &&& (1 : Int32))), .unset, .unset, .unset, .unset] [(.int i5)])) _
    refine XS.iconst X0.here hx rfl (hb hby at_8) ?_
    show Steps p.tables e below (T0.setTop (mkF m 9 #[.val (.int i0), .val (.int i1), .val (.int i2), .val (.int i3), .val (.int i4), .val (.int i5), .val (.int (i5 &&& (1 : Int32))), .unset, .unset, .unset, .unset] [(.int (1 : Int32)), (.int i5)])) _
    refine XS.iushr X0.here hx rfl (hb hby at_9) rfl ?_
    show Steps p.tables e below (T0.setTop (mkF m 10 #[.val (.int i0), .val (.int i1), .val (.int i2), .val (.int i3), .val (.int i4), .val (.int i5), .val (.int (i5 &&& (1 : Int32))), .unset, .unset, .unset, .unset] [(.int ((i5.toUInt32 >>> ((1 : Int32) &&& 31).toUInt32).toInt32))])) _
    refine X0.ldcInt hx hown (mvT hZ (hw _ (List.mem_of_getElem? (i := 0) rfl))) (g := (mkF m 10 #[.val (.int i0), .val (.int i1), .val (.int i2), .val (.int i3), .val (.int i4), .val (.int i5), .val (.int (i5 &&& (1 : Int32))), .unset, .unset, .unset, .unset] [(.int ((i5.toUInt32 >>> ((1 : Int32) &&& 31).toUInt32).toInt32))])) rfl (hb hby at_10) _ ?_
    show Steps p.tables e below (T0.setTop (mkF m 12 #[.val (.int i0), .val (.int i1), .val (.int i2), .val (.int i3), .val (.int i4), .val (.int i5), .val (.int (i5 &&& (1 : Int32))), .unset, .unset, .unset, .unset] [(.int (2147483647 : Int32)), (.int ((i5.toUInt32 >>> ((1 : Int32) &&& 31).toUInt32).toInt32))])) _
    refine XS.iand X0.here hx rfl (hb hby at_12) rfl ?_
    show Steps p.tables e below (T0.setTop (mkF m 13 #[.val (.int i0), .val (.int i1), .val (.int i2), .val (.int i3), .val (.int i4), .val (.int i5), .val (.int (i5 &&& (1 : Int32))), .unset, .unset, .unset, .unset] [(.int (((i5.toUInt32 >>> ((1 : Int32) &&& 31).toUInt32).toInt32) &&& (2147483647 : Int32)))])) _
    refine XS.iconst X0.here hx rfl (hb hby at_13) ?_
    show Steps p.tables e below (T0.setTop (mkF m 14 #[.val (.int i0), .val (.int i1), .val (.int i2), .val (.int i3), .val (.int i4), .val (.int i5), .val (.int (i5 &&& (1 : Int32))), .unset, .unset, .unset, .unset] [(.int (5 : Int32)), (.int (((i5.toUInt32 >>> ((1 : Int32) &&& 31).toUInt32).toInt32) &&& (2147483647 : Int32)))])) _
    refine XS.irem X0.here hx rfl (hb hby at_14) rfl (by decide) ?_
    show Steps p.tables e below (T0.setTop (mkF m 15 #[.val (.int i0), .val (.int i1), .val (.int i2), .val (.int i3), .val (.int i4), .val (.int i5), .val (.int (i5 &&& (1 : Int32))), .unset, .unset, .unset, .unset] [(.int ((((i5.toUInt32 >>> ((1 : Int32) &&& 31).toUInt32).toInt32) &&& (2147483647 : Int32)) - ((((i5.toUInt32 >>> ((1 : Int32) &&& 31).toUInt32).toInt32) &&& (2147483647 : Int32)) / (5 : Int32)) * (5 : Int32)))])) _
    refine XS.istore X0.here hx rfl (hb hby at_15) rfl (l' := #[.val (.int i0), .val (.int i1), .val (.int i2), .val (.int i3), .val (.int i4), .val (.int i5), .val (.int (i5 &&& (1 : Int32))), .val (.int ((((i5.toUInt32 >>> ((1 : Int32) &&& 31).toUInt32).toInt32) &&& (2147483647 : Int32)) - ((((i5.toUInt32 >>> ((1 : Int32) &&& 31).toUInt32).toInt32) &&& (2147483647 : Int32)) / (5 : Int32)) * (5 : Int32))), .unset, .unset, .unset]) rfl ?_
    show Steps p.tables e below (T0.setTop (mkF m 17 #[.val (.int i0), .val (.int i1), .val (.int i2), .val (.int i3), .val (.int i4), .val (.int i5), .val (.int (i5 &&& (1 : Int32))), .val (.int ((((i5.toUInt32 >>> ((1 : Int32) &&& 31).toUInt32).toInt32) &&& (2147483647 : Int32)) - ((((i5.toUInt32 >>> ((1 : Int32) &&& 31).toUInt32).toInt32) &&& (2147483647 : Int32)) / (5 : Int32)) * (5 : Int32))), .unset, .unset, .unset] [])) _
    refine XS.iconst X0.here hx rfl (hb hby at_17) ?_
    show Steps p.tables e below (T0.setTop (mkF m 18 #[.val (.int i0), .val (.int i1), .val (.int i2), .val (.int i3), .val (.int i4), .val (.int i5), .val (.int (i5 &&& (1 : Int32))), .val (.int ((((i5.toUInt32 >>> ((1 : Int32) &&& 31).toUInt32).toInt32) &&& (2147483647 : Int32)) - ((((i5.toUInt32 >>> ((1 : Int32) &&& 31).toUInt32).toInt32) &&& (2147483647 : Int32)) / (5 : Int32)) * (5 : Int32))), .unset, .unset, .unset] [(.int (5 : Int32))])) _
    refine st1 _ ?_
    show Steps p.tables e below (T1.setTop (mkF m 20 #[.val (.int i0), .val (.int i1), .val (.int i2), .val (.int i3), .val (.int i4), .val (.int i5), .val (.int (i5 &&& (1 : Int32))), .val (.int ((((i5.toUInt32 >>> ((1 : Int32) &&& 31).toUInt32).toInt32) &&& (2147483647 : Int32)) - ((((i5.toUInt32 >>> ((1 : Int32) &&& 31).toUInt32).toInt32) &&& (2147483647 : Int32)) / (5 : Int32)) * (5 : Int32))), .unset, .unset, .unset] [(.ref b1)])) _
    refine XS.astore X1.here hx rfl (hb hby at_20) rfl rfl (l' := #[.val (.int i0), .val (.int i1), .val (.int i2), .val (.int i3), .val (.int i4), .val (.int i5), .val (.int (i5 &&& (1 : Int32))), .val (.int ((((i5.toUInt32 >>> ((1 : Int32) &&& 31).toUInt32).toInt32) &&& (2147483647 : Int32)) - ((((i5.toUInt32 >>> ((1 : Int32) &&& 31).toUInt32).toInt32) &&& (2147483647 : Int32)) / (5 : Int32)) * (5 : Int32))), .val (.ref b1), .unset, .unset]) rfl ?_
    show Steps p.tables e below (T1.setTop (mkF m 22 #[.val (.int i0), .val (.int i1), .val (.int i2), .val (.int i3), .val (.int i4), .val (.int i5), .val (.int (i5 &&& (1 : Int32))), .val (.int ((((i5.toUInt32 >>> ((1 : Int32) &&& 31).toUInt32).toInt32) &&& (2147483647 : Int32)) - ((((i5.toUInt32 >>> ((1 : Int32) &&& 31).toUInt32).toInt32) &&& (2147483647 : Int32)) / (5 : Int32)) * (5 : Int32))), .val (.ref b1), .unset, .unset] [])) _
    refine XS.aload X1.here hx rfl (hb hby at_22) rfl rfl ?_
    show Steps p.tables e below (T1.setTop (mkF m 24 #[.val (.int i0), .val (.int i1), .val (.int i2), .val (.int i3), .val (.int i4), .val (.int i5), .val (.int (i5 &&& (1 : Int32))), .val (.int ((((i5.toUInt32 >>> ((1 : Int32) &&& 31).toUInt32).toInt32) &&& (2147483647 : Int32)) - ((((i5.toUInt32 >>> ((1 : Int32) &&& 31).toUInt32).toInt32) &&& (2147483647 : Int32)) / (5 : Int32)) * (5 : Int32))), .val (.ref b1), .unset, .unset] [(.ref b1)])) _
    refine XS.iconst X1.here hx rfl (hb hby at_24) ?_
    show Steps p.tables e below (T1.setTop (mkF m 25 #[.val (.int i0), .val (.int i1), .val (.int i2), .val (.int i3), .val (.int i4), .val (.int i5), .val (.int (i5 &&& (1 : Int32))), .val (.int ((((i5.toUInt32 >>> ((1 : Int32) &&& 31).toUInt32).toInt32) &&& (2147483647 : Int32)) - ((((i5.toUInt32 >>> ((1 : Int32) &&& 31).toUInt32).toInt32) &&& (2147483647 : Int32)) / (5 : Int32)) * (5 : Int32))), .val (.ref b1), .unset, .unset] [(.int (0 : Int32)), (.ref b1)])) _
    refine XS.iload X1.here hx rfl (hb hby at_25) rfl ?_
    show Steps p.tables e below (T1.setTop (mkF m 27 #[.val (.int i0), .val (.int i1), .val (.int i2), .val (.int i3), .val (.int i4), .val (.int i5), .val (.int (i5 &&& (1 : Int32))), .val (.int ((((i5.toUInt32 >>> ((1 : Int32) &&& 31).toUInt32).toInt32) &&& (2147483647 : Int32)) - ((((i5.toUInt32 >>> ((1 : Int32) &&& 31).toUInt32).toInt32) &&& (2147483647 : Int32)) / (5 : Int32)) * (5 : Int32))), .val (.ref b1), .unset, .unset] [(.int i4), (.int (0 : Int32)), (.ref b1)])) _
    refine XS.i2b X1.here hx rfl (hb hby at_27) rfl ?_
    show Steps p.tables e below (T1.setTop (mkF m 28 #[.val (.int i0), .val (.int i1), .val (.int i2), .val (.int i3), .val (.int i4), .val (.int i5), .val (.int (i5 &&& (1 : Int32))), .val (.int ((((i5.toUInt32 >>> ((1 : Int32) &&& 31).toUInt32).toInt32) &&& (2147483647 : Int32)) - ((((i5.toUInt32 >>> ((1 : Int32) &&& 31).toUInt32).toInt32) &&& (2147483647 : Int32)) / (5 : Int32)) * (5 : Int32))), .val (.ref b1), .unset, .unset] [(.int (i4.toInt8.toInt32)), (.int (0 : Int32)), (.ref b1)])) _
    refine st2 _ ?_
    show Steps p.tables e below (T2.setTop (mkF m 29 #[.val (.int i0), .val (.int i1), .val (.int i2), .val (.int i3), .val (.int i4), .val (.int i5), .val (.int (i5 &&& (1 : Int32))), .val (.int ((((i5.toUInt32 >>> ((1 : Int32) &&& 31).toUInt32).toInt32) &&& (2147483647 : Int32)) - ((((i5.toUInt32 >>> ((1 : Int32) &&& 31).toUInt32).toInt32) &&& (2147483647 : Int32)) / (5 : Int32)) * (5 : Int32))), .val (.ref b1), .unset, .unset] [])) _
    refine XS.aload X2.here hx rfl (hb hby at_29) rfl rfl ?_
    show Steps p.tables e below (T2.setTop (mkF m 31 #[.val (.int i0), .val (.int i1), .val (.int i2), .val (.int i3), .val (.int i4), .val (.int i5), .val (.int (i5 &&& (1 : Int32))), .val (.int ((((i5.toUInt32 >>> ((1 : Int32) &&& 31).toUInt32).toInt32) &&& (2147483647 : Int32)) - ((((i5.toUInt32 >>> ((1 : Int32) &&& 31).toUInt32).toInt32) &&& (2147483647 : Int32)) / (5 : Int32)) * (5 : Int32))), .val (.ref b1), .unset, .unset] [(.ref b1)])) _
    refine XS.iconst X2.here hx rfl (hb hby at_31) ?_
    show Steps p.tables e below (T2.setTop (mkF m 32 #[.val (.int i0), .val (.int i1), .val (.int i2), .val (.int i3), .val (.int i4), .val (.int i5), .val (.int (i5 &&& (1 : Int32))), .val (.int ((((i5.toUInt32 >>> ((1 : Int32) &&& 31).toUInt32).toInt32) &&& (2147483647 : Int32)) - ((((i5.toUInt32 >>> ((1 : Int32) &&& 31).toUInt32).toInt32) &&& (2147483647 : Int32)) / (5 : Int32)) * (5 : Int32))), .val (.ref b1), .unset, .unset] [(.int (4 : Int32)), (.ref b1)])) _
    refine XS.iload X2.here hx rfl (hb hby at_32) rfl ?_
    show Steps p.tables e below (T2.setTop (mkF m 34 #[.val (.int i0), .val (.int i1), .val (.int i2), .val (.int i3), .val (.int i4), .val (.int i5), .val (.int (i5 &&& (1 : Int32))), .val (.int ((((i5.toUInt32 >>> ((1 : Int32) &&& 31).toUInt32).toInt32) &&& (2147483647 : Int32)) - ((((i5.toUInt32 >>> ((1 : Int32) &&& 31).toUInt32).toInt32) &&& (2147483647 : Int32)) / (5 : Int32)) * (5 : Int32))), .val (.ref b1), .unset, .unset] [(.int i4), (.int (4 : Int32)), (.ref b1)])) _
    refine XS.i2b X2.here hx rfl (hb hby at_34) rfl ?_
    show Steps p.tables e below (T2.setTop (mkF m 35 #[.val (.int i0), .val (.int i1), .val (.int i2), .val (.int i3), .val (.int i4), .val (.int i5), .val (.int (i5 &&& (1 : Int32))), .val (.int ((((i5.toUInt32 >>> ((1 : Int32) &&& 31).toUInt32).toInt32) &&& (2147483647 : Int32)) - ((((i5.toUInt32 >>> ((1 : Int32) &&& 31).toUInt32).toInt32) &&& (2147483647 : Int32)) / (5 : Int32)) * (5 : Int32))), .val (.ref b1), .unset, .unset] [(.int (i4.toInt8.toInt32)), (.int (4 : Int32)), (.ref b1)])) _
    refine st3 _ ?_
    show Steps p.tables e below (T3.setTop (mkF m 36 #[.val (.int i0), .val (.int i1), .val (.int i2), .val (.int i3), .val (.int i4), .val (.int i5), .val (.int (i5 &&& (1 : Int32))), .val (.int ((((i5.toUInt32 >>> ((1 : Int32) &&& 31).toUInt32).toInt32) &&& (2147483647 : Int32)) - ((((i5.toUInt32 >>> ((1 : Int32) &&& 31).toUInt32).toInt32) &&& (2147483647 : Int32)) / (5 : Int32)) * (5 : Int32))), .val (.ref b1), .unset, .unset] [])) _
    refine XS.aload X3.here hx rfl (hb hby at_36) rfl rfl ?_
    show Steps p.tables e below (T3.setTop (mkF m 38 #[.val (.int i0), .val (.int i1), .val (.int i2), .val (.int i3), .val (.int i4), .val (.int i5), .val (.int (i5 &&& (1 : Int32))), .val (.int ((((i5.toUInt32 >>> ((1 : Int32) &&& 31).toUInt32).toInt32) &&& (2147483647 : Int32)) - ((((i5.toUInt32 >>> ((1 : Int32) &&& 31).toUInt32).toInt32) &&& (2147483647 : Int32)) / (5 : Int32)) * (5 : Int32))), .val (.ref b1), .unset, .unset] [(.ref b1)])) _
    refine XS.iload X3.here hx rfl (hb hby at_38) rfl ?_
    show Steps p.tables e below (T3.setTop (mkF m 40 #[.val (.int i0), .val (.int i1), .val (.int i2), .val (.int i3), .val (.int i4), .val (.int i5), .val (.int (i5 &&& (1 : Int32))), .val (.int ((((i5.toUInt32 >>> ((1 : Int32) &&& 31).toUInt32).toInt32) &&& (2147483647 : Int32)) - ((((i5.toUInt32 >>> ((1 : Int32) &&& 31).toUInt32).toInt32) &&& (2147483647 : Int32)) / (5 : Int32)) * (5 : Int32))), .val (.ref b1), .unset, .unset] [(.int (i5 &&& (1 : Int32))), (.ref b1)])) _
    refine XS.iloadN X3.here hx rfl (hb hby at_40) rfl ?_
    show Steps p.tables e below (T3.setTop (mkF m 41 #[.val (.int i0), .val (.int i1), .val (.int i2), .val (.int i3), .val (.int i4), .val (.int i5), .val (.int (i5 &&& (1 : Int32))), .val (.int ((((i5.toUInt32 >>> ((1 : Int32) &&& 31).toUInt32).toInt32) &&& (2147483647 : Int32)) - ((((i5.toUInt32 >>> ((1 : Int32) &&& 31).toUInt32).toInt32) &&& (2147483647 : Int32)) / (5 : Int32)) * (5 : Int32))), .val (.ref b1), .unset, .unset] [(.int i0), (.int (i5 &&& (1 : Int32))), (.ref b1)])) _
    refine XS.i2b X3.here hx rfl (hb hby at_41) rfl ?_
    show Steps p.tables e below (T3.setTop (mkF m 42 #[.val (.int i0), .val (.int i1), .val (.int i2), .val (.int i3), .val (.int i4), .val (.int i5), .val (.int (i5 &&& (1 : Int32))), .val (.int ((((i5.toUInt32 >>> ((1 : Int32) &&& 31).toUInt32).toInt32) &&& (2147483647 : Int32)) - ((((i5.toUInt32 >>> ((1 : Int32) &&& 31).toUInt32).toInt32) &&& (2147483647 : Int32)) / (5 : Int32)) * (5 : Int32))), .val (.ref b1), .unset, .unset] [(.int (i0.toInt8.toInt32)), (.int (i5 &&& (1 : Int32))), (.ref b1)])) _
    refine st4 _ ?_
    show Steps p.tables e below (T4.setTop (mkF m 43 #[.val (.int i0), .val (.int i1), .val (.int i2), .val (.int i3), .val (.int i4), .val (.int i5), .val (.int (i5 &&& (1 : Int32))), .val (.int ((((i5.toUInt32 >>> ((1 : Int32) &&& 31).toUInt32).toInt32) &&& (2147483647 : Int32)) - ((((i5.toUInt32 >>> ((1 : Int32) &&& 31).toUInt32).toInt32) &&& (2147483647 : Int32)) / (5 : Int32)) * (5 : Int32))), .val (.ref b1), .unset, .unset] [])) _
    refine XS.aload X4.here hx rfl (hb hby at_43) rfl rfl ?_
    show Steps p.tables e below (T4.setTop (mkF m 45 #[.val (.int i0), .val (.int i1), .val (.int i2), .val (.int i3), .val (.int i4), .val (.int i5), .val (.int (i5 &&& (1 : Int32))), .val (.int ((((i5.toUInt32 >>> ((1 : Int32) &&& 31).toUInt32).toInt32) &&& (2147483647 : Int32)) - ((((i5.toUInt32 >>> ((1 : Int32) &&& 31).toUInt32).toInt32) &&& (2147483647 : Int32)) / (5 : Int32)) * (5 : Int32))), .val (.ref b1), .unset, .unset] [(.ref b1)])) _
    refine XS.iload X4.here hx rfl (hb hby at_45) rfl ?_
    show Steps p.tables e below (T4.setTop (mkF m 47 #[.val (.int i0), .val (.int i1), .val (.int i2), .val (.int i3), .val (.int i4), .val (.int i5), .val (.int (i5 &&& (1 : Int32))), .val (.int ((((i5.toUInt32 >>> ((1 : Int32) &&& 31).toUInt32).toInt32) &&& (2147483647 : Int32)) - ((((i5.toUInt32 >>> ((1 : Int32) &&& 31).toUInt32).toInt32) &&& (2147483647 : Int32)) / (5 : Int32)) * (5 : Int32))), .val (.ref b1), .unset, .unset] [(.int (i5 &&& (1 : Int32))), (.ref b1)])) _
    refine XS.iconst X4.here hx rfl (hb hby at_47) ?_
    show Steps p.tables e below (T4.setTop (mkF m 48 #[.val (.int i0), .val (.int i1), .val (.int i2), .val (.int i3), .val (.int i4), .val (.int i5), .val (.int (i5 &&& (1 : Int32))), .val (.int ((((i5.toUInt32 >>> ((1 : Int32) &&& 31).toUInt32).toInt32) &&& (2147483647 : Int32)) - ((((i5.toUInt32 >>> ((1 : Int32) &&& 31).toUInt32).toInt32) &&& (2147483647 : Int32)) / (5 : Int32)) * (5 : Int32))), .val (.ref b1), .unset, .unset] [(.int (1 : Int32)), (.int (i5 &&& (1 : Int32))), (.ref b1)])) _
    refine XS.iadd X4.here hx rfl (hb hby at_48) rfl ?_
    show Steps p.tables e below (T4.setTop (mkF m 49 #[.val (.int i0), .val (.int i1), .val (.int i2), .val (.int i3), .val (.int i4), .val (.int i5), .val (.int (i5 &&& (1 : Int32))), .val (.int ((((i5.toUInt32 >>> ((1 : Int32) &&& 31).toUInt32).toInt32) &&& (2147483647 : Int32)) - ((((i5.toUInt32 >>> ((1 : Int32) &&& 31).toUInt32).toInt32) &&& (2147483647 : Int32)) / (5 : Int32)) * (5 : Int32))), .val (.ref b1), .unset, .unset] [(.int ((i5 &&& (1 : Int32)) + (1 : Int32))), (.ref b1)])) _
    refine XS.iloadN X4.here hx rfl (hb hby at_49) rfl ?_
    show Steps p.tables e below (T4.setTop (mkF m 50 #[.val (.int i0), .val (.int i1), .val (.int i2), .val (.int i3), .val (.int i4), .val (.int i5), .val (.int (i5 &&& (1 : Int32))), .val (.int ((((i5.toUInt32 >>> ((1 : Int32) &&& 31).toUInt32).toInt32) &&& (2147483647 : Int32)) - ((((i5.toUInt32 >>> ((1 : Int32) &&& 31).toUInt32).toInt32) &&& (2147483647 : Int32)) / (5 : Int32)) * (5 : Int32))), .val (.ref b1), .unset, .unset] [(.int i1), (.int ((i5 &&& (1 : Int32)) + (1 : Int32))), (.ref b1)])) _
    refine XS.i2b X4.here hx rfl (hb hby at_50) rfl ?_
    show Steps p.tables e below (T4.setTop (mkF m 51 #[.val (.int i0), .val (.int i1), .val (.int i2), .val (.int i3), .val (.int i4), .val (.int i5), .val (.int (i5 &&& (1 : Int32))), .val (.int ((((i5.toUInt32 >>> ((1 : Int32) &&& 31).toUInt32).toInt32) &&& (2147483647 : Int32)) - ((((i5.toUInt32 >>> ((1 : Int32) &&& 31).toUInt32).toInt32) &&& (2147483647 : Int32)) / (5 : Int32)) * (5 : Int32))), .val (.ref b1), .unset, .unset] [(.int (i1.toInt8.toInt32)), (.int ((i5 &&& (1 : Int32)) + (1 : Int32))), (.ref b1)])) _
    refine st5 _ ?_
    show Steps p.tables e below (T5.setTop (mkF m 52 #[.val (.int i0), .val (.int i1), .val (.int i2), .val (.int i3), .val (.int i4), .val (.int i5), .val (.int (i5 &&& (1 : Int32))), .val (.int ((((i5.toUInt32 >>> ((1 : Int32) &&& 31).toUInt32).toInt32) &&& (2147483647 : Int32)) - ((((i5.toUInt32 >>> ((1 : Int32) &&& 31).toUInt32).toInt32) &&& (2147483647 : Int32)) / (5 : Int32)) * (5 : Int32))), .val (.ref b1), .unset, .unset] [])) _
    refine XS.aload X5.here hx rfl (hb hby at_52) rfl rfl ?_
    show Steps p.tables e below (T5.setTop (mkF m 54 #[.val (.int i0), .val (.int i1), .val (.int i2), .val (.int i3), .val (.int i4), .val (.int i5), .val (.int (i5 &&& (1 : Int32))), .val (.int ((((i5.toUInt32 >>> ((1 : Int32) &&& 31).toUInt32).toInt32) &&& (2147483647 : Int32)) - ((((i5.toUInt32 >>> ((1 : Int32) &&& 31).toUInt32).toInt32) &&& (2147483647 : Int32)) / (5 : Int32)) * (5 : Int32))), .val (.ref b1), .unset, .unset] [(.ref b1)])) _
    refine XS.iload X5.here hx rfl (hb hby at_54) rfl ?_
    show Steps p.tables e below (T5.setTop (mkF m 56 #[.val (.int i0), .val (.int i1), .val (.int i2), .val (.int i3), .val (.int i4), .val (.int i5), .val (.int (i5 &&& (1 : Int32))), .val (.int ((((i5.toUInt32 >>> ((1 : Int32) &&& 31).toUInt32).toInt32) &&& (2147483647 : Int32)) - ((((i5.toUInt32 >>> ((1 : Int32) &&& 31).toUInt32).toInt32) &&& (2147483647 : Int32)) / (5 : Int32)) * (5 : Int32))), .val (.ref b1), .unset, .unset] [(.int (i5 &&& (1 : Int32))), (.ref b1)])) _
    refine XS.iconst X5.here hx rfl (hb hby at_56) ?_
    show Steps p.tables e below (T5.setTop (mkF m 57 #[.val (.int i0), .val (.int i1), .val (.int i2), .val (.int i3), .val (.int i4), .val (.int i5), .val (.int (i5 &&& (1 : Int32))), .val (.int ((((i5.toUInt32 >>> ((1 : Int32) &&& 31).toUInt32).toInt32) &&& (2147483647 : Int32)) - ((((i5.toUInt32 >>> ((1 : Int32) &&& 31).toUInt32).toInt32) &&& (2147483647 : Int32)) / (5 : Int32)) * (5 : Int32))), .val (.ref b1), .unset, .unset] [(.int (2 : Int32)), (.int (i5 &&& (1 : Int32))), (.ref b1)])) _
    refine XS.iadd X5.here hx rfl (hb hby at_57) rfl ?_
    show Steps p.tables e below (T5.setTop (mkF m 58 #[.val (.int i0), .val (.int i1), .val (.int i2), .val (.int i3), .val (.int i4), .val (.int i5), .val (.int (i5 &&& (1 : Int32))), .val (.int ((((i5.toUInt32 >>> ((1 : Int32) &&& 31).toUInt32).toInt32) &&& (2147483647 : Int32)) - ((((i5.toUInt32 >>> ((1 : Int32) &&& 31).toUInt32).toInt32) &&& (2147483647 : Int32)) / (5 : Int32)) * (5 : Int32))), .val (.ref b1), .unset, .unset] [(.int ((i5 &&& (1 : Int32)) + (2 : Int32))), (.ref b1)])) _
    refine XS.iloadN X5.here hx rfl (hb hby at_58) rfl ?_
    show Steps p.tables e below (T5.setTop (mkF m 59 #[.val (.int i0), .val (.int i1), .val (.int i2), .val (.int i3), .val (.int i4), .val (.int i5), .val (.int (i5 &&& (1 : Int32))), .val (.int ((((i5.toUInt32 >>> ((1 : Int32) &&& 31).toUInt32).toInt32) &&& (2147483647 : Int32)) - ((((i5.toUInt32 >>> ((1 : Int32) &&& 31).toUInt32).toInt32) &&& (2147483647 : Int32)) / (5 : Int32)) * (5 : Int32))), .val (.ref b1), .unset, .unset] [(.int i2), (.int ((i5 &&& (1 : Int32)) + (2 : Int32))), (.ref b1)])) _
    refine XS.i2b X5.here hx rfl (hb hby at_59) rfl ?_
    show Steps p.tables e below (T5.setTop (mkF m 60 #[.val (.int i0), .val (.int i1), .val (.int i2), .val (.int i3), .val (.int i4), .val (.int i5), .val (.int (i5 &&& (1 : Int32))), .val (.int ((((i5.toUInt32 >>> ((1 : Int32) &&& 31).toUInt32).toInt32) &&& (2147483647 : Int32)) - ((((i5.toUInt32 >>> ((1 : Int32) &&& 31).toUInt32).toInt32) &&& (2147483647 : Int32)) / (5 : Int32)) * (5 : Int32))), .val (.ref b1), .unset, .unset] [(.int (i2.toInt8.toInt32)), (.int ((i5 &&& (1 : Int32)) + (2 : Int32))), (.ref b1)])) _
    refine st6 _ ?_
    show Steps p.tables e below (T6.setTop (mkF m 61 #[.val (.int i0), .val (.int i1), .val (.int i2), .val (.int i3), .val (.int i4), .val (.int i5), .val (.int (i5 &&& (1 : Int32))), .val (.int ((((i5.toUInt32 >>> ((1 : Int32) &&& 31).toUInt32).toInt32) &&& (2147483647 : Int32)) - ((((i5.toUInt32 >>> ((1 : Int32) &&& 31).toUInt32).toInt32) &&& (2147483647 : Int32)) / (5 : Int32)) * (5 : Int32))), .val (.ref b1), .unset, .unset] [])) _
    refine XS.aload X6.here hx rfl (hb hby at_61) rfl rfl ?_
    show Steps p.tables e below (T6.setTop (mkF m 63 #[.val (.int i0), .val (.int i1), .val (.int i2), .val (.int i3), .val (.int i4), .val (.int i5), .val (.int (i5 &&& (1 : Int32))), .val (.int ((((i5.toUInt32 >>> ((1 : Int32) &&& 31).toUInt32).toInt32) &&& (2147483647 : Int32)) - ((((i5.toUInt32 >>> ((1 : Int32) &&& 31).toUInt32).toInt32) &&& (2147483647 : Int32)) / (5 : Int32)) * (5 : Int32))), .val (.ref b1), .unset, .unset] [(.ref b1)])) _
    refine XS.iload X6.here hx rfl (hb hby at_63) rfl ?_
    show Steps p.tables e below (T6.setTop (mkF m 65 #[.val (.int i0), .val (.int i1), .val (.int i2), .val (.int i3), .val (.int i4), .val (.int i5), .val (.int (i5 &&& (1 : Int32))), .val (.int ((((i5.toUInt32 >>> ((1 : Int32) &&& 31).toUInt32).toInt32) &&& (2147483647 : Int32)) - ((((i5.toUInt32 >>> ((1 : Int32) &&& 31).toUInt32).toInt32) &&& (2147483647 : Int32)) / (5 : Int32)) * (5 : Int32))), .val (.ref b1), .unset, .unset] [(.int (i5 &&& (1 : Int32))), (.ref b1)])) _
    refine XS.iconst X6.here hx rfl (hb hby at_65) ?_
    show Steps p.tables e below (T6.setTop (mkF m 66 #[.val (.int i0), .val (.int i1), .val (.int i2), .val (.int i3), .val (.int i4), .val (.int i5), .val (.int (i5 &&& (1 : Int32))), .val (.int ((((i5.toUInt32 >>> ((1 : Int32) &&& 31).toUInt32).toInt32) &&& (2147483647 : Int32)) - ((((i5.toUInt32 >>> ((1 : Int32) &&& 31).toUInt32).toInt32) &&& (2147483647 : Int32)) / (5 : Int32)) * (5 : Int32))), .val (.ref b1), .unset, .unset] [(.int (3 : Int32)), (.int (i5 &&& (1 : Int32))), (.ref b1)])) _
    refine XS.iadd X6.here hx rfl (hb hby at_66) rfl ?_
    show Steps p.tables e below (T6.setTop (mkF m 67 #[.val (.int i0), .val (.int i1), .val (.int i2), .val (.int i3), .val (.int i4), .val (.int i5), .val (.int (i5 &&& (1 : Int32))), .val (.int ((((i5.toUInt32 >>> ((1 : Int32) &&& 31).toUInt32).toInt32) &&& (2147483647 : Int32)) - ((((i5.toUInt32 >>> ((1 : Int32) &&& 31).toUInt32).toInt32) &&& (2147483647 : Int32)) / (5 : Int32)) * (5 : Int32))), .val (.ref b1), .unset, .unset] [(.int ((i5 &&& (1 : Int32)) + (3 : Int32))), (.ref b1)])) _
    refine XS.iloadN X6.here hx rfl (hb hby at_67) rfl ?_
    show Steps p.tables e below (T6.setTop (mkF m 68 #[.val (.int i0), .val (.int i1), .val (.int i2), .val (.int i3), .val (.int i4), .val (.int i5), .val (.int (i5 &&& (1 : Int32))), .val (.int ((((i5.toUInt32 >>> ((1 : Int32) &&& 31).toUInt32).toInt32) &&& (2147483647 : Int32)) - ((((i5.toUInt32 >>> ((1 : Int32) &&& 31).toUInt32).toInt32) &&& (2147483647 : Int32)) / (5 : Int32)) * (5 : Int32))), .val (.ref b1), .unset, .unset] [(.int i3), (.int ((i5 &&& (1 : Int32)) + (3 : Int32))), (.ref b1)])) _
    refine XS.i2b X6.here hx rfl (hb hby at_68) rfl ?_
    show Steps p.tables e below (T6.setTop (mkF m 69 #[.val (.int i0), .val (.int i1), .val (.int i2), .val (.int i3), .val (.int i4), .val (.int i5), .val (.int (i5 &&& (1 : Int32))), .val (.int ((((i5.toUInt32 >>> ((1 : Int32) &&& 31).toUInt32).toInt32) &&& (2147483647 : Int32)) - ((((i5.toUInt32 >>> ((1 : Int32) &&& 31).toUInt32).toInt32) &&& (2147483647 : Int32)) / (5 : Int32)) * (5 : Int32))), .val (.ref b1), .unset, .unset] [(.int (i3.toInt8.toInt32)), (.int ((i5 &&& (1 : Int32)) + (3 : Int32))), (.ref b1)])) _
    refine st7 _ ?_
    show Steps p.tables e below (T7.setTop (mkF m 70 #[.val (.int i0), .val (.int i1), .val (.int i2), .val (.int i3), .val (.int i4), .val (.int i5), .val (.int (i5 &&& (1 : Int32))), .val (.int ((((i5.toUInt32 >>> ((1 : Int32) &&& 31).toUInt32).toInt32) &&& (2147483647 : Int32)) - ((((i5.toUInt32 >>> ((1 : Int32) &&& 31).toUInt32).toInt32) &&& (2147483647 : Int32)) / (5 : Int32)) * (5 : Int32))), .val (.ref b1), .unset, .unset] [])) _
    refine XS.iload X7.here hx rfl (hb hby at_70) rfl ?_
    show Steps p.tables e below (T7.setTop (mkF m 72 #[.val (.int i0), .val (.int i1), .val (.int i2), .val (.int i3), .val (.int i4), .val (.int i5), .val (.int (i5 &&& (1 : Int32))), .val (.int ((((i5.toUInt32 >>> ((1 : Int32) &&& 31).toUInt32).toInt32) &&& (2147483647 : Int32)) - ((((i5.toUInt32 >>> ((1 : Int32) &&& 31).toUInt32).toInt32) &&& (2147483647 : Int32)) / (5 : Int32)) * (5 : Int32))), .val (.ref b1), .unset, .unset] [(.int (i5 &&& (1 : Int32)))])) _
    refine XS.iload X7.here hx rfl (hb hby at_72) rfl ?_
    show Steps p.tables e below (T7.setTop (mkF m 74 #[.val (.int i0), .val (.int i1), .val (.int i2), .val (.int i3), .val (.int i4), .val (.int i5), .val (.int (i5 &&& (1 : Int32))), .val (.int ((((i5.toUInt32 >>> ((1 : Int32) &&& 31).toUInt32).toInt32) &&& (2147483647 : Int32)) - ((((i5.toUInt32 >>> ((1 : Int32) &&& 31).toUInt32).toInt32) &&& (2147483647 : Int32)) / (5 : Int32)) * (5 : Int32))), .val (.ref b1), .unset, .unset] [(.int ((((i5.toUInt32 >>> ((1 : Int32) &&& 31).toUInt32).toInt32) &&& (2147483647 : Int32)) - ((((i5.toUInt32 >>> ((1 : Int32) &&& 31).toUInt32).toInt32) &&& (2147483647 : Int32)) / (5 : Int32)) * (5 : Int32))), (.int (i5 &&& (1 : Int32)))])) _
    refine XS.iadd X7.here hx rfl (hb hby at_74) rfl ?_
    show Steps p.tables e below (T7.setTop (mkF m 75 #[.val (.int i0), .val (.int i1), .val (.int i2), .val (.int i3), .val (.int i4), .val (.int i5), .val (.int (i5 &&& (1 : Int32))), .val (.int ((((i5.toUInt32 >>> ((1 : Int32) &&& 31).toUInt32).toInt32) &&& (2147483647 : Int32)) - ((((i5.toUInt32 >>> ((1 : Int32) &&& 31).toUInt32).toInt32) &&& (2147483647 : Int32)) / (5 : Int32)) * (5 : Int32))), .val (.ref b1), .unset, .unset] [(.int ((i5 &&& (1 : Int32)) + ((((i5.toUInt32 >>> ((1 : Int32) &&& 31).toUInt32).toInt32) &&& (2147483647 : Int32)) - ((((i5.toUInt32 >>> ((1 : Int32) &&& 31).toUInt32).toInt32) &&& (2147483647 : Int32)) / (5 : Int32)) * (5 : Int32))))])) _
    refine XS.istore X7.here hx rfl (hb hby at_75) rfl (l' := #[.val (.int i0), .val (.int i1), .val (.int i2), .val (.int i3), .val (.int i4), .val (.int i5), .val (.int (i5 &&& (1 : Int32))), .val (.int ((((i5.toUInt32 >>> ((1 : Int32) &&& 31).toUInt32).toInt32) &&& (2147483647 : Int32)) - ((((i5.toUInt32 >>> ((1 : Int32) &&& 31).toUInt32).toInt32) &&& (2147483647 : Int32)) / (5 : Int32)) * (5 : Int32))), .val (.ref b1), .val (.int ((i5 &&& (1 : Int32)) + ((((i5.toUInt32 >>> ((1 : Int32) &&& 31).toUInt32).toInt32) &&& (2147483647 : Int32)) - ((((i5.toUInt32 >>> ((1 : Int32) &&& 31).toUInt32).toInt32) &&& (2147483647 : Int32)) / (5 : Int32)) * (5 : Int32)))), .unset]) rfl ?_
    show Steps p.tables e below (T7.setTop (mkF m 77 #[.val (.int i0), .val (.int i1), .val (.int i2), .val (.int i3), .val (.int i4), .val (.int i5), .val (.int (i5 &&& (1 : Int32))), .val (.int ((((i5.toUInt32 >>> ((1 : Int32) &&& 31).toUInt32).toInt32) &&& (2147483647 : Int32)) - ((((i5.toUInt32 >>> ((1 : Int32) &&& 31).toUInt32).toInt32) &&& (2147483647 : Int32)) / (5 : Int32)) * (5 : Int32))), .val (.ref b1), .val (.int ((i5 &&& (1 : Int32)) + ((((i5.toUInt32 >>> ((1 : Int32) &&& 31).toUInt32).toInt32) &&& (2147483647 : Int32)) - ((((i5.toUInt32 >>> ((1 : Int32) &&& 31).toUInt32).toInt32) &&& (2147483647 : Int32)) / (5 : Int32)) * (5 : Int32)))), .unset] [])) _
    refine XS.aload X7.here hx rfl (hb hby at_77) rfl rfl ?_
    show Steps p.tables e below (T7.setTop (mkF m 79 #[.val (.int i0), .val (.int i1), .val (.int i2), .val (.int i3), .val (.int i4), .val (.int i5), .val (.int (i5 &&& (1 : Int32))), .val (.int ((((i5.toUInt32 >>> ((1 : Int32) &&& 31).toUInt32).toInt32) &&& (2147483647 : Int32)) - ((((i5.toUInt32 >>> ((1 : Int32) &&& 31).toUInt32).toInt32) &&& (2147483647 : Int32)) / (5 : Int32)) * (5 : Int32))), .val (.ref b1), .val (.int ((i5 &&& (1 : Int32)) + ((((i5.toUInt32 >>> ((1 : Int32) &&& 31).toUInt32).toInt32) &&& (2147483647 : Int32)) - ((((i5.toUInt32 >>> ((1 : Int32) &&& 31).toUInt32).toInt32) &&& (2147483647 : Int32)) / (5 : Int32)) * (5 : Int32)))), .unset] [(.ref b1)])) _
    refine XS.iload X7.here hx rfl (hb hby at_79) rfl ?_
    show Steps p.tables e below (T7.setTop (mkF m 81 #[.val (.int i0), .val (.int i1), .val (.int i2), .val (.int i3), .val (.int i4), .val (.int i5), .val (.int (i5 &&& (1 : Int32))), .val (.int ((((i5.toUInt32 >>> ((1 : Int32) &&& 31).toUInt32).toInt32) &&& (2147483647 : Int32)) - ((((i5.toUInt32 >>> ((1 : Int32) &&& 31).toUInt32).toInt32) &&& (2147483647 : Int32)) / (5 : Int32)) * (5 : Int32))), .val (.ref b1), .val (.int ((i5 &&& (1 : Int32)) + ((((i5.toUInt32 >>> ((1 : Int32) &&& 31).toUInt32).toInt32) &&& (2147483647 : Int32)) - ((((i5.toUInt32 >>> ((1 : Int32) &&& 31).toUInt32).toInt32) &&& (2147483647 : Int32)) / (5 : Int32)) * (5 : Int32)))), .unset] [(.int (i5 &&& (1 : Int32))), (.ref b1)])) _
    refine XS.iload X7.here hx rfl (hb hby at_81) rfl ?_
    show Steps p.tables e below (T7.setTop (mkF m 83 #[.val (.int i0), .val (.int i1), .val (.int i2), .val (.int i3), .val (.int i4), .val (.int i5), .val (.int (i5 &&& (1 : Int32))), .val (.int ((((i5.toUInt32 >>> ((1 : Int32) &&& 31).toUInt32).toInt32) &&& (2147483647 : Int32)) - ((((i5.toUInt32 >>> ((1 : Int32) &&& 31).toUInt32).toInt32) &&& (2147483647 : Int32)) / (5 : Int32)) * (5 : Int32))), .val (.ref b1), .val (.int ((i5 &&& (1 : Int32)) + ((((i5.toUInt32 >>> ((1 : Int32) &&& 31).toUInt32).toInt32) &&& (2147483647 : Int32)) - ((((i5.toUInt32 >>> ((1 : Int32) &&& 31).toUInt32).toInt32) &&& (2147483647 : Int32)) / (5 : Int32)) * (5 : Int32)))), .unset] [(.int ((i5 &&& (1 : Int32)) + ((((i5.toUInt32 >>> ((1 : Int32) &&& 31).toUInt32).toInt32) &&& (2147483647 : Int32)) - ((((i5.toUInt32 >>> ((1 : Int32) &&& 31).toUInt32).toInt32) &&& (2147483647 : Int32)) / (5 : Int32)) * (5 : Int32)))), (.int (i5 &&& (1 : Int32))), (.ref b1)])) _
    refine st8 _ ?_
    show Steps p.tables e below (T8.setTop (mkF m 86 #[.val (.int i0), .val (.int i1), .val (.int i2), .val (.int i3), .val (.int i4), .val (.int i5), .val (.int (i5 &&& (1 : Int32))), .val (.int ((((i5.toUInt32 >>> ((1 : Int32) &&& 31).toUInt32).toInt32) &&& (2147483647 : Int32)) - ((((i5.toUInt32 >>> ((1 : Int32) &&& 31).toUInt32).toInt32) &&& (2147483647 : Int32)) / (5 : Int32)) * (5 : Int32))), .val (.ref b1), .val (.int ((i5 &&& (1 : Int32)) + ((((i5.toUInt32 >>> ((1 : Int32) &&& 31).toUInt32).toInt32) &&& (2147483647 : Int32)) - ((((i5.toUInt32 >>> ((1 : Int32) &&& 31).toUInt32).toInt32) &&& (2147483647 : Int32)) / (5 : Int32)) * (5 : Int32)))), .unset] [(.int (own_f1_0 (i5 &&& (1 : Int32)) ((i5 &&& (1 : Int32)) + ((((i5.toUInt32 >>> ((1 : Int32) &&& 31).toUInt32).toInt32) &&& (2147483647 : Int32)) - ((((i5.toUInt32 >>> ((1 : Int32) &&& 31).toUInt32).toInt32) &&& (2147483647 : Int32)) / (5 : Int32)) * (5 : Int32))) (5 : Int32) (own_up (own_up (own_up (own_up (own_up (own_up (fun _ => 0) (0 : Int32).toNatClampNeg ((i4.toInt8.toInt32).toInt8.toInt32)) (4 : Int32).toNatClampNeg ((i4.toInt8.toInt32).toInt8.toInt32)) (i5 &&& (1 : Int32)).toNatClampNeg ((i0.toInt8.toInt32).toInt8.toInt32)) ((i5 &&& (1 : Int32)) + (1 : Int32)).toNatClampNeg ((i1.toInt8.toInt32).toInt8.toInt32)) ((i5 &&& (1 : Int32)) + (2 : Int32)).toNatClampNeg ((i2.toInt8.toInt32).toInt8.toInt32)) ((i5 &&& (1 : Int32)) + (3 : Int32)).toNatClampNeg ((i3.toInt8.toInt32).toInt8.toInt32))))])) _
    refine XS.istore X8.here hx rfl (hb hby at_86) rfl (l' := #[.val (.int i0), .val (.int i1), .val (.int i2), .val (.int i3), .val (.int i4), .val (.int i5), .val (.int (i5 &&& (1 : Int32))), .val (.int ((((i5.toUInt32 >>> ((1 : Int32) &&& 31).toUInt32).toInt32) &&& (2147483647 : Int32)) - ((((i5.toUInt32 >>> ((1 : Int32) &&& 31).toUInt32).toInt32) &&& (2147483647 : Int32)) / (5 : Int32)) * (5 : Int32))), .val (.ref b1), .val (.int ((i5 &&& (1 : Int32)) + ((((i5.toUInt32 >>> ((1 : Int32) &&& 31).toUInt32).toInt32) &&& (2147483647 : Int32)) - ((((i5.toUInt32 >>> ((1 : Int32) &&& 31).toUInt32).toInt32) &&& (2147483647 : Int32)) / (5 : Int32)) * (5 : Int32)))), .val (.int (own_f1_0 (i5 &&& (1 : Int32)) ((i5 &&& (1 : Int32)) + ((((i5.toUInt32 >>> ((1 : Int32) &&& 31).toUInt32).toInt32) &&& (2147483647 : Int32)) - ((((i5.toUInt32 >>> ((1 : Int32) &&& 31).toUInt32).toInt32) &&& (2147483647 : Int32)) / (5 : Int32)) * (5 : Int32))) (5 : Int32) (own_up (own_up (own_up (own_up (own_up (own_up (fun _ => 0) (0 : Int32).toNatClampNeg ((i4.toInt8.toInt32).toInt8.toInt32)) (4 : Int32).toNatClampNeg ((i4.toInt8.toInt32).toInt8.toInt32)) (i5 &&& (1 : Int32)).toNatClampNeg ((i0.toInt8.toInt32).toInt8.toInt32)) ((i5 &&& (1 : Int32)) + (1 : Int32)).toNatClampNeg ((i1.toInt8.toInt32).toInt8.toInt32)) ((i5 &&& (1 : Int32)) + (2 : Int32)).toNatClampNeg ((i2.toInt8.toInt32).toInt8.toInt32)) ((i5 &&& (1 : Int32)) + (3 : Int32)).toNatClampNeg ((i3.toInt8.toInt32).toInt8.toInt32))))]) rfl ?_
    show Steps p.tables e below (T8.setTop (mkF m 88 #[.val (.int i0), .val (.int i1), .val (.int i2), .val (.int i3), .val (.int i4), .val (.int i5), .val (.int (i5 &&& (1 : Int32))), .val (.int ((((i5.toUInt32 >>> ((1 : Int32) &&& 31).toUInt32).toInt32) &&& (2147483647 : Int32)) - ((((i5.toUInt32 >>> ((1 : Int32) &&& 31).toUInt32).toInt32) &&& (2147483647 : Int32)) / (5 : Int32)) * (5 : Int32))), .val (.ref b1), .val (.int ((i5 &&& (1 : Int32)) + ((((i5.toUInt32 >>> ((1 : Int32) &&& 31).toUInt32).toInt32) &&& (2147483647 : Int32)) - ((((i5.toUInt32 >>> ((1 : Int32) &&& 31).toUInt32).toInt32) &&& (2147483647 : Int32)) / (5 : Int32)) * (5 : Int32)))), .val (.int (own_f1_0 (i5 &&& (1 : Int32)) ((i5 &&& (1 : Int32)) + ((((i5.toUInt32 >>> ((1 : Int32) &&& 31).toUInt32).toInt32) &&& (2147483647 : Int32)) - ((((i5.toUInt32 >>> ((1 : Int32) &&& 31).toUInt32).toInt32) &&& (2147483647 : Int32)) / (5 : Int32)) * (5 : Int32))) (5 : Int32) (own_up (own_up (own_up (own_up (own_up (own_up (fun _ => 0) (0 : Int32).toNatClampNeg ((i4.toInt8.toInt32).toInt8.toInt32)) (4 : Int32).toNatClampNeg ((i4.toInt8.toInt32).toInt8.toInt32)) (i5 &&& (1 : Int32)).toNatClampNeg ((i0.toInt8.toInt32).toInt8.toInt32)) ((i5 &&& (1 : Int32)) + (1 : Int32)).toNatClampNeg ((i1.toInt8.toInt32).toInt8.toInt32)) ((i5 &&& (1 : Int32)) + (2 : Int32)).toNatClampNeg ((i2.toInt8.toInt32).toInt8.toInt32)) ((i5 &&& (1 : Int32)) + (3 : Int32)).toNatClampNeg ((i3.toInt8.toInt32).toInt8.toInt32))))] [])) _
    refine XS.iload X8.here hx rfl (hb hby at_88) rfl ?_
    show Steps p.tables e below (T8.setTop (mkF m 90 #[.val (.int i0), .val (.int i1), .val (.int i2), .val (.int i3), .val (.int i4), .val (.int i5), .val (.int (i5 &&& (1 : Int32))), .val (.int ((((i5.toUInt32 >>> ((1 : Int32) &&& 31).toUInt32).toInt32) &&& (2147483647 : Int32)) - ((((i5.toUInt32 >>> ((1 : Int32) &&& 31).toUInt32).toInt32) &&& (2147483647 : Int32)) / (5 : Int32)) * (5 : Int32))), .val (.ref b1), .val (.int ((i5 &&& (1 : Int32)) + ((((i5.toUInt32 >>> ((1 : Int32) &&& 31).toUInt32).toInt32) &&& (2147483647 : Int32)) - ((((i5.toUInt32 >>> ((1 : Int32) &&& 31).toUInt32).toInt32) &&& (2147483647 : Int32)) / (5 : Int32)) * (5 : Int32)))), .val (.int (own_f1_0 (i5 &&& (1 : Int32)) ((i5 &&& (1 : Int32)) + ((((i5.toUInt32 >>> ((1 : Int32) &&& 31).toUInt32).toInt32) &&& (2147483647 : Int32)) - ((((i5.toUInt32 >>> ((1 : Int32) &&& 31).toUInt32).toInt32) &&& (2147483647 : Int32)) / (5 : Int32)) * (5 : Int32))) (5 : Int32) (own_up (own_up (own_up (own_up (own_up (own_up (fun _ => 0) (0 : Int32).toNatClampNeg ((i4.toInt8.toInt32).toInt8.toInt32)) (4 : Int32).toNatClampNeg ((i4.toInt8.toInt32).toInt8.toInt32)) (i5 &&& (1 : Int32)).toNatClampNeg ((i0.toInt8.toInt32).toInt8.toInt32)) ((i5 &&& (1 : Int32)) + (1 : Int32)).toNatClampNeg ((i1.toInt8.toInt32).toInt8.toInt32)) ((i5 &&& (1 : Int32)) + (2 : Int32)).toNatClampNeg ((i2.toInt8.toInt32).toInt8.toInt32)) ((i5 &&& (1 : Int32)) + (3 : Int32)).toNatClampNeg ((i3.toInt8.toInt32).toInt8.toInt32))))] [(.int (own_f1_0 (i5 &&& (1 : Int32)) ((i5 &&& (1 : Int32)) + ((((i5.toUInt32 >>> ((1 : Int32) &&& 31).toUInt32).toInt32) &&& (2147483647 : Int32)) - ((((i5.toUInt32 >>> ((1 : Int32) &&& 31).toUInt32).toInt32) &&& (2147483647 : Int32)) / (5 : Int32)) * (5 : Int32))) (5 : Int32) (own_up (own_up (own_up (own_up (own_up (own_up (fun _ => 0) (0 : Int32).toNatClampNeg ((i4.toInt8.toInt32).toInt8.toInt32)) (4 : Int32).toNatClampNeg ((i4.toInt8.toInt32).toInt8.toInt32)) (i5 &&& (1 : Int32)).toNatClampNeg ((i0.toInt8.toInt32).toInt8.toInt32)) ((i5 &&& (1 : Int32)) + (1 : Int32)).toNatClampNeg ((i1.toInt8.toInt32).toInt8.toInt32)) ((i5 &&& (1 : Int32)) + (2 : Int32)).toNatClampNeg ((i2.toInt8.toInt32).toInt8.toInt32)) ((i5 &&& (1 : Int32)) + (3 : Int32)).toNatClampNeg ((i3.toInt8.toInt32).toInt8.toInt32))))])) _
    refine XS.iloadN X8.here hx rfl (hb hby at_90) rfl ?_
    show Steps p.tables e below (T8.setTop (mkF m 91 #[.val (.int i0), .val (.int i1), .val (.int i2), .val (.int i3), .val (.int i4), .val (.int i5), .val (.int (i5 &&& (1 : Int32))), .val (.int ((((i5.toUInt32 >>> ((1 : Int32) &&& 31).toUInt32).toInt32) &&& (2147483647 : Int32)) - ((((i5.toUInt32 >>> ((1 : Int32) &&& 31).toUInt32).toInt32) &&& (2147483647 : Int32)) / (5 : Int32)) * (5 : Int32))), .val (.ref b1), .val (.int ((i5 &&& (1 : Int32)) + ((((i5.toUInt32 >>> ((1 : Int32) &&& 31).toUInt32).toInt32) &&& (2147483647 : Int32)) - ((((i5.toUInt32 >>> ((1 : Int32) &&& 31).toUInt32).toInt32) &&& (2147483647 : Int32)) / (5 : Int32)) * (5 : Int32)))), .val (.int (own_f1_0 (i5 &&& (1 : Int32)) ((i5 &&& (1 : Int32)) + ((((i5.toUInt32 >>> ((1 : Int32) &&& 31).toUInt32).toInt32) &&& (2147483647 : Int32)) - ((((i5.toUInt32 >>> ((1 : Int32) &&& 31).toUInt32).toInt32) &&& (2147483647 : Int32)) / (5 : Int32)) * (5 : Int32))) (5 : Int32) (own_up (own_up (own_up (own_up (own_up (own_up (fun _ => 0) (0 : Int32).toNatClampNeg ((i4.toInt8.toInt32).toInt8.toInt32)) (4 : Int32).toNatClampNeg ((i4.toInt8.toInt32).toInt8.toInt32)) (i5 &&& (1 : Int32)).toNatClampNeg ((i0.toInt8.toInt32).toInt8.toInt32)) ((i5 &&& (1 : Int32)) + (1 : Int32)).toNatClampNeg ((i1.toInt8.toInt32).toInt8.toInt32)) ((i5 &&& (1 : Int32)) + (2 : Int32)).toNatClampNeg ((i2.toInt8.toInt32).toInt8.toInt32)) ((i5 &&& (1 : Int32)) + (3 : Int32)).toNatClampNeg ((i3.toInt8.toInt32).toInt8.toInt32))))] [(.int i0), (.int (own_f1_0 (i5 &&& (1 : Int32)) ((i5 &&& (1 : Int32)) + ((((i5.toUInt32 >>> ((1 : Int32) &&& 31).toUInt32).toInt32) &&& (2147483647 : Int32)) - ((((i5.toUInt32 >>> ((1 : Int32) &&& 31).toUInt32).toInt32) &&& (2147483647 : Int32)) / (5 : Int32)) * (5 : Int32))) (5 : Int32) (own_up (own_up (own_up (own_up (own_up (own_up (fun _ => 0) (0 : Int32).toNatClampNeg ((i4.toInt8.toInt32).toInt8.toInt32)) (4 : Int32).toNatClampNeg ((i4.toInt8.toInt32).toInt8.toInt32)) (i5 &&& (1 : Int32)).toNatClampNeg ((i0.toInt8.toInt32).toInt8.toInt32)) ((i5 &&& (1 : Int32)) + (1 : Int32)).toNatClampNeg ((i1.toInt8.toInt32).toInt8.toInt32)) ((i5 &&& (1 : Int32)) + (2 : Int32)).toNatClampNeg ((i2.toInt8.toInt32).toInt8.toInt32)) ((i5 &&& (1 : Int32)) + (3 : Int32)).toNatClampNeg ((i3.toInt8.toInt32).toInt8.toInt32))))])) _
    refine XS.sipush X8.here hx rfl (hb hby at_91) ?_
    show Steps p.tables e below (T8.setTop (mkF m 94 #[.val (.int i0), .val (.int i1), .val (.int i2), .val (.int i3), .val (.int i4), .val (.int i5), .val (.int (i5 &&& (1 : Int32))), .val (.int ((((i5.toUInt32 >>> ((1 : Int32) &&& 31).toUInt32).toInt32) &&& (2147483647 : Int32)) - ((((i5.toUInt32 >>> ((1 : Int32) &&& 31).toUInt32).toInt32) &&& (2147483647 : Int32)) / (5 : Int32)) * (5 : Int32))), .val (.ref b1), .val (.int ((i5 &&& (1 : Int32)) + ((((i5.toUInt32 >>> ((1 : Int32) &&& 31).toUInt32).toInt32) &&& (2147483647 : Int32)) - ((((i5.toUInt32 >>> ((1 : Int32) &&& 31).toUInt32).toInt32) &&& (2147483647 : Int32)) / (5 : Int32)) * (5 : Int32)))), .val (.int (own_f1_0 (i5 &&& (1 : Int32)) ((i5 &&& (1 : Int32)) + ((((i5.toUInt32 >>> ((1 : Int32) &&& 31).toUInt32).toInt32) &&& (2147483647 : Int32)) - ((((i5.toUInt32 >>> ((1 : Int32) &&& 31).toUInt32).toInt32) &&& (2147483647 : Int32)) / (5 : Int32)) * (5 : Int32))) (5 : Int32) (own_up (own_up (own_up (own_up (own_up (own_up (fun _ => 0) (0 : Int32).toNatClampNeg ((i4.toInt8.toInt32).toInt8.toInt32)) (4 : Int32).toNatClampNeg ((i4.toInt8.toInt32).toInt8.toInt32)) (i5 &&& (1 : Int32)).toNatClampNeg ((i0.toInt8.toInt32).toInt8.toInt32)) ((i5 &&& (1 : Int32)) + (1 : Int32)).toNatClampNeg ((i1.toInt8.toInt32).toInt8.toInt32)) ((i5 &&& (1 : Int32)) + (2 : Int32)).toNatClampNeg ((i2.toInt8.toInt32).toInt8.toInt32)) ((i5 &&& (1 : Int32)) + (3 : Int32)).toNatClampNeg ((i3.toInt8.toInt32).toInt8.toInt32))))] [(.int (255 : Int32)), (.int i0), (.int (own_f1_0 (i5 &&& (1 : Int32)) ((i5 &&& (1 : Int32)) + ((((i5.toUInt32 >>> ((1 : Int32) &&& 31).toUInt32).toInt32) &&& (2147483647 : Int32)) - ((((i5.toUInt32 >>> ((1 : Int32) &&& 31).toUInt32).toInt32) &&& (2147483647 : Int32)) / (5 : Int32)) * (5 : Int32))) (5 : Int32) (own_up (own_up (own_up (own_up (own_up (own_up (fun _ => 0) (0 : Int32).toNatClampNeg ((i4.toInt8.toInt32).toInt8.toInt32)) (4 : Int32).toNatClampNeg ((i4.toInt8.toInt32).toInt8.toInt32)) (i5 &&& (1 : Int32)).toNatClampNeg ((i0.toInt8.toInt32).toInt8.toInt32)) ((i5 &&& (1 : Int32)) + (1 : Int32)).toNatClampNeg ((i1.toInt8.toInt32).toInt8.toInt32)) ((i5 &&& (1 : Int32)) + (2 : Int32)).toNatClampNeg ((i2.toInt8.toInt32).toInt8.toInt32)) ((i5 &&& (1 : Int32)) + (3 : Int32)).toNatClampNeg ((i3.toInt8.toInt32).toInt8.toInt32))))])) _
    refine XS.iand X8.here hx rfl (hb hby at_94) rfl ?_
    show Steps p.tables e below (T8.setTop (mkF m 95 #[.val (.int i0), .val (.int i1), .val (.int i2), .val (.int i3), .val (.int i4), .val (.int i5), .val (.int (i5 &&& (1 : Int32))), .val (.int ((((i5.toUInt32 >>> ((1 : Int32) &&& 31).toUInt32).toInt32) &&& (2147483647 : Int32)) - ((((i5.toUInt32 >>> ((1 : Int32) &&& 31).toUInt32).toInt32) &&& (2147483647 : Int32)) / (5 : Int32)) * (5 : Int32))), .val (.ref b1), .val (.int ((i5 &&& (1 : Int32)) + ((((i5.toUInt32 >>> ((1 : Int32) &&& 31).toUInt32).toInt32) &&& (2147483647 : Int32)) - ((((i5.toUInt32 >>> ((1 : Int32) &&& 31).toUInt32).toInt32) &&& (2147483647 : Int32)) / (5 : Int32)) * (5 : Int32)))), .val (.int (own_f1_0 (i5 &&& (1 : Int32)) ((i5 &&& (1 : Int32)) + ((((i5.toUInt32 >>> ((1 : Int32) &&& 31).toUInt32).toInt32) &&& (2147483647 : Int32)) - ((((i5.toUInt32 >>> ((1 : Int32) &&& 31).toUInt32).toInt32) &&& (2147483647 : Int32)) / (5 : Int32)) * (5 : Int32))) (5 : Int32) (own_up (own_up (own_up (own_up (own_up (own_up (fun _ => 0) (0 : Int32).toNatClampNeg ((i4.toInt8.toInt32).toInt8.toInt32)) (4 : Int32).toNatClampNeg ((i4.toInt8.toInt32).toInt8.toInt32)) (i5 &&& (1 : Int32)).toNatClampNeg ((i0.toInt8.toInt32).toInt8.toInt32)) ((i5 &&& (1 : Int32)) + (1 : Int32)).toNatClampNeg ((i1.toInt8.toInt32).toInt8.toInt32)) ((i5 &&& (1 : Int32)) + (2 : Int32)).toNatClampNeg ((i2.toInt8.toInt32).toInt8.toInt32)) ((i5 &&& (1 : Int32)) + (3 : Int32)).toNatClampNeg ((i3.toInt8.toInt32).toInt8.toInt32))))] [(.int (i0 &&& (255 : Int32))), (.int (own_f1_0 (i5 &&& (1 : Int32)) ((i5 &&& (1 : Int32)) + ((((i5.toUInt32 >>> ((1 : Int32) &&& 31).toUInt32).toInt32) &&& (2147483647 : Int32)) - ((((i5.toUInt32 >>> ((1 : Int32) &&& 31).toUInt32).toInt32) &&& (2147483647 : Int32)) / (5 : Int32)) * (5 : Int32))) (5 : Int32) (own_up (own_up (own_up (own_up (own_up (own_up (fun _ => 0) (0 : Int32).toNatClampNeg ((i4.toInt8.toInt32).toInt8.toInt32)) (4 : Int32).toNatClampNeg ((i4.toInt8.toInt32).toInt8.toInt32)) (i5 &&& (1 : Int32)).toNatClampNeg ((i0.toInt8.toInt32).toInt8.toInt32)) ((i5 &&& (1 : Int32)) + (1 : Int32)).toNatClampNeg ((i1.toInt8.toInt32).toInt8.toInt32)) ((i5 &&& (1 : Int32)) + (2 : Int32)).toNatClampNeg ((i2.toInt8.toInt32).toInt8.toInt32)) ((i5 &&& (1 : Int32)) + (3 : Int32)).toNatClampNeg ((i3.toInt8.toInt32).toInt8.toInt32))))])) _
    refine XS.iloadN X8.here hx rfl (hb hby at_95) rfl ?_
    show Steps p.tables e below (T8.setTop (mkF m 96 #[.val (.int i0), .val (.int i1), .val (.int i2), .val (.int i3), .val (.int i4), .val (.int i5), .val (.int (i5 &&& (1 : Int32))), .val (.int ((((i5.toUInt32 >>> ((1 : Int32) &&& 31).toUInt32).toInt32) &&& (2147483647 : Int32)) - ((((i5.toUInt32 >>> ((1 : Int32) &&& 31).toUInt32).toInt32) &&& (2147483647 : Int32)) / (5 : Int32)) * (5 : Int32))), .val (.ref b1), .val (.int ((i5 &&& (1 : Int32)) + ((((i5.toUInt32 >>> ((1 : Int32) &&& 31).toUInt32).toInt32) &&& (2147483647 : Int32)) - ((((i5.toUInt32 >>> ((1 : Int32) &&& 31).toUInt32).toInt32) &&& (2147483647 : Int32)) / (5 : Int32)) * (5 : Int32)))), .val (.int (own_f1_0 (i5 &&& (1 : Int32)) ((i5 &&& (1 : Int32)) + ((((i5.toUInt32 >>> ((1 : Int32) &&& 31).toUInt32).toInt32) &&& (2147483647 : Int32)) - ((((i5.toUInt32 >>> ((1 : Int32) &&& 31).toUInt32).toInt32) &&& (2147483647 : Int32)) / (5 : Int32)) * (5 : Int32))) (5 : Int32) (own_up (own_up (own_up (own_up (own_up (own_up (fun _ => 0) (0 : Int32).toNatClampNeg ((i4.toInt8.toInt32).toInt8.toInt32)) (4 : Int32).toNatClampNeg ((i4.toInt8.toInt32).toInt8.toInt32)) (i5 &&& (1 : Int32)).toNatClampNeg ((i0.toInt8.toInt32).toInt8.toInt32)) ((i5 &&& (1 : Int32)) + (1 : Int32)).toNatClampNeg ((i1.toInt8.toInt32).toInt8.toInt32)) ((i5 &&& (1 : Int32)) + (2 : Int32)).toNatClampNeg ((i2.toInt8.toInt32).toInt8.toInt32)) ((i5 &&& (1 : Int32)) + (3 : Int32)).toNatClampNeg ((i3.toInt8.toInt32).toInt8.toInt32))))] [(.int i1), (.int (i0 &&& (255 : Int32))), (.int (own_f1_0 (i5 &&& (1 : Int32)) ((i5 &&& (1 : Int32)) + ((((i5.toUInt32 >>> ((1 : Int32) &&& 31).toUInt32).toInt32) &&& (2147483647 : Int32)) - ((((i5.toUInt32 >>> ((1 : Int32) &&& 31).toUInt32).toInt32) &&& (2147483647 : Int32)) / (5 : Int32)) * (5 : Int32))) (5 : Int32) (own_up (own_up (own_up (own_up (own_up (own_up (fun _ => 0) (0 : Int32).toNatClampNeg ((i4.toInt8.toInt32).toInt8.toInt32)) (4 : Int32).toNatClampNeg ((i4.toInt8.toInt32).toInt8.toInt32)) (i5 &&& (1 : Int32)).toNatClampNeg ((i0.toInt8.toInt32).toInt8.toInt32)) ((i5 &&& (1 : Int32)) + (1 : Int32)).toNatClampNeg ((i1.toInt8.toInt32).toInt8.toInt32)) ((i5 &&& (1 : Int32)) + (2 : Int32)).toNatClampNeg ((i2.toInt8.toInt32).toInt8.toInt32)) ((i5 &&& (1 : Int32)) + (3 : Int32)).toNatClampNeg ((i3.toInt8.toInt32).toInt8.toInt32))))])) _
    refine XS.sipush X8.here hx rfl (hb hby at_96) ?_
    show Steps p.tables e below (T8.setTop (mkF m 99 #[.val (.int i0), .val (.int i1), .val (.int i2), .val (.int i3), .val (.int i4), .val (.int i5), .val (.int (i5 &&& (1 : Int32))), .val (.int ((((i5.toUInt32 >>> ((1 : Int32) &&& 31).toUInt32).toInt32) &&& (2147483647 : Int32)) - ((((i5.toUInt32 >>> ((1 : Int32) &&& 31).toUInt32).toInt32) &&& (2147483647 : Int32)) / (5 : Int32)) * (5 : Int32))), .val (.ref b1), .val (.int ((i5 &&& (1 : Int32)) + ((((i5.toUInt32 >>> ((1 : Int32) &&& 31).toUInt32).toInt32) &&& (2147483647 : Int32)) - ((((i5.toUInt32 >>> ((1 : Int32) &&& 31).toUInt32).toInt32) &&& (2147483647 : Int32)) / (5 : Int32)) * (5 : Int32)))), .val (.int (own_f1_0 (i5 &&& (1 : Int32)) ((i5 &&& (1 : Int32)) + ((((i5.toUInt32 >>> ((1 : Int32) &&& 31).toUInt32).toInt32) &&& (2147483647 : Int32)) - ((((i5.toUInt32 >>> ((1 : Int32) &&& 31).toUInt32).toInt32) &&& (2147483647 : Int32)) / (5 : Int32)) * (5 : Int32))) (5 : Int32) (own_up (own_up (own_up (own_up (own_up (own_up (fun _ => 0) (0 : Int32).toNatClampNeg ((i4.toInt8.toInt32).toInt8.toInt32)) (4 : Int32).toNatClampNeg ((i4.toInt8.toInt32).toInt8.toInt32)) (i5 &&& (1 : Int32)).toNatClampNeg ((i0.toInt8.toInt32).toInt8.toInt32)) ((i5 &&& (1 : Int32)) + (1 : Int32)).toNatClampNeg ((i1.toInt8.toInt32).toInt8.toInt32)) ((i5 &&& (1 : Int32)) + (2 : Int32)).toNatClampNeg ((i2.toInt8.toInt32).toInt8.toInt32)) ((i5 &&& (1 : Int32)) + (3 : Int32)).toNatClampNeg ((i3.toInt8.toInt32).toInt8.toInt32))))] [(.int (255 : Int32)), (.int i1), (.int (i0 &&& (255 : Int32))), (.int (own_f1_0 (i5 &&& (1 : Int32)) ((i5 &&& (1 : Int32)) + ((((i5.toUInt32 >>> ((1 : Int32) &&& 31).toUInt32).toInt32) &&& (2147483647 : Int32)) - ((((i5.toUInt32 >>> ((1 : Int32) &&& 31).toUInt32).toInt32) &&& (2147483647 : Int32)) / (5 : Int32)) * (5 : Int32))) (5 : Int32) (own_up (own_up (own_up (own_up (own_up (own_up (fun _ => 0) (0 : Int32).toNatClampNeg ((i4.toInt8.toInt32).toInt8.toInt32)) (4 : Int32).toNatClampNeg ((i4.toInt8.toInt32).toInt8.toInt32)) (i5 &&& (1 : Int32)).toNatClampNeg ((i0.toInt8.toInt32).toInt8.toInt32)) ((i5 &&& (1 : Int32)) + (1 : Int32)).toNatClampNeg ((i1.toInt8.toInt32).toInt8.toInt32)) ((i5 &&& (1 : Int32)) + (2 : Int32)).toNatClampNeg ((i2.toInt8.toInt32).toInt8.toInt32)) ((i5 &&& (1 : Int32)) + (3 : Int32)).toNatClampNeg ((i3.toInt8.toInt32).toInt8.toInt32))))])) _
    refine XS.iand X8.here hx rfl (hb hby at_99) rfl ?_
    show Steps p.tables e below (T8.setTop (mkF m 100 #[.val (.int i0), .val (.int i1), .val (.int i2), .val (.int i3), .val (.int i4), .val (.int i5), .val (.int (i5 &&& (1 : Int32))), .val (.int ((((i5.toUInt32 >>> ((1 : Int32) &&& 31).toUInt32).toInt32) &&& (2147483647 : Int32)) - ((((i5.toUInt32 >>> ((1 : Int32) &&& 31).toUInt32).toInt32) &&& (2147483647 : Int32)) / (5 : Int32)) * (5 : Int32))), .val (.ref b1), .val (.int ((i5 &&& (1 : Int32)) + ((((i5.toUInt32 >>> ((1 : Int32) &&& 31).toUInt32).toInt32) &&& (2147483647 : Int32)) - ((((i5.toUInt32 >>> ((1 : Int32) &&& 31).toUInt32).toInt32) &&& (2147483647 : Int32)) / (5 : Int32)) * (5 : Int32)))), .val (.int (own_f1_0 (i5 &&& (1 : Int32)) ((i5 &&& (1 : Int32)) + ((((i5.toUInt32 >>> ((1 : Int32) &&& 31).toUInt32).toInt32) &&& (2147483647 : Int32)) - ((((i5.toUInt32 >>> ((1 : Int32) &&& 31).toUInt32).toInt32) &&& (2147483647 : Int32)) / (5 : Int32)) * (5 : Int32))) (5 : Int32) (own_up (own_up (own_up (own_up (own_up (own_up (fun _ => 0) (0 : Int32).toNatClampNeg ((i4.toInt8.toInt32).toInt8.toInt32)) (4 : Int32).toNatClampNeg ((i4.toInt8.toInt32).toInt8.toInt32)) (i5 &&& (1 : Int32)).toNatClampNeg ((i0.toInt8.toInt32).toInt8.toInt32)) ((i5 &&& (1 : Int32)) + (1 : Int32)).toNatClampNeg ((i1.toInt8.toInt32).toInt8.toInt32)) ((i5 &&& (1 : Int32)) + (2 : Int32)).toNatClampNeg ((i2.toInt8.toInt32).toInt8.toInt32)) ((i5 &&& (1 : Int32)) + (3 : Int32)).toNatClampNeg ((i3.toInt8.toInt32).toInt8.toInt32))))] [(.int (i1 &&& (255 : Int32))), (.int (i0 &&& (255 : Int32))), (.int (own_f1_0 (i5 &&& (1 : Int32)) ((i5 &&& (1 : Int32)) + ((((i5.toUInt32 >>> ((1 : Int32) &&& 31).toUInt32).toInt32) &&& (2147483647 : Int32)) - ((((i5.toUInt32 >>> ((1 : Int32) &&& 31).toUInt32).toInt32) &&& (2147483647 : Int32)) / (5 : Int32)) * (5 : Int32))) (5 : Int32) (own_up (own_up (own_up (own_up (own_up (own_up (fun _ => 0) (0 : Int32).toNatClampNeg ((i4.toInt8.toInt32).toInt8.toInt32)) (4 : Int32).toNatClampNeg ((i4.toInt8.toInt32).toInt8.toInt32)) (i5 &&& (1 : Int32)).toNatClampNeg ((i0.toInt8.toInt32).toInt8.toInt32)) ((i5 &&& (1 : Int32)) + (1 : Int32)).toNatClampNeg ((i1.toInt8.toInt32).toInt8.toInt32)) ((i5 &&& (1 : Int32)) + (2 : Int32)).toNatClampNeg ((i2.toInt8.toInt32).toInt8.toInt32)) ((i5 &&& (1 : Int32)) + (3 : Int32)).toNatClampNeg ((i3.toInt8.toInt32).toInt8.toInt32))))])) _
    refine XS.iloadN X8.here hx rfl (hb hby at_100) rfl ?_
    show Steps p.tables e below (T8.setTop (mkF m 101 #[.val (.int i0), .val (.int i1), .val (.int i2), .val (.int i3), .val (.int i4), .val (.int i5), .val (.int (i5 &&& (1 : Int32))), .val (.int ((((i5.toUInt32 >>> ((1 : Int32) &&& 31).toUInt32).toInt32) &&& (2147483647 : Int32)) - ((((i5.toUInt32 >>> ((1 : Int32) &&& 31).toUInt32).toInt32) &&& (2147483647 : Int32)) / (5 : Int32)) * (5 : Int32))), .val (.ref b1), .val (.int ((i5 &&& (1 : Int32)) + ((((i5.toUInt32 >>> ((1 : Int32) &&& 31).toUInt32).toInt32) &&& (2147483647 : Int32)) - ((((i5.toUInt32 >>> ((1 : Int32) &&& 31).toUInt32).toInt32) &&& (2147483647 : Int32)) / (5 : Int32)) * (5 : Int32)))), .val (.int (own_f1_0 (i5 &&& (1 : Int32)) ((i5 &&& (1 : Int32)) + ((((i5.toUInt32 >>> ((1 : Int32) &&& 31).toUInt32).toInt32) &&& (2147483647 : Int32)) - ((((i5.toUInt32 >>> ((1 : Int32) &&& 31).toUInt32).toInt32) &&& (2147483647 : Int32)) / (5 : Int32)) * (5 : Int32))) (5 : Int32) (own_up (own_up (own_up (own_up (own_up (own_up (fun _ => 0) (0 : Int32).toNatClampNeg ((i4.toInt8.toInt32).toInt8.toInt32)) (4 : Int32).toNatClampNeg ((i4.toInt8.toInt32).toInt8.toInt32)) (i5 &&& (1 : Int32)).toNatClampNeg ((i0.toInt8.toInt32).toInt8.toInt32)) ((i5 &&& (1 : Int32)) + (1 : Int32)).toNatClampNeg ((i1.toInt8.toInt32).toInt8.toInt32)) ((i5 &&& (1 : Int32)) + (2 : Int32)).toNatClampNeg ((i2.toInt8.toInt32).toInt8.toInt32)) ((i5 &&& (1 : Int32)) + (3 : Int32)).toNatClampNeg ((i3.toInt8.toInt32).toInt8.toInt32))))] [(.int i2), (.int (i1 &&& (255 : Int32))), (.int (i0 &&& (255 : Int32))), (.int (own_f1_0 (i5 &&& (1 : Int32)) ((i5 &&& (1 : Int32)) + ((((i5.toUInt32 >>> ((1 : Int32) &&& 31).toUInt32).toInt32) &&& (2147483647 : Int32)) - ((((i5.toUInt32 >>> ((1 : Int32) &&& 31).toUInt32).toInt32) &&& (2147483647 : Int32)) / (5 : Int32)) * (5 : Int32))) (5 : Int32) (own_up (own_up (own_up (own_up (own_up (own_up (fun _ => 0) (0 : Int32).toNatClampNeg ((i4.toInt8.toInt32).toInt8.toInt32)) (4 : Int32).toNatClampNeg ((i4.toInt8.toInt32).toInt8.toInt32)) (i5 &&& (1 : Int32)).toNatClampNeg ((i0.toInt8.toInt32).toInt8.toInt32)) ((i5 &&& (1 : Int32)) + (1 : Int32)).toNatClampNeg ((i1.toInt8.toInt32).toInt8.toInt32)) ((i5 &&& (1 : Int32)) + (2 : Int32)).toNatClampNeg ((i2.toInt8.toInt32).toInt8.toInt32)) ((i5 &&& (1 : Int32)) + (3 : Int32)).toNatClampNeg ((i3.toInt8.toInt32).toInt8.toInt32))))])) _
    refine XS.sipush X8.here hx rfl (hb hby at_101) ?_
    show Steps p.tables e below (T8.setTop (mkF m 104 #[.val (.int i0), .val (.int i1), .val (.int i2), .val (.int i3), .val (.int i4), .val (.int i5), .val (.int (i5 &&& (1 : Int32))), .val (.int ((((i5.toUInt32 >>> ((1 : Int32) &&& 31).toUInt32).toInt32) &&& (2147483647 : Int32)) - ((((i5.toUInt32 >>> ((1 : Int32) &&& 31).toUInt32).toInt32) &&& (2147483647 : Int32)) / (5 : Int32)) * (5 : Int32))), .val (.ref b1), .val (.int ((i5 &&& (1 : Int32)) + ((((i5.toUInt32 >>> ((1 : Int32) &&& 31).toUInt32).toInt32) &&& (2147483647 : Int32)) - ((((i5.toUInt32 >>> ((1 : Int32) &&& 31).toUInt32).toInt32) &&& (2147483647 : Int32)) / (5 : Int32)) * (5 : Int32)))), .val (.int (own_f1_0 (i5 &&& (1 : Int32)) ((i5 &&& (1 : Int32)) + ((((i5.toUInt32 >>> ((1 : Int32) &&& 31).toUInt32).toInt32) &&& (2147483647 : Int32)) - ((((i5.toUInt32 >>> ((1 : Int32) &&& 31).toUInt32).toInt32) &&& (2147483647 : Int32)) / (5 : Int32)) * (5 : Int32))) (5 : Int32) (own_up (own_up (own_up (own_up (own_up (own_up (fun _ => 0) (0 : Int32).toNatClampNeg ((i4.toInt8.toInt32).toInt8.toInt32)) (4 : Int32).toNatClampNeg ((i4.toInt8.toInt32).toInt8.toInt32)) (i5 &&& (1 : Int32)).toNatClampNeg ((i0.toInt8.toInt32).toInt8.toInt32)) ((i5 &&& (1 : Int32)) + (1 : Int32)).toNatClampNeg ((i1.toInt8.toInt32).toInt8.toInt32)) ((i5 &&& (1 : Int32)) + (2 : Int32)).toNatClampNeg ((i2.toInt8.toInt32).toInt8.toInt32)) ((i5 &&& (1 : Int32)) + (3 : Int32)).toNatClampNeg ((i3.toInt8.toInt32).toInt8.toInt32))))] [(.int (255 : Int32)), (.int i2), (.int (i1 &&& (255 : Int32))), (.int (i0 &&& (255 : Int32))), (.int (own_f1_0 (i5 &&& (1 : Int32)) ((i5 &&& (1 : Int32)) + ((((i5.toUInt32 >>> ((1 : Int32) &&& 31).toUInt32).toInt32) &&& (2147483647 : Int32)) - ((((i5.toUInt32 >>> ((1 : Int32) &&& 31).toUInt32).toInt32) &&& (2147483647 : Int32)) / (5 : Int32)) * (5 : Int32))) (5 : Int32) (own_up (own_up (own_up (own_up (own_up (own_up (fun _ => 0) (0 : Int32).toNatClampNeg ((i4.toInt8.toInt32).toInt8.toInt32)) (4 : Int32).toNatClampNeg ((i4.toInt8.toInt32).toInt8.toInt32)) (i5 &&& (1 : Int32)).toNatClampNeg ((i0.toInt8.toInt32).toInt8.toInt32)) ((i5 &&& (1 : Int32)) + (1 : Int32)).toNatClampNeg ((i1.toInt8.toInt32).toInt8.toInt32)) ((i5 &&& (1 : Int32)) + (2 : Int32)).toNatClampNeg ((i2.toInt8.toInt32).toInt8.toInt32)) ((i5 &&& (1 : Int32)) + (3 : Int32)).toNatClampNeg ((i3.toInt8.toInt32).toInt8.toInt32))))])) _
    refine XS.iand X8.here hx rfl (hb hby at_104) rfl ?_
    show Steps p.tables e below (T8.setTop (mkF m 105 #[.val (.int i0), .val (.int i1), .val (.int i2), .val (.int i3), .val (.int i4), .val (.int i5), .val (.int (i5 &&& (1 : Int32))), .val (.int ((((i5.toUInt32 >>> ((1 : Int32) &&& 31).toUInt32).toInt32) &&& (2147483647 : Int32)) - ((((i5.toUInt32 >>> ((1 : Int32) &&& 31).toUInt32).toInt32) &&& (2147483647 : Int32)) / (5 : Int32)) * (5 : Int32))), .val (.ref b1), .val (.int ((i5 &&& (1 : Int32)) + ((((i5.toUInt32 >>> ((1 : Int32) &&& 31).toUInt32).toInt32) &&& (2147483647 : Int32)) - ((((i5.toUInt32 >>> ((1 : Int32) &&& 31).toUInt32).toInt32) &&& (2147483647 : Int32)) / (5 : Int32)) * (5 : Int32)))), .val (.int (own_f1_0 (i5 &&& (1 : Int32)) ((i5 &&& (1 : Int32)) + ((((i5.toUInt32 >>> ((1 : Int32) &&& 31).toUInt32).toInt32) &&& (2147483647 : Int32)) - ((((i5.toUInt32 >>> ((1 : Int32) &&& 31).toUInt32).toInt32) &&& (2147483647 : Int32)) / (5 : Int32)) * (5 : Int32))) (5 : Int32) (own_up (own_up (own_up (own_up (own_up (own_up (fun _ => 0) (0 : Int32).toNatClampNeg ((i4.toInt8.toInt32).toInt8.toInt32)) (4 : Int32).toNatClampNeg ((i4.toInt8.toInt32).toInt8.toInt32)) (i5 &&& (1 : Int32)).toNatClampNeg ((i0.toInt8.toInt32).toInt8.toInt32)) ((i5 &&& (1 : Int32)) + (1 : Int32)).toNatClampNeg ((i1.toInt8.toInt32).toInt8.toInt32)) ((i5 &&& (1 : Int32)) + (2 : Int32)).toNatClampNeg ((i2.toInt8.toInt32).toInt8.toInt32)) ((i5 &&& (1 : Int32)) + (3 : Int32)).toNatClampNeg ((i3.toInt8.toInt32).toInt8.toInt32))))] [(.int (i2 &&& (255 : Int32))), (.int (i1 &&& (255 : Int32))), (.int (i0 &&& (255 : Int32))), (.int (own_f1_0 (i5 &&& (1 : Int32)) ((i5 &&& (1 : Int32)) + ((((i5.toUInt32 >>> ((1 : Int32) &&& 31).toUInt32).toInt32) &&& (2147483647 : Int32)) - ((((i5.toUInt32 >>> ((1 : Int32) &&& 31).toUInt32).toInt32) &&& (2147483647 : Int32)) / (5 : Int32)) * (5 : Int32))) (5 : Int32) (own_up (own_up (own_up (own_up (own_up (own_up (fun _ => 0) (0 : Int32).toNatClampNeg ((i4.toInt8.toInt32).toInt8.toInt32)) (4 : Int32).toNatClampNeg ((i4.toInt8.toInt32).toInt8.toInt32)) (i5 &&& (1 : Int32)).toNatClampNeg ((i0.toInt8.toInt32).toInt8.toInt32)) ((i5 &&& (1 : Int32)) + (1 : Int32)).toNatClampNeg ((i1.toInt8.toInt32).toInt8.toInt32)) ((i5 &&& (1 : Int32)) + (2 : Int32)).toNatClampNeg ((i2.toInt8.toInt32).toInt8.toInt32)) ((i5 &&& (1 : Int32)) + (3 : Int32)).toNatClampNeg ((i3.toInt8.toInt32).toInt8.toInt32))))])) _
    refine XS.iloadN X8.here hx rfl (hb hby at_105) rfl ?_
    show Steps p.tables e below (T8.setTop (mkF m 106 #[.val (.int i0), .val (.int i1), .val (.int i2), .val (.int i3), .val (.int i4), .val (.int i5), .val (.int (i5 &&& (1 : Int32))), .val (.int ((((i5.toUInt32 >>> ((1 : Int32) &&& 31).toUInt32).toInt32) &&& (2147483647 : Int32)) - ((((i5.toUInt32 >>> ((1 : Int32) &&& 31).toUInt32).toInt32) &&& (2147483647 : Int32)) / (5 : Int32)) * (5 : Int32))), .val (.ref b1), .val (.int ((i5 &&& (1 : Int32)) + ((((i5.toUInt32 >>> ((1 : Int32) &&& 31).toUInt32).toInt32) &&& (2147483647 : Int32)) - ((((i5.toUInt32 >>> ((1 : Int32) &&& 31).toUInt32).toInt32) &&& (2147483647 : Int32)) / (5 : Int32)) * (5 : Int32)))), .val (.int (own_f1_0 (i5 &&& (1 : Int32)) ((i5 &&& (1 : Int32)) + ((((i5.toUInt32 >>> ((1 : Int32) &&& 31).toUInt32).toInt32) &&& (2147483647 : Int32)) - ((((i5.toUInt32 >>> ((1 : Int32) &&& 31).toUInt32).toInt32) &&& (2147483647 : Int32)) / (5 : Int32)) * (5 : Int32))) (5 : Int32) (own_up (own_up (own_up (own_up (own_up (own_up (fun _ => 0) (0 : Int32).toNatClampNeg ((i4.toInt8.toInt32).toInt8.toInt32)) (4 : Int32).toNatClampNeg ((i4.toInt8.toInt32).toInt8.toInt32)) (i5 &&& (1 : Int32)).toNatClampNeg ((i0.toInt8.toInt32).toInt8.toInt32)) ((i5 &&& (1 : Int32)) + (1 : Int32)).toNatClampNeg ((i1.toInt8.toInt32).toInt8.toInt32)) ((i5 &&& (1 : Int32)) + (2 : Int32)).toNatClampNeg ((i2.toInt8.toInt32).toInt8.toInt32)) ((i5 &&& (1 : Int32)) + (3 : Int32)).toNatClampNeg ((i3.toInt8.toInt32).toInt8.toInt32))))] [(.int i3), (.int (i2 &&& (255 : Int32))), (.int (i1 &&& (255 : Int32))), (.int (i0 &&& (255 : Int32))), (.int (own_f1_0 (i5 &&& (1 : Int32)) ((i5 &&& (1 : Int32)) + ((((i5.toUInt32 >>> ((1 : Int32) &&& 31).toUInt32).toInt32) &&& (2147483647 : Int32)) - ((((i5.toUInt32 >>> ((1 : Int32) &&& 31).toUInt32).toInt32) &&& (2147483647 : Int32)) / (5 : Int32)) * (5 : Int32))) (5 : Int32) (own_up (own_up (own_up (own_up (own_up (own_up (fun _ => 0) (0 : Int32).toNatClampNeg ((i4.toInt8.toInt32).toInt8.toInt32)) (4 : Int32).toNatClampNeg ((i4.toInt8.toInt32).toInt8.toInt32)) (i5 &&& (1 : Int32)).toNatClampNeg ((i0.toInt8.toInt32).toInt8.toInt32)) ((i5 &&& (1 : Int32)) + (1 : Int32)).toNatClampNeg ((i1.toInt8.toInt32).toInt8.toInt32)) ((i5 &&& (1 : Int32)) + (2 : Int32)).toNatClampNeg ((i2.toInt8.toInt32).toInt8.toInt32)) ((i5 &&& (1 : Int32)) + (3 : Int32)).toNatClampNeg ((i3.toInt8.toInt32).toInt8.toInt32))))])) _
    refine XS.sipush X8.here hx rfl (hb hby at_106) ?_
    show Steps p.tables e below (T8.setTop (mkF m 109 #[.val (.int i0), .val (.int i1), .val (.int i2), .val (.int i3), .val (.int i4), .val (.int i5), .val (.int (i5 &&& (1 : Int32))), .val (.int ((((i5.toUInt32 >>> ((1 : Int32) &&& 31).toUInt32).toInt32) &&& (2147483647 : Int32)) - ((((i5.toUInt32 >>> ((1 : Int32) &&& 31).toUInt32).toInt32) &&& (2147483647 : Int32)) / (5 : Int32)) * (5 : Int32))), .val (.ref b1), .val (.int ((i5 &&& (1 : Int32)) + ((((i5.toUInt32 >>> ((1 : Int32) &&& 31).toUInt32).toInt32) &&& (2147483647 : Int32)) - ((((i5.toUInt32 >>> ((1 : Int32) &&& 31).toUInt32).toInt32) &&& (2147483647 : Int32)) / (5 : Int32)) * (5 : Int32)))), .val (.int (own_f1_0 (i5 &&& (1 : Int32)) ((i5 &&& (1 : Int32)) + ((((i5.toUInt32 >>> ((1 : Int32) &&& 31).toUInt32).toInt32) &&& (2147483647 : Int32)) - ((((i5.toUInt32 >>> ((1 : Int32) &&& 31).toUInt32).toInt32) &&& (2147483647 : Int32)) / (5 : Int32)) * (5 : Int32))) (5 : Int32) (own_up (own_up (own_up (own_up (own_up (own_up (fun _ => 0) (0 : Int32).toNatClampNeg ((i4.toInt8.toInt32).toInt8.toInt32)) (4 : Int32).toNatClampNeg ((i4.toInt8.toInt32).toInt8.toInt32)) (i5 &&& (1 : Int32)).toNatClampNeg ((i0.toInt8.toInt32).toInt8.toInt32)) ((i5 &&& (1 : Int32)) + (1 : Int32)).toNatClampNeg ((i1.toInt8.toInt32).toInt8.toInt32)) ((i5 &&& (1 : Int32)) + (2 : Int32)).toNatClampNeg ((i2.toInt8.toInt32).toInt8.toInt32)) ((i5 &&& (1 : Int32)) + (3 : Int32)).toNatClampNeg ((i3.toInt8.toInt32).toInt8.toInt32))))] [(.int (255 : Int32)), (.int i3), (.int (i2 &&& (255 : Int32))), (.int (i1 &&& (255 : Int32))), (.int (i0 &&& (255 : Int32))), (.int (own_f1_0 (i5 &&& (1 : Int32)) ((i5 &&& (1 : Int32)) + ((((i5.toUInt32 >>> ((1 : Int32) &&& 31).toUInt32).toInt32) &&& (2147483647 : Int32)) - ((((i5.toUInt32 >>> ((1 : Int32) &&& 31).toUInt32).toInt32) &&& (2147483647 : Int32)) / (5 : Int32)) * (5 : Int32))) (5 : Int32) (own_up (own_up (own_up (own_up (own_up (own_up (fun _ => 0) (0 : Int32).toNatClampNeg ((i4.toInt8.toInt32).toInt8.toInt32)) (4 : Int32).toNatClampNeg ((i4.toInt8.toInt32).toInt8.toInt32)) (i5 &&& (1 : Int32)).toNatClampNeg ((i0.toInt8.toInt32).toInt8.toInt32)) ((i5 &&& (1 : Int32)) + (1 : Int32)).toNatClampNeg ((i1.toInt8.toInt32).toInt8.toInt32)) ((i5 &&& (1 : Int32)) + (2 : Int32)).toNatClampNeg ((i2.toInt8.toInt32).toInt8.toInt32)) ((i5 &&& (1 : Int32)) + (3 : Int32)).toNatClampNeg ((i3.toInt8.toInt32).toInt8.toInt32))))])) _
    refine XS.iand X8.here hx rfl (hb hby at_109) rfl ?_
    show Steps p.tables e below (T8.setTop (mkF m 110 #[.val (.int i0), .val (.int i1), .val (.int i2), .val (.int i3), .val (.int i4), .val (.int i5), .val (.int (i5 &&& (1 : Int32))), .val (.int ((((i5.toUInt32 >>> ((1 : Int32) &&& 31).toUInt32).toInt32) &&& (2147483647 : Int32)) - ((((i5.toUInt32 >>> ((1 : Int32) &&& 31).toUInt32).toInt32) &&& (2147483647 : Int32)) / (5 : Int32)) * (5 : Int32))), .val (.ref b1), .val (.int ((i5 &&& (1 : Int32)) + ((((i5.toUInt32 >>> ((1 : Int32) &&& 31).toUInt32).toInt32) &&& (2147483647 : Int32)) - ((((i5.toUInt32 >>> ((1 : Int32) &&& 31).toUInt32).toInt32) &&& (2147483647 : Int32)) / (5 : Int32)) * (5 : Int32)))), .val (.int (own_f1_0 (i5 &&& (1 : Int32)) ((i5 &&& (1 : Int32)) + ((((i5.toUInt32 >>> ((1 : Int32) &&& 31).toUInt32).toInt32) &&& (2147483647 : Int32)) - ((((i5.toUInt32 >>> ((1 : Int32) &&& 31).toUInt32).toInt32) &&& (2147483647 : Int32)) / (5 : Int32)) * (5 : Int32))) (5 : Int32) (own_up (own_up (own_up (own_up (own_up (own_up (fun _ => 0) (0 : Int32).toNatClampNeg ((i4.toInt8.toInt32).toInt8.toInt32)) (4 : Int32).toNatClampNeg ((i4.toInt8.toInt32).toInt8.toInt32)) (i5 &&& (1 : Int32)).toNatClampNeg ((i0.toInt8.toInt32).toInt8.toInt32)) ((i5 &&& (1 : Int32)) + (1 : Int32)).toNatClampNeg ((i1.toInt8.toInt32).toInt8.toInt32)) ((i5 &&& (1 : Int32)) + (2 : Int32)).toNatClampNeg ((i2.toInt8.toInt32).toInt8.toInt32)) ((i5 &&& (1 : Int32)) + (3 : Int32)).toNatClampNeg ((i3.toInt8.toInt32).toInt8.toInt32))))] [(.int (i3 &&& (255 : Int32))), (.int (i2 &&& (255 : Int32))), (.int (i1 &&& (255 : Int32))), (.int (i0 &&& (255 : Int32))), (.int (own_f1_0 (i5 &&& (1 : Int32)) ((i5 &&& (1 : Int32)) + ((((i5.toUInt32 >>> ((1 : Int32) &&& 31).toUInt32).toInt32) &&& (2147483647 : Int32)) - ((((i5.toUInt32 >>> ((1 : Int32) &&& 31).toUInt32).toInt32) &&& (2147483647 : Int32)) / (5 : Int32)) * (5 : Int32))) (5 : Int32) (own_up (own_up (own_up (own_up (own_up (own_up (fun _ => 0) (0 : Int32).toNatClampNeg ((i4.toInt8.toInt32).toInt8.toInt32)) (4 : Int32).toNatClampNeg ((i4.toInt8.toInt32).toInt8.toInt32)) (i5 &&& (1 : Int32)).toNatClampNeg ((i0.toInt8.toInt32).toInt8.toInt32)) ((i5 &&& (1 : Int32)) + (1 : Int32)).toNatClampNeg ((i1.toInt8.toInt32).toInt8.toInt32)) ((i5 &&& (1 : Int32)) + (2 : Int32)).toNatClampNeg ((i2.toInt8.toInt32).toInt8.toInt32)) ((i5 &&& (1 : Int32)) + (3 : Int32)).toNatClampNeg ((i3.toInt8.toInt32).toInt8.toInt32))))])) _
    refine XS.iload X8.here hx rfl (hb hby at_110) rfl ?_
    show Steps p.tables e below (T8.setTop (mkF m 112 #[.val (.int i0), .val (.int i1), .val (.int i2), .val (.int i3), .val (.int i4), .val (.int i5), .val (.int (i5 &&& (1 : Int32))), .val (.int ((((i5.toUInt32 >>> ((1 : Int32) &&& 31).toUInt32).toInt32) &&& (2147483647 : Int32)) - ((((i5.toUInt32 >>> ((1 : Int32) &&& 31).toUInt32).toInt32) &&& (2147483647 : Int32)) / (5 : Int32)) * (5 : Int32))), .val (.ref b1), .val (.int ((i5 &&& (1 : Int32)) + ((((i5.toUInt32 >>> ((1 : Int32) &&& 31).toUInt32).toInt32) &&& (2147483647 : Int32)) - ((((i5.toUInt32 >>> ((1 : Int32) &&& 31).toUInt32).toInt32) &&& (2147483647 : Int32)) / (5 : Int32)) * (5 : Int32)))), .val (.int (own_f1_0 (i5 &&& (1 : Int32)) ((i5 &&& (1 : Int32)) + ((((i5.toUInt32 >>> ((1 : Int32) &&& 31).toUInt32).toInt32) &&& (2147483647 : Int32)) - ((((i5.toUInt32 >>> ((1 : Int32) &&& 31).toUInt32).toInt32) &&& (2147483647 : Int32)) / (5 : Int32)) * (5 : Int32))) (5 : Int32) (own_up (own_up (own_up (own_up (own_up (own_up (fun _ => 0) (0 : Int32).toNatClampNeg ((i4.toInt8.toInt32).toInt8.toInt32)) (4 : Int32).toNatClampNeg ((i4.toInt8.toInt32).toInt8.toInt32)) (i5 &&& (1 : Int32)).toNatClampNeg ((i0.toInt8.toInt32).toInt8.toInt32)) ((i5 &&& (1 : Int32)) + (1 : Int32)).toNatClampNeg ((i1.toInt8.toInt32).toInt8.toInt32)) ((i5 &&& (1 : Int32)) + (2 : Int32)).toNatClampNeg ((i2.toInt8.toInt32).toInt8.toInt32)) ((i5 &&& (1 : Int32)) + (3 : Int32)).toNatClampNeg ((i3.toInt8.toInt32).toInt8.toInt32))))] [(.int ((((i5.toUInt32 >>> ((1 : Int32) &&& 31).toUInt32).toInt32) &&& (2147483647 : Int32)) - ((((i5.toUInt32 >>> ((1 : Int32) &&& 31).toUInt32).toInt32) &&& (2147483647 : Int32)) / (5 : Int32)) * (5 : Int32))), (.int (i3 &&& (255 : Int32))), (.int (i2 &&& (255 : Int32))), (.int (i1 &&& (255 : Int32))), (.int (i0 &&& (255 : Int32))), (.int (own_f1_0 (i5 &&& (1 : Int32)) ((i5 &&& (1 : Int32)) + ((((i5.toUInt32 >>> ((1 : Int32) &&& 31).toUInt32).toInt32) &&& (2147483647 : Int32)) - ((((i5.toUInt32 >>> ((1 : Int32) &&& 31).toUInt32).toInt32) &&& (2147483647 : Int32)) / (5 : Int32)) * (5 : Int32))) (5 : Int32) (own_up (own_up (own_up (own_up (own_up (own_up (fun _ => 0) (0 : Int32).toNatClampNeg ((i4.toInt8.toInt32).toInt8.toInt32)) (4 : Int32).toNatClampNeg ((i4.toInt8.toInt32).toInt8.toInt32)) (i5 &&& (1 : Int32)).toNatClampNeg ((i0.toInt8.toInt32).toInt8.toInt32)) ((i5 &&& (1 : Int32)) + (1 : Int32)).toNatClampNeg ((i1.toInt8.toInt32).toInt8.toInt32)) ((i5 &&& (1 : Int32)) + (2 : Int32)).toNatClampNeg ((i2.toInt8.toInt32).toInt8.toInt32)) ((i5 &&& (1 : Int32)) + (3 : Int32)).toNatClampNeg ((i3.toInt8.toInt32).toInt8.toInt32))))])) _
    refine st9 _ ?_
    exact kt
  by_cases hc115 : (own_f1_0 (i5 &&& (1 : Int32)) ((i5 &&& (1 : Int32)) + ((((i5.toUInt32 >>> ((1 : Int32) &&& 31).toUInt32).toInt32) &&& (2147483647 : Int32)) - ((((i5.toUInt32 >>> ((1 : Int32) &&& 31).toUInt32).toInt32) &&& (2147483647 : Int32)) / (5 : Int32)) * (5 : Int32))) (5 : Int32) (own_up (own_up (own_up (own_up (own_up (own_up (fun _ => 0) (0 : Int32).toNatClampNeg ((i4.toInt8.toInt32).toInt8.toInt32)) (4 : Int32).toNatClampNeg ((i4.toInt8.toInt32).toInt8.toInt32)) (i5 &&& (1 : Int32)).toNatClampNeg ((i0.toInt8.toInt32).toInt8.toInt32)) ((i5 &&& (1 : Int32)) + (1 : Int32)).toNatClampNeg ((i1.toInt8.toInt32).toInt8.toInt32)) ((i5 &&& (1 : Int32)) + (2 : Int32)).toNatClampNeg ((i2.toInt8.toInt32).toInt8.toInt32)) ((i5 &&& (1 : Int32)) + (3 : Int32)).toNatClampNeg ((i3.toInt8.toInt32).toInt8.toInt32))) = (own_f2_0 (i0 &&& (255 : Int32)) (i1 &&& (255 : Int32)) (i2 &&& (255 : Int32)) (i3 &&& (255 : Int32)) ((((i5.toUInt32 >>> ((1 : Int32) &&& 31).toUInt32).toInt32) &&& (2147483647 : Int32)) - ((((i5.toUInt32 >>> ((1 : Int32) &&& 31).toUInt32).toInt32) &&& (2147483647 : Int32)) / (5 : Int32)) * (5 : Int32)))
  · refine ⟨T9, _, _, _, X9, N7, (by decide), (by decide), fun fs hr => ?_⟩
    have hv : (own_f0_0 i0 i1 i2 i3 i4 i5) = (1 : Int32) := by unfold own_f0_0; rw [if_pos hc115]
    rw [hv] at hr
    refine pre10 _ ?_
    show Steps p.tables e below (T9.setTop (mkF m 115 #[.val (.int i0), .val (.int i1), .val (.int i2), .val (.int i3), .val (.int i4), .val (.int i5), .val (.int (i5 &&& (1 : Int32))), .val (.int ((((i5.toUInt32 >>> ((1 : Int32) &&& 31).toUInt32).toInt32) &&& (2147483647 : Int32)) - ((((i5.toUInt32 >>> ((1 : Int32) &&& 31).toUInt32).toInt32) &&& (2147483647 : Int32)) / (5 : Int32)) * (5 : Int32))), .val (.ref b1), .val (.int ((i5 &&& (1 : Int32)) + ((((i5.toUInt32 >>> ((1 : Int32) &&& 31).toUInt32).toInt32) &&& (2147483647 : Int32)) - ((((i5.toUInt32 >>> ((1 : Int32) &&& 31).toUInt32).toInt32) &&& (2147483647 : Int32)) / (5 : Int32)) * (5 : Int32)))), .val (.int (own_f1_0 (i5 &&& (1 : Int32)) ((i5 &&& (1 : Int32)) + ((((i5.toUInt32 >>> ((1 : Int32) &&& 31).toUInt32).toInt32) &&& (2147483647 : Int32)) - ((((i5.toUInt32 >>> ((1 : Int32) &&& 31).toUInt32).toInt32) &&& (2147483647 : Int32)) / (5 : Int32)) * (5 : Int32))) (5 : Int32) (own_up (own_up (own_up (own_up (own_up (own_up (fun _ => 0) (0 : Int32).toNatClampNeg ((i4.toInt8.toInt32).toInt8.toInt32)) (4 : Int32).toNatClampNeg ((i4.toInt8.toInt32).toInt8.toInt32)) (i5 &&& (1 : Int32)).toNatClampNeg ((i0.toInt8.toInt32).toInt8.toInt32)) ((i5 &&& (1 : Int32)) + (1 : Int32)).toNatClampNeg ((i1.toInt8.toInt32).toInt8.toInt32)) ((i5 &&& (1 : Int32)) + (2 : Int32)).toNatClampNeg ((i2.toInt8.toInt32).toInt8.toInt32)) ((i5 &&& (1 : Int32)) + (3 : Int32)).toNatClampNeg ((i3.toInt8.toInt32).toInt8.toInt32))))] [(.int (own_f2_0 (i0 &&& (255 : Int32)) (i1 &&& (255 : Int32)) (i2 &&& (255 : Int32)) (i3 &&& (255 : Int32)) ((((i5.toUInt32 >>> ((1 : Int32) &&& 31).toUInt32).toInt32) &&& (2147483647 : Int32)) - ((((i5.toUInt32 >>> ((1 : Int32) &&& 31).toUInt32).toInt32) &&& (2147483647 : Int32)) / (5 : Int32)) * (5 : Int32)))), (.int (own_f1_0 (i5 &&& (1 : Int32)) ((i5 &&& (1 : Int32)) + ((((i5.toUInt32 >>> ((1 : Int32) &&& 31).toUInt32).toInt32) &&& (2147483647 : Int32)) - ((((i5.toUInt32 >>> ((1 : Int32) &&& 31).toUInt32).toInt32) &&& (2147483647 : Int32)) / (5 : Int32)) * (5 : Int32))) (5 : Int32) (own_up (own_up (own_up (own_up (own_up (own_up (fun _ => 0) (0 : Int32).toNatClampNeg ((i4.toInt8.toInt32).toInt8.toInt32)) (4 : Int32).toNatClampNeg ((i4.toInt8.toInt32).toInt8.toInt32)) (i5 &&& (1 : Int32)).toNatClampNeg ((i0.toInt8.toInt32).toInt8.toInt32)) ((i5 &&& (1 : Int32)) + (1 : Int32)).toNatClampNeg ((i1.toInt8.toInt32).toInt8.toInt32)) ((i5 &&& (1 : Int32)) + (2 : Int32)).toNatClampNeg ((i2.toInt8.toInt32).toInt8.toInt32)) ((i5 &&& (1 : Int32)) + (3 : Int32)).toNatClampNeg ((i3.toInt8.toInt32).toInt8.toInt32))))])) _
    refine XS.icmpNo X9.here hx rfl (hb hby at_115) rfl (teq hc115).2 ?_
    show Steps p.tables e below (T9.setTop (mkF m 118 #[.val (.int i0), .val (.int i1), .val (.int i2), .val (.int i3), .val (.int i4), .val (.int i5), .val (.int (i5 &&& (1 : Int32))), .val (.int ((((i5.toUInt32 >>> ((1 : Int32) &&& 31).toUInt32).toInt32) &&& (2147483647 : Int32)) - ((((i5.toUInt32 >>> ((1 : Int32) &&& 31).toUInt32).toInt32) &&& (2147483647 : Int32)) / (5 : Int32)) * (5 : Int32))), .val (.ref b1), .val (.int ((i5 &&& (1 : Int32)) + ((((i5.toUInt32 >>> ((1 : Int32) &&& 31).toUInt32).toInt32) &&& (2147483647 : Int32)) - ((((i5.toUInt32 >>> ((1 : Int32) &&& 31).toUInt32).toInt32) &&& (2147483647 : Int32)) / (5 : Int32)) * (5 : Int32)))), .val (.int (own_f1_0 (i5 &&& (1 : Int32)) ((i5 &&& (1 : Int32)) + ((((i5.toUInt32 >>> ((1 : Int32) &&& 31).toUInt32).toInt32) &&& (2147483647 : Int32)) - ((((i5.toUInt32 >>> ((1 : Int32) &&& 31).toUInt32).toInt32) &&& (2147483647 : Int32)) / (5 : Int32)) * (5 : Int32))) (5 : Int32) (own_up (own_up (own_up (own_up (own_up (own_up (fun _ => 0) (0 : Int32).toNatClampNeg ((i4.toInt8.toInt32).toInt8.toInt32)) (4 : Int32).toNatClampNeg ((i4.toInt8.toInt32).toInt8.toInt32)) (i5 &&& (1 : Int32)).toNatClampNeg ((i0.toInt8.toInt32).toInt8.toInt32)) ((i5 &&& (1 : Int32)) + (1 : Int32)).toNatClampNeg ((i1.toInt8.toInt32).toInt8.toInt32)) ((i5 &&& (1 : Int32)) + (2 : Int32)).toNatClampNeg ((i2.toInt8.toInt32).toInt8.toInt32)) ((i5 &&& (1 : Int32)) + (3 : Int32)).toNatClampNeg ((i3.toInt8.toInt32).toInt8.toInt32))))] [])) _
    refine XS.iconst X9.here hx rfl (hb hby at_118) ?_
    show Steps p.tables e below (T9.setTop (mkF m 119 #[.val (.int i0), .val (.int i1), .val (.int i2), .val (.int i3), .val (.int i4), .val (.int i5), .val (.int (i5 &&& (1 : Int32))), .val (.int ((((i5.toUInt32 >>> ((1 : Int32) &&& 31).toUInt32).toInt32) &&& (2147483647 : Int32)) - ((((i5.toUInt32 >>> ((1 : Int32) &&& 31).toUInt32).toInt32) &&& (2147483647 : Int32)) / (5 : Int32)) * (5 : Int32))), .val (.ref b1), .val (.int ((i5 &&& (1 : Int32)) + ((((i5.toUInt32 >>> ((1 : Int32) &&& 31).toUInt32).toInt32) &&& (2147483647 : Int32)) - ((((i5.toUInt32 >>> ((1 : Int32) &&& 31).toUInt32).toInt32) &&& (2147483647 : Int32)) / (5 : Int32)) * (5 : Int32)))), .val (.int (own_f1_0 (i5 &&& (1 : Int32)) ((i5 &&& (1 : Int32)) + ((((i5.toUInt32 >>> ((1 : Int32) &&& 31).toUInt32).toInt32) &&& (2147483647 : Int32)) - ((((i5.toUInt32 >>> ((1 : Int32) &&& 31).toUInt32).toInt32) &&& (2147483647 : Int32)) / (5 : Int32)) * (5 : Int32))) (5 : Int32) (own_up (own_up (own_up (own_up (own_up (own_up (fun _ => 0) (0 : Int32).toNatClampNeg ((i4.toInt8.toInt32).toInt8.toInt32)) (4 : Int32).toNatClampNeg ((i4.toInt8.toInt32).toInt8.toInt32)) (i5 &&& (1 : Int32)).toNatClampNeg ((i0.toInt8.toInt32).toInt8.toInt32)) ((i5 &&& (1 : Int32)) + (1 : Int32)).toNatClampNeg ((i1.toInt8.toInt32).toInt8.toInt32)) ((i5 &&& (1 : Int32)) + (2 : Int32)).toNatClampNeg ((i2.toInt8.toInt32).toInt8.toInt32)) ((i5 &&& (1 : Int32)) + (3 : Int32)).toNatClampNeg ((i3.toInt8.toInt32).toInt8.toInt32))))] [(.int (1 : Int32))])) _
    refine XS.goto X9.here hx rfl (pc0 := 119) (pc' := 123) rfl (hb hby at_119) (by decide) (by decide) ?_
    show Steps p.tables e below (T9.setTop (mkF m 123 #[.val (.int i0), .val (.int i1), .val (.int i2), .val (.int i3), .val (.int i4), .val (.int i5), .val (.int (i5 &&& (1 : Int32))), .val (.int ((((i5.toUInt32 >>> ((1 : Int32) &&& 31).toUInt32).toInt32) &&& (2147483647 : Int32)) - ((((i5.toUInt32 >>> ((1 : Int32) &&& 31).toUInt32).toInt32) &&& (2147483647 : Int32)) / (5 : Int32)) * (5 : Int32))), .val (.ref b1), .val (.int ((i5 &&& (1 : Int32)) + ((((i5.toUInt32 >>> ((1 : Int32) &&& 31).toUInt32).toInt32) &&& (2147483647 : Int32)) - ((((i5.toUInt32 >>> ((1 : Int32) &&& 31).toUInt32).toInt32) &&& (2147483647 : Int32)) / (5 : Int32)) * (5 : Int32)))), .val (.int (own_f1_0 (i5 &&& (1 : Int32)) ((i5 &&& (1 : Int32)) + ((((i5.toUInt32 >>> ((1 : Int32) &&& 31).toUInt32).toInt32) &&& (2147483647 : Int32)) - ((((i5.toUInt32 >>> ((1 : Int32) &&& 31).toUInt32).toInt32) &&& (2147483647 : Int32)) / (5 : Int32)) * (5 : Int32))) (5 : Int32) (own_up (own_up (own_up (own_up (own_up (own_up (fun _ => 0) (0 : Int32).toNatClampNeg ((i4.toInt8.toInt32).toInt8.toInt32)) (4 : Int32).toNatClampNeg ((i4.toInt8.toInt32).toInt8.toInt32)) (i5 &&& (1 : Int32)).toNatClampNeg ((i0.toInt8.toInt32).toInt8.toInt32)) ((i5 &&& (1 : Int32)) + (1 : Int32)).toNatClampNeg ((i1.toInt8.toInt32).toInt8.toInt32)) ((i5 &&& (1 : Int32)) + (2 : Int32)).toNatClampNeg ((i2.toInt8.toInt32).toInt8.toInt32)) ((i5 &&& (1 : Int32)) + (3 : Int32)).toNatClampNeg ((i3.toInt8.toInt32).toInt8.toInt32))))] [(.int (1 : Int32))])) _
    exact retN X9 hx (t := .boolean) hret (by simp) (hb hby at_123) hr
  · refine ⟨T9, _, _, _, X9, N7, (by decide), (by decide), fun fs hr => ?_⟩
    have hv : (own_f0_0 i0 i1 i2 i3 i4 i5) = (0 : Int32) := by unfold own_f0_0; rw [if_neg hc115]
    rw [hv] at hr
    refine pre10 _ ?_
    show Steps p.tables e below (T9.setTop (mkF m 115 #[.val (.int i0), .val (.int i1), .val (.int i2), .val (.int i3), .val (.int i4), .val (.int i5), .val (.int (i5 &&& (1 : Int32))), .val (.int ((((i5.toUInt32 >>> ((1 : Int32) &&& 31).toUInt32).toInt32) &&& (2147483647 : Int32)) - ((((i5.toUInt32 >>> ((1 : Int32) &&& 31).toUInt32).toInt32) &&& (2147483647 : Int32)) / (5 : Int32)) * (5 : Int32))), .val (.ref b1), .val (.int ((i5 &&& (1 : Int32)) + ((((i5.toUInt32 >>> ((1 : Int32) &&& 31).toUInt32).toInt32) &&& (2147483647 : Int32)) - ((((i5.toUInt32 >>> ((1 : Int32) &&& 31).toUInt32).toInt32) &&& (2147483647 : Int32)) / (5 : Int32)) * (5 : Int32)))), .val (.int (own_f1_0 (i5 &&& (1 : Int32)) ((i5 &&& (1 : Int32)) + ((((i5.toUInt32 >>> ((1 : Int32) &&& 31).toUInt32).toInt32) &&& (2147483647 : Int32)) - ((((i5.toUInt32 >>> ((1 : Int32) &&& 31).toUInt32).toInt32) &&& (2147483647 : Int32)) / (5 : Int32)) * (5 : Int32))) (5 : Int32) (own_up (own_up (own_up (own_up (own_up (own_up (fun _ => 0) (0 : Int32).toNatClampNeg ((i4.toInt8.toInt32).toInt8.toInt32)) (4 : Int32).toNatClampNeg ((i4.toInt8.toInt32).toInt8.toInt32)) (i5 &&& (1 : Int32)).toNatClampNeg ((i0.toInt8.toInt32).toInt8.toInt32)) ((i5 &&& (1 : Int32)) + (1 : Int32)).toNatClampNeg ((i1.toInt8.toInt32).toInt8.toInt32)) ((i5 &&& (1 : Int32)) + (2 : Int32)).toNatClampNeg ((i2.toInt8.toInt32).toInt8.toInt32)) ((i5 &&& (1 : Int32)) + (3 : Int32)).toNatClampNeg ((i3.toInt8.toInt32).toInt8.toInt32))))] [(.int (own_f2_0 (i0 &&& (255 : Int32)) (i1 &&& (255 : Int32)) (i2 &&& (255 : Int32)) (i3 &&& (255 : Int32)) ((((i5.toUInt32 >>> ((1 : Int32) &&& 31).toUInt32).toInt32) &&& (2147483647 : Int32)) - ((((i5.toUInt32 >>> ((1 : Int32) &&& 31).toUInt32).toInt32) &&& (2147483647 : Int32)) / (5 : Int32)) * (5 : Int32)))), (.int (own_f1_0 (i5 &&& (1 : Int32)) ((i5 &&& (1 : Int32)) + ((((i5.toUInt32 >>> ((1 : Int32) &&& 31).toUInt32).toInt32) &&& (2147483647 : Int32)) - ((((i5.toUInt32 >>> ((1 : Int32) &&& 31).toUInt32).toInt32) &&& (2147483647 : Int32)) / (5 : Int32)) * (5 : Int32))) (5 : Int32) (own_up (own_up (own_up (own_up (own_up (own_up (fun _ => 0) (0 : Int32).toNatClampNeg ((i4.toInt8.toInt32).toInt8.toInt32)) (4 : Int32).toNatClampNeg ((i4.toInt8.toInt32).toInt8.toInt32)) (i5 &&& (1 : Int32)).toNatClampNeg ((i0.toInt8.toInt32).toInt8.toInt32)) ((i5 &&& (1 : Int32)) + (1 : Int32)).toNatClampNeg ((i1.toInt8.toInt32).toInt8.toInt32)) ((i5 &&& (1 : Int32)) + (2 : Int32)).toNatClampNeg ((i2.toInt8.toInt32).toInt8.toInt32)) ((i5 &&& (1 : Int32)) + (3 : Int32)).toNatClampNeg ((i3.toInt8.toInt32).toInt8.toInt32))))])) _
    refine XS.icmpYes X9.here hx rfl (pc0 := 115) (pc' := 122) rfl (hb hby at_115) rfl (feq hc115).2 (by decide) (by decide) ?_
    show Steps p.tables e below (T9.setTop (mkF m 122 #[.val (.int i0), .val (.int i1), .val (.int i2), .val (.int i3), .val (.int i4), .val (.int i5), .val (.int (i5 &&& (1 : Int32))), .val (.int ((((i5.toUInt32 >>> ((1 : Int32) &&& 31).toUInt32).toInt32) &&& (2147483647 : Int32)) - ((((i5.toUInt32 >>> ((1 : Int32) &&& 31).toUInt32).toInt32) &&& (2147483647 : Int32)) / (5 : Int32)) * (5 : Int32))), .val (.ref b1), .val (.int ((i5 &&& (1 : Int32)) + ((((i5.toUInt32 >>> ((1 : Int32) &&& 31).toUInt32).toInt32) &&& (2147483647 : Int32)) - ((((i5.toUInt32 >>> ((1 : Int32) &&& 31).toUInt32).toInt32) &&& (2147483647 : Int32)) / (5 : Int32)) * (5 : Int32)))), .val (.int (own_f1_0 (i5 &&& (1 : Int32)) ((i5 &&& (1 : Int32)) + ((((i5.toUInt32 >>> ((1 : Int32) &&& 31).toUInt32).toInt32) &&& (2147483647 : Int32)) - ((((i5.toUInt32 >>> ((1 : Int32) &&& 31).toUInt32).toInt32) &&& (2147483647 : Int32)) / (5 : Int32)) * (5 : Int32))) (5 : Int32) (own_up (own_up (own_up (own_up (own_up (own_up (fun _ => 0) (0 : Int32).toNatClampNeg ((i4.toInt8.toInt32).toInt8.toInt32)) (4 : Int32).toNatClampNeg ((i4.toInt8.toInt32).toInt8.toInt32)) (i5 &&& (1 : Int32)).toNatClampNeg ((i0.toInt8.toInt32).toInt8.toInt32)) ((i5 &&& (1 : Int32)) + (1 : Int32)).toNatClampNeg ((i1.toInt8.toInt32).toInt8.toInt32)) ((i5 &&& (1 : Int32)) + (2 : Int32)).toNatClampNeg ((i2.toInt8.toInt32).toInt8.toInt32)) ((i5 &&& (1 : Int32)) + (3 : Int32)).toNatClampNeg ((i3.toInt8.toInt32).toInt8.toInt32))))] [])) _
    refine XS.iconst X9.here hx rfl (hb hby at_122) ?_
    show Steps p.tables e below (T9.setTop (mkF m 123 #[.val (.int i0), .val (.int i1), .val (.int i2), .val (.int i3), .val (.int i4), .val (.int i5), .val (.int (i5 &&& (1 : Int32))), .val (.int ((((i5.toUInt32 >>> ((1 : Int32) &&& 31).toUInt32).toInt32) &&& (2147483647 : Int32)) - ((((i5.toUInt32 >>> ((1 : Int32) &&& 31).toUInt32).toInt32) &&& (2147483647 : Int32)) / (5 : Int32)) * (5 : Int32))), .val (.ref b1), .val (.int ((i5 &&& (1 : Int32)) + ((((i5.toUInt32 >>> ((1 : Int32) &&& 31).toUInt32).toInt32) &&& (2147483647 : Int32)) - ((((i5.toUInt32 >>> ((1 : Int32) &&& 31).toUInt32).toInt32) &&& (2147483647 : Int32)) / (5 : Int32)) * (5 : Int32)))), .val (.int (own_f1_0 (i5 &&& (1 : Int32)) ((i5 &&& (1 : Int32)) + ((((i5.toUInt32 >>> ((1 : Int32) &&& 31).toUInt32).toInt32) &&& (2147483647 : Int32)) - ((((i5.toUInt32 >>> ((1 : Int32) &&& 31).toUInt32).toInt32) &&& (2147483647 : Int32)) / (5 : Int32)) * (5 : Int32))) (5 : Int32) (own_up (own_up (own_up (own_up (own_up (own_up (fun _ => 0) (0 : Int32).toNatClampNeg ((i4.toInt8.toInt32).toInt8.toInt32)) (4 : Int32).toNatClampNeg ((i4.toInt8.toInt32).toInt8.toInt32)) (i5 &&& (1 : Int32)).toNatClampNeg ((i0.toInt8.toInt32).toInt8.toInt32)) ((i5 &&& (1 : Int32)) + (1 : Int32)).toNatClampNeg ((i1.toInt8.toInt32).toInt8.toInt32)) ((i5 &&& (1 : Int32)) + (2 : Int32)).toNatClampNeg ((i2.toInt8.toInt32).toInt8.toInt32)) ((i5 &&& (1 : Int32)) + (3 : Int32)).toNatClampNeg ((i3.toInt8.toInt32).toInt8.toInt32))))] [(.int (0 : Int32))])) _
    exact retN X9 hx (t := .boolean) hret (by simp) (hb hby at_123) hr
def Q0 (Z : State) (i0 : Int32) (i1 : Int32) (i2 : Int32) (i3 : Int32) (i4 : Int32) (i5 : Int32) (h0 : Heap) (n0 : Nat) (v : Option Value) (h : Heap) (L : List Loc) : Prop := v = some (.int (own_f0_0 i0 i1 i2 i3 i4 i5)) ∧ Fr n0 L
set_option maxRecDepth 65536 in
set_option maxHeartbeats 40000000 in
theorem rm0 (l : Launch) (Z : State) (a0_ : Array Value) (hw : ∀ d ∈ tables_1, d.before a0_ Z = true) (ws : List Jvm.Cond) (i0 : Int32) (i1 : Int32) (i2 : Int32) (i3 : Int32) (i4 : Int32) (i5 : Int32) (h0 : Heap) (n0 : Nat) (Z0 : n0 ≤ h0.size)  :
    MetFree l x (head1 (Jvm.Cond.code x code maxLocals ret :: ws) room_1) (fun a U => a = #[(.int i0), (.int i1), (.int i2), (.int i3), (.int i4), (.int i5)] ∧ Z.Warmed39 U.vm ∧ U.heap = h0) (fun _ _ _ _ _ => True) (fun _ U o U' => ∃ v L, o = .returned v ∧ Q0 Z i0 i1 i2 i3 i4 i5 h0 n0 v U'.heap L ∧ FrameEnd U o U' L room_1.cells room_1.slots) := by
  refine MetFree.of_bodySF (plainFor_of_name pn_0) hisR ?_
  intro p e s m args below meth c s₁ Bd hml0 hP hK
  obtain ⟨rfl, hZ, hh⟩ := hP
  have hx := Bd.exec
  have hby := Bd.bytes
  have hml : c.maxLocals = 11 := hml0
  have hown : s.vm.findClass "com/example/open_brace/openbrace/text/Utf8SequenceLengthPinLaw" = some m.cls := findClass_of_methodNamed Bd.named
  have X0 : Stand p l e room_1 s m #[(.int i0), (.int i1), (.int i2), (.int i3), (.int i4), (.int i5)] below meth c s₁ [] 0 0 := Stand.of_body Bd
  have e0 : s₁.heap = h0 := by rw [← hh, Bd.state]; rfl
  obtain ⟨T', L', k', n', X', N', hk', hn', st'⟩ := own_b0_0 hx hZ hw hby hml hown Bd.returns  i0 i1 i2 i3 i4 i5 X0 e0 (Fr.nil n0) Z0 
  obtain ⟨fs, hr, hrun, hended, hW, hsame⟩ := X'.leave (v := some (.int (own_f0_0 i0 i1 i2 i3 i4 i5))) (fun h => by rw [Bd.returns] at h; cases h)
  refine ⟨_, _, castTop (ef_0 m i0 i1 i2 i3 i4 i5) (st' fs hr), hrun, hended, _, _, rfl, ?_, ⟨_, rfl⟩, hW, hsame.mono hk' hn'⟩
  exact ⟨rfl, N'⟩
theorem own_cont : ∀ n : Fin 256, (Int32.ofNat n.val &&& (192 : Int32)) = (128 : Int32) ↔ (128 ≤ n.val ∧ n.val < 192) := by decide +kernel
theorem own_ct (l : Int32) (h0 : 0 ≤ l.toInt) (h1 : l.toInt < 256) : (l &&& (192 : Int32)) = (128 : Int32) ↔ (128 ≤ l.toInt ∧ l.toInt < 192) := by
  have e : Int32.ofNat l.toInt.toNat = l := by
    apply Int32.toInt_inj.mp
    rw [Int32.toInt_ofNat_small (by omega)]
    omega
  have k := own_cont ⟨l.toInt.toNat, by omega⟩
  rw [e] at k
  rw [k]
  show 128 ≤ l.toInt.toNat ∧ l.toInt.toNat < 192 ↔ _
  omega
theorem own_f3 (l : Int32) (h0 : 0 ≤ l.toInt) (h1 : l.toInt < 256) : own_f3_0 l = if 128 ≤ l.toInt ∧ l.toInt < 192 then 1 else 0 := by
  unfold own_f3_0
  by_cases h : 128 ≤ l.toInt ∧ l.toInt < 192
  · rw [if_pos h, if_pos ((own_ct l h0 h1).mpr h)]
  · rw [if_neg h, if_neg (fun q => h ((own_ct l h0 h1).mp q))]
theorem own_cp (c l : Int32) (hc0 : 0 ≤ c.toInt) (hc1 : c.toInt < 1048576) : ((c <<< ((6 : Int32) &&& 31)) ||| (l &&& (63 : Int32))).toInt = c.toInt * 64 + l.toInt % 64 := by
  have a := c_ishl c 6 6 (by decide +kernel)
  have ar := rng32 (c <<< ((6 : Int32) &&& 31))
  have m := c_mask l 63 6 (by decide +kernel) (by decide +kernel)
  have o := c_or (c <<< ((6 : Int32) &&& 31)) (l &&& (63 : Int32)) 6 (by decide +kernel) 64 (by decide +kernel) (by omega) (by omega) (by omega)
  have r := rng32 ((c <<< ((6 : Int32) &&& 31)) ||| (l &&& (63 : Int32)))
  omega
theorem own_m31 (l : Int32) : (l &&& (31 : Int32)).toInt = l.toInt % 32 := c_mask l 31 5 (by decide +kernel) (by decide +kernel)
theorem own_m15 (l : Int32) : (l &&& (15 : Int32)).toInt = l.toInt % 16 := c_mask l 15 4 (by decide +kernel) (by decide +kernel)
theorem own_m7 (l : Int32) : (l &&& (7 : Int32)).toInt = l.toInt % 8 := c_mask l 7 3 (by decide +kernel) (by decide +kernel)
/-- what both sides say, in plain numbers -/
def own_sp (z0 z1 z2 z3 av : Int) : Int32 :=
  if 194 ≤ z0 ∧ z0 ≤ 223 ∧ 2 ≤ av ∧ 128 ≤ z1 ∧ z1 < 192 then 2
  else if 224 ≤ z0 ∧ z0 ≤ 239 ∧ 3 ≤ av ∧ 128 ≤ z1 ∧ z1 < 192 ∧ (z0 = 224 → 160 ≤ z1) ∧ (z0 = 237 → z1 < 160) ∧ 128 ≤ z2 ∧ z2 < 192 then 3
  else if 240 ≤ z0 ∧ z0 ≤ 244 ∧ 4 ≤ av ∧ 128 ≤ z1 ∧ z1 < 192 ∧ (z0 = 240 → 144 ≤ z1) ∧ (z0 = 244 → z1 < 144) ∧ 128 ≤ z2 ∧ z2 < 192 ∧ 128 ≤ z3 ∧ z3 < 192 then 4
  else 0
theorem own_218 (x0 x1 x2 x3 x4 n cp ct mn : Int32) : own_f2_218 x0 x1 x2 x3 x4 n cp ct mn = if ct = 0 ∨ cp.toInt < mn.toInt ∨ 1114111 < cp.toInt ∨ (55296 ≤ cp.toInt ∧ cp.toInt ≤ 57343) then 0 else n := by
  have k1 : (1114111 : Int32).toInt = 1114111 := by decide +kernel
  have k2 : (55296 : Int32).toInt = 55296 := by decide +kernel
  have k3 : (57343 : Int32).toInt = 57343 := by decide +kernel
  have u0 : own_f2_255 x0 x1 x2 x3 x4 n cp ct mn = 0 := by unfold own_f2_255 own_f2_256; rw [if_pos rfl]
  have u1 : own_f2_251 x0 x1 x2 x3 x4 n cp ct mn = n := by unfold own_f2_251 own_f2_256; rw [if_neg (by decide +kernel)]
  unfold own_f2_218
  rw [u0, u1]
  simp only [Int32.lt_iff_toInt_lt, k1, k2, k3]
  generalize cp.toInt = z
  generalize mn.toInt = w
  by_cases h1 : ct = 0
  · rw [if_pos h1, if_pos (Or.inl h1)]
  rw [if_neg h1]
  by_cases h2 : z < w
  · rw [if_pos h2, if_pos (Or.inr (Or.inl h2))]
  rw [if_neg h2]
  by_cases h3 : 1114111 < z
  · rw [if_pos h3, if_pos (Or.inr (Or.inr (Or.inl h3)))]
  rw [if_neg h3]
  by_cases h4 : z < 55296
  · rw [if_pos h4, if_neg]
    rintro (q | q | q | q)
    · exact h1 q
    · exact h2 q
    · exact h3 q
    · omega
  rw [if_neg h4]
  by_cases h5 : 57343 < z
  · rw [if_pos h5, if_neg]
    rintro (q | q | q | q)
    · exact h1 q
    · exact h2 q
    · exact h3 q
    · omega
  rw [if_neg h5, if_pos (Or.inr (Or.inr (Or.inr (by omega))))]
theorem own_r0 (l0 l1 l2 l3 av c : Int32) : own_f2_81 l0 l1 l2 l3 av 0 c = 0 := by
  unfold own_f2_81
  rw [if_pos rfl]
theorem own_r2 (l0 l1 l2 l3 av c : Int32) (hc : c.toInt = l0.toInt % 32) (a0 : 192 ≤ l0.toInt) (b0 : l0.toInt < 224) (a1 : 0 ≤ l1.toInt) (b1 : l1.toInt < 256) : own_f2_81 l0 l1 l2 l3 av 2 c = own_sp l0.toInt l1.toInt l2.toInt l3.toInt av.toInt := by
  have k2 : (2 : Int32).toInt = 2 := by decide +kernel
  have k128 : (128 : Int32).toInt = 128 := by decide +kernel
  have cp := own_cp c l1 (by omega) (by omega)
  unfold own_f2_81
  rw [if_neg (by decide +kernel)]
  by_cases h : av < 2
  · rw [if_pos h]
    rw [Int32.lt_iff_toInt_lt] at h
    unfold own_sp
    rw [if_neg (by omega), if_neg (by omega), if_neg (by omega)]
  rw [if_neg h, if_pos (by decide +kernel)]
  rw [Int32.lt_iff_toInt_lt] at h
  unfold own_f2_152
  rw [if_neg (by decide +kernel)]
  unfold own_f2_189
  rw [if_pos rfl, own_218, own_f3 l1 a1 b1, cp, k128]
  unfold own_sp
  by_cases q : 128 ≤ l1.toInt ∧ l1.toInt < 192
  · rw [if_pos q]
    by_cases w : 194 ≤ l0.toInt
    · rw [if_neg (by rintro (u | u | u | u) <;> first | exact absurd u (by decide +kernel) | omega), if_pos (by omega)]
    · rw [if_pos (by omega), if_neg (by omega), if_neg (by omega), if_neg (by omega)]
  · rw [if_neg q, if_pos (Or.inl rfl), if_neg (by omega), if_neg (by omega), if_neg (by omega)]
theorem own_r3 (l0 l1 l2 l3 av c : Int32) (hc : c.toInt = l0.toInt % 16) (a0 : 224 ≤ l0.toInt) (b0 : l0.toInt < 240) (a1 : 0 ≤ l1.toInt) (b1 : l1.toInt < 256) (a2 : 0 ≤ l2.toInt) (b2 : l2.toInt < 256) : own_f2_81 l0 l1 l2 l3 av 3 c = own_sp l0.toInt l1.toInt l2.toInt l3.toInt av.toInt := by
  have k3 : (3 : Int32).toInt = 3 := by decide +kernel
  have km : (2048 : Int32).toInt = 2048 := by decide +kernel
  have cp := own_cp c l1 (by omega) (by omega)
  have cp2 := own_cp ((c <<< ((6 : Int32) &&& 31)) ||| (l1 &&& (63 : Int32))) l2 (by omega) (by omega)
  have z : own_f2_137 l0 l1 l2 l3 av 3 ((c <<< ((6 : Int32) &&& 31)) ||| (l1 &&& (63 : Int32))) (own_f3_0 l1) = 0 := by
    unfold own_f2_137 own_f2_138 own_f2_152
    rw [if_neg (by decide +kernel)]
    unfold own_f2_189
    rw [if_neg (by decide +kernel), if_pos rfl, own_218, if_pos (Or.inl rfl)]
  unfold own_f2_81
  rw [if_neg (by decide +kernel)]
  by_cases h : av < 3
  · rw [if_pos h]
    rw [Int32.lt_iff_toInt_lt] at h
    unfold own_sp
    rw [if_neg (by omega), if_neg (by omega), if_neg (by omega)]
  rw [if_neg h, if_neg (by decide +kernel), z, own_f3 l1 a1 b1, own_f3 l2 a2 b2]
  rw [Int32.lt_iff_toInt_lt] at h
  unfold own_sp
  by_cases q1 : 128 ≤ l1.toInt ∧ l1.toInt < 192
  · rw [if_pos q1, if_neg (by decide +kernel)]
    by_cases q2 : 128 ≤ l2.toInt ∧ l2.toInt < 192
    · rw [if_pos q2, if_neg (by decide +kernel)]
      unfold own_f2_138 own_f2_152
      rw [if_neg (by decide +kernel)]
      unfold own_f2_189
      rw [if_neg (by decide +kernel), if_pos rfl, own_218, cp2, cp, km]
      by_cases w : (l0.toInt = 224 → 160 ≤ l1.toInt) ∧ (l0.toInt = 237 → l1.toInt < 160)
      · rw [if_neg (by rintro (u | u | u | u) <;> first | exact absurd u (by decide +kernel) | omega), if_neg (by omega), if_pos (by omega)]
      · rw [if_pos (by right; omega), if_neg (by omega), if_neg (by omega), if_neg (by omega)]
    · rw [if_neg q2, if_pos rfl, if_neg (by omega), if_neg (by omega), if_neg (by omega)]
  · rw [if_neg q1, if_pos rfl, if_neg (by omega), if_neg (by omega), if_neg (by omega)]
theorem own_r4 (l0 l1 l2 l3 av c : Int32) (hc : c.toInt = l0.toInt % 8) (a0 : 240 ≤ l0.toInt) (b0 : l0.toInt < 248) (a1 : 0 ≤ l1.toInt) (b1 : l1.toInt < 256) (a2 : 0 ≤ l2.toInt) (b2 : l2.toInt < 256) (a3 : 0 ≤ l3.toInt) (b3 : l3.toInt < 256) : own_f2_81 l0 l1 l2 l3 av 4 c = own_sp l0.toInt l1.toInt l2.toInt l3.toInt av.toInt := by
  have k4 : (4 : Int32).toInt = 4 := by decide +kernel
  have km : (65536 : Int32).toInt = 65536 := by decide +kernel
  have cp := own_cp c l1 (by omega) (by omega)
  have cp2 := own_cp ((c <<< ((6 : Int32) &&& 31)) ||| (l1 &&& (63 : Int32))) l2 (by omega) (by omega)
  have cp3 := own_cp ((((c <<< ((6 : Int32) &&& 31)) ||| (l1 &&& (63 : Int32))) <<< ((6 : Int32) &&& 31)) ||| (l2 &&& (63 : Int32))) l3 (by omega) (by omega)
  have z4 : ∀ x y, own_f2_174 l0 l1 l2 l3 av 4 x y = 0 := fun x y => by
    unfold own_f2_174 own_f2_175 own_f2_189
    rw [if_neg (by decide +kernel), if_neg (by decide +kernel), own_218, if_pos (Or.inl rfl)]
  have z : ∀ x y, own_f2_137 l0 l1 l2 l3 av 4 x y = 0 := fun x y => by
    unfold own_f2_137 own_f2_138 own_f2_152
    rw [if_pos rfl, if_pos rfl, z4]
  unfold own_f2_81
  rw [if_neg (by decide +kernel)]
  by_cases h : av < 4
  · rw [if_pos h]
    rw [Int32.lt_iff_toInt_lt] at h
    unfold own_sp
    rw [if_neg (by omega), if_neg (by omega), if_neg (by omega)]
  rw [if_neg h, if_neg (by decide +kernel), z, own_f3 l1 a1 b1, own_f3 l2 a2 b2]
  rw [Int32.lt_iff_toInt_lt] at h
  unfold own_sp
  by_cases q1 : 128 ≤ l1.toInt ∧ l1.toInt < 192
  · rw [if_pos q1, if_neg (by decide +kernel)]
    by_cases q2 : 128 ≤ l2.toInt ∧ l2.toInt < 192
    · rw [if_pos q2, if_neg (by decide +kernel)]
      unfold own_f2_138 own_f2_152
      rw [if_pos rfl, if_neg (by decide +kernel), z4, own_f3 l3 a3 b3]
      by_cases q3 : 128 ≤ l3.toInt ∧ l3.toInt < 192
      · rw [if_pos q3, if_neg (by decide +kernel)]
        unfold own_f2_175 own_f2_189
        rw [if_neg (by decide +kernel), if_neg (by decide +kernel), own_218, cp3, cp2, cp, km]
        by_cases w : l0.toInt ≤ 244 ∧ (l0.toInt = 240 → 144 ≤ l1.toInt) ∧ (l0.toInt = 244 → l1.toInt < 144)
        · rw [if_neg (by rintro (u | u | u | u) <;> first | exact absurd u (by decide +kernel) | omega), if_neg (by omega), if_neg (by omega), if_pos (by omega)]
        · rw [if_pos (by right; omega), if_neg (by omega), if_neg (by omega), if_neg (by omega)]
      · rw [if_neg q3, if_pos rfl, if_neg (by omega), if_neg (by omega), if_neg (by omega)]
    · rw [if_neg q2, if_pos rfl, if_neg (by omega), if_neg (by omega), if_neg (by omega)]
  · rw [if_neg q1, if_pos rfl, if_neg (by omega), if_neg (by omega), if_neg (by omega)]
theorem own_ref (l0 l1 l2 l3 av : Int32) (a0 : 0 ≤ l0.toInt) (b0 : l0.toInt < 256) (a1 : 0 ≤ l1.toInt) (b1 : l1.toInt < 256) (a2 : 0 ≤ l2.toInt) (b2 : l2.toInt < 256) (a3 : 0 ≤ l3.toInt) (b3 : l3.toInt < 256) : own_f2_0 l0 l1 l2 l3 av = own_sp l0.toInt l1.toInt l2.toInt l3.toInt av.toInt := by
  have k1 : (192 : Int32).toInt = 192 := by decide +kernel
  have k2 : (224 : Int32).toInt = 224 := by decide +kernel
  have k3 : (240 : Int32).toInt = 240 := by decide +kernel
  have k4 : (248 : Int32).toInt = 248 := by decide +kernel
  have z : (l0.toInt < 192 ∨ 248 ≤ l0.toInt) → own_sp l0.toInt l1.toInt l2.toInt l3.toInt av.toInt = 0 := fun q => by
    unfold own_sp
    rw [if_neg (by omega), if_neg (by omega), if_neg (by omega)]
  simp only [own_f2_0, own_f2_32, own_f2_58, Int32.lt_iff_toInt_lt, k1, k2, k3, k4, own_r0]
  by_cases c1 : l0.toInt < 192
  · rw [if_pos c1, if_pos (by omega), if_pos (by omega), z (Or.inl c1)]
  rw [if_neg c1]
  by_cases c2 : l0.toInt < 224
  · rw [if_pos c2]
    exact own_r2 l0 l1 l2 l3 av _ (own_m31 l0) (by omega) c2 a1 b1
  rw [if_neg c2, if_neg c2]
  by_cases c3 : l0.toInt < 240
  · rw [if_pos c3]
    exact own_r3 l0 l1 l2 l3 av _ (own_m15 l0) (by omega) c3 a1 b1 a2 b2
  rw [if_neg c3, if_neg c3]
  by_cases c4 : l0.toInt < 248
  · rw [if_pos c4]
    exact own_r4 l0 l1 l2 l3 av _ (own_m7 l0) (by omega) c4 a1 b1 a2 b2 a3 b3
  · rw [if_neg c4, z (Or.inr (by omega))]
/-- the walked method's side -/
theorem own_b (x l : Int32) (h : x &&& (255 : Int32) = l) : (x &&& (192 : Int32)) = (l &&& (192 : Int32)) := by
  rw [← h, Int32.and_assoc]
  rfl
theorem own_159 (i1 i2 i3 i5 i6 av l1 l2 l3 : Int32) (A : Nat → Int32) (hv : i2 - i1 = av) (a1 : 0 ≤ l1.toInt) (b1 : l1.toInt < 256) (a2 : 0 ≤ l2.toInt) (b2 : l2.toInt < 256) (a3 : 0 ≤ l3.toInt) (b3 : l3.toInt < 256)
    (h1 : (A (i1 + (1 : Int32)).toNatClampNeg) &&& (255 : Int32) = l1) (h2 : (A (i1 + (2 : Int32)).toNatClampNeg) &&& (255 : Int32) = l2) (h3 : (A (i1 + (3 : Int32)).toNatClampNeg) &&& (255 : Int32) = l3) :
    (own_f1_159 i1 i2 i3 2 i5 i6 5 A = if 2 ≤ av.toInt ∧ i5.toInt ≤ l1.toInt ∧ l1.toInt ≤ i6.toInt then 2 else 0) ∧
    (own_f1_159 i1 i2 i3 3 i5 i6 5 A = if 3 ≤ av.toInt ∧ i5.toInt ≤ l1.toInt ∧ l1.toInt ≤ i6.toInt ∧ 128 ≤ l2.toInt ∧ l2.toInt < 192 then 3 else 0) ∧
    (own_f1_159 i1 i2 i3 4 i5 i6 5 A = if 4 ≤ av.toInt ∧ i5.toInt ≤ l1.toInt ∧ l1.toInt ≤ i6.toInt ∧ 128 ≤ l2.toInt ∧ l2.toInt < 192 ∧ 128 ≤ l3.toInt ∧ l3.toInt < 192 then 4 else 0) := by
  have k2 : (2 : Int32).toInt = 2 := by decide +kernel
  have k3 : (3 : Int32).toInt = 3 := by decide +kernel
  have k4 : (4 : Int32).toInt = 4 := by decide +kernel
  have fu : (4 - (2 : Int32).toInt).toNat + 1 = 3 := by decide +kernel
  have c2 : ((A (i1 + (2 : Int32)).toNatClampNeg) &&& (192 : Int32)) = (128 : Int32) ↔ (128 ≤ l2.toInt ∧ l2.toInt < 192) := by rw [own_b _ _ h2]; exact own_ct l2 a2 b2
  have c3 : ((A (i1 + (3 : Int32)).toNatClampNeg) &&& (192 : Int32)) = (128 : Int32) ↔ (128 ≤ l3.toInt ∧ l3.toInt < 192) := by rw [own_b _ _ h3]; exact own_ct l3 a3 b3
  have s21 : (2 : Int32) + (1 : Int32) = 3 := by decide +kernel
  have s31 : (3 : Int32) + (1 : Int32) = 4 := by decide +kernel
  have p2 : ∀ y, own_f1_199 3 i1 i2 i3 2 i5 i6 y 2 5 A = 2 := fun y => by rw [own_f1_199_s, if_neg (by decide +kernel)]
  have p3 : ∀ y, own_f1_199 3 i1 i2 i3 3 i5 i6 y 2 5 A = if 128 ≤ l2.toInt ∧ l2.toInt < 192 then 3 else 0 := fun y => by
    rw [own_f1_199_s, if_pos (show (2 : Int32) < 3 by decide +kernel), s21, own_f1_199_s, if_neg (show ¬ (3 : Int32) < 3 by decide +kernel)]
    by_cases q : 128 ≤ l2.toInt ∧ l2.toInt < 192
    · rw [if_pos (c2.mpr q), if_pos q]
    · rw [if_neg (fun w => q (c2.mp w)), if_neg q]
  have p4 : ∀ y, own_f1_199 3 i1 i2 i3 4 i5 i6 y 2 5 A = if 128 ≤ l2.toInt ∧ l2.toInt < 192 ∧ 128 ≤ l3.toInt ∧ l3.toInt < 192 then 4 else 0 := fun y => by
    rw [own_f1_199_s, if_pos (show (2 : Int32) < 4 by decide +kernel), s21, own_f1_199_s, if_pos (show (3 : Int32) < 4 by decide +kernel), s31, own_f1_199_s, if_neg (show ¬ (4 : Int32) < 4 by decide +kernel)]
    by_cases q : 128 ≤ l2.toInt ∧ l2.toInt < 192
    · rw [if_pos (c2.mpr q)]
      by_cases q' : 128 ≤ l3.toInt ∧ l3.toInt < 192
      · rw [if_pos (c3.mpr q'), if_pos ⟨q.1, q.2, q'.1, q'.2⟩]
      · rw [if_neg (fun w => q' (c3.mp w)), if_neg (fun w => q' ⟨w.2.2.1, w.2.2.2⟩)]
    · rw [if_neg (fun w => q (c2.mp w)), if_neg (fun w => q ⟨w.1, w.2.1⟩)]
  unfold own_f1_159
  rw [hv, h1, fu]
  simp only [Int32.lt_iff_toInt_lt, k2, k3, k4, p2, p3, p4]
  generalize av.toInt = v
  generalize l1.toInt = y1
  generalize l2.toInt = y2
  generalize l3.toInt = y3
  generalize i5.toInt = y5
  generalize i6.toInt = y6
  clear p2 p3 p4 c2 c3 k2 k3 k4
  refine ⟨?_, ?_, ?_⟩
  · by_cases a : v < 2
    · rw [if_pos a, if_neg (by omega)]
    rw [if_neg a]
    by_cases b : y1 < y5
    · rw [if_pos b, if_neg (by omega)]
    rw [if_neg b]
    by_cases c : y6 < y1
    · rw [if_pos c, if_neg (by omega)]
    rw [if_neg c, if_pos (by omega)]
  · by_cases a : v < 3
    · rw [if_pos a, if_neg (by omega)]
    rw [if_neg a]
    by_cases b : y1 < y5
    · rw [if_pos b, if_neg (by omega)]
    rw [if_neg b]
    by_cases c : y6 < y1
    · rw [if_pos c, if_neg (by omega)]
    rw [if_neg c]
    by_cases d : 128 ≤ y2 ∧ y2 < 192
    · rw [if_pos d, if_pos (by omega)]
    · rw [if_neg d, if_neg (by omega)]
  · by_cases a : v < 4
    · rw [if_pos a, if_neg (by omega)]
    rw [if_neg a]
    by_cases b : y1 < y5
    · rw [if_pos b, if_neg (by omega)]
    rw [if_neg b]
    by_cases c : y6 < y1
    · rw [if_pos c, if_neg (by omega)]
    rw [if_neg c]
    by_cases d : 128 ≤ y2 ∧ y2 < 192 ∧ 128 ≤ y3 ∧ y3 < 192
    · rw [if_pos d, if_pos (by omega)]
    · rw [if_neg d, if_neg (by omega)]
theorem own_seq (i1 i2 av l0 l1 l2 l3 : Int32) (A : Nat → Int32) (hv : i2 - i1 = av) (a0 : 0 ≤ l0.toInt) (b0 : l0.toInt < 256) (a1 : 0 ≤ l1.toInt) (b1 : l1.toInt < 256) (a2 : 0 ≤ l2.toInt) (b2 : l2.toInt < 256) (a3 : 0 ≤ l3.toInt) (b3 : l3.toInt < 256)
    (h0 : (A i1.toNatClampNeg) &&& (255 : Int32) = l0) (h1 : (A (i1 + (1 : Int32)).toNatClampNeg) &&& (255 : Int32) = l1) (h2 : (A (i1 + (2 : Int32)).toNatClampNeg) &&& (255 : Int32) = l2) (h3 : (A (i1 + (3 : Int32)).toNatClampNeg) &&& (255 : Int32) = l3) :
    own_f1_0 i1 i2 5 A = own_sp l0.toInt l1.toInt l2.toInt l3.toInt av.toInt := by
  have t := fun i5 i6 => own_159 i1 i2 l0 i5 i6 av l1 l2 l3 A hv a1 b1 a2 b2 a3 b3 h1 h2 h3
  have t2 := fun i5 i6 => (t i5 i6).1
  have t3 := fun i5 i6 => (t i5 i6).2.1
  have t4 := fun i5 i6 => (t i5 i6).2.2
  have g1 : (225 : Int32).toInt = 225 := by decide +kernel
  have g2 : (239 : Int32).toInt = 239 := by decide +kernel
  have g3 : (237 : Int32).toInt = 237 := by decide +kernel
  have g4 : (194 : Int32).toInt = 194 := by decide +kernel
  have g5 : (223 : Int32).toInt = 223 := by decide +kernel
  have g6 : (224 : Int32).toInt = 224 := by decide +kernel
  have g7 : (240 : Int32).toInt = 240 := by decide +kernel
  have g8 : (241 : Int32).toInt = 241 := by decide +kernel
  have g9 : (243 : Int32).toInt = 243 := by decide +kernel
  have g10 : (244 : Int32).toInt = 244 := by decide +kernel
  have g11 : (128 : Int32).toInt = 128 := by decide +kernel
  have g12 : (191 : Int32).toInt = 191 := by decide +kernel
  have g13 : (160 : Int32).toInt = 160 := by decide +kernel
  have g14 : (159 : Int32).toInt = 159 := by decide +kernel
  have g15 : (144 : Int32).toInt = 144 := by decide +kernel
  have g16 : (143 : Int32).toInt = 143 := by decide +kernel
  have F139 : ∀ i5 i6, own_f1_139 i1 i2 l0 i5 i6 5 A = if l0.toInt = 244 then own_f1_159 i1 i2 l0 4 i5 143 5 A else 0 := fun i5 i6 => by
    unfold own_f1_139
    simp only [← Int32.toInt_inj (x := l0), g10]
  have F65 : ∀ i5 i6, own_f1_65 i1 i2 l0 i5 i6 5 A = if l0.toInt = 224 then own_f1_159 i1 i2 l0 3 160 i6 5 A else if l0.toInt = 237 then own_f1_159 i1 i2 l0 3 i5 159 5 A else if l0.toInt = 240 then own_f1_159 i1 i2 l0 4 144 i6 5 A else if l0.toInt < 241 then own_f1_139 i1 i2 l0 i5 i6 5 A else if 243 < l0.toInt then own_f1_139 i1 i2 l0 i5 i6 5 A else own_f1_159 i1 i2 l0 4 i5 i6 5 A := fun i5 i6 => by
    unfold own_f1_65
    simp only [Int32.lt_iff_toInt_lt, ← Int32.toInt_inj (x := l0), g6, g3, g7, g8, g9]
  have F45 : ∀ i5 i6, own_f1_45 i1 i2 l0 i5 i6 5 A = if l0.toInt < 194 then own_f1_65 i1 i2 l0 i5 i6 5 A else if 223 < l0.toInt then own_f1_65 i1 i2 l0 i5 i6 5 A else own_f1_159 i1 i2 l0 2 i5 i6 5 A := fun i5 i6 => by
    unfold own_f1_45
    simp only [Int32.lt_iff_toInt_lt, g4, g5]
  have F0 : own_f1_0 i1 i2 5 A = if l0.toInt < 225 then own_f1_45 i1 i2 l0 128 191 5 A else if 239 < l0.toInt then own_f1_45 i1 i2 l0 128 191 5 A else if l0.toInt = 237 then own_f1_45 i1 i2 l0 128 191 5 A else own_f1_159 i1 i2 l0 3 128 191 5 A := by
    unfold own_f1_0
    rw [h0]
    simp only [Int32.lt_iff_toInt_lt, ← Int32.toInt_inj (x := l0), g1, g2, g3]
  rw [F0]
  simp only [F45, F65, F139, t2, t3, t4, g11, g12, g13, g14, g15, g16]
  unfold own_sp
  clear F0 F45 F65 F139 t t2 t3 t4 h0 h1 h2 h3 hv g1 g2 g3 g4 g5 g6 g7 g8 g9 g10 g11 g12 g13 g14 g15 g16
  generalize l0.toInt = z0 at *
  generalize l1.toInt = z1 at *
  generalize l2.toInt = z2 at *
  generalize l3.toInt = z3 at *
  generalize av.toInt = v at *
  by_cases r1 : z0 < 194
  · rw [if_pos (show z0 < 225 by omega), if_pos r1, if_neg (by omega), if_neg (by omega), if_neg (by omega), if_pos (by omega), if_neg (by omega), if_neg (by omega), if_neg (by omega), if_neg (by omega)]
  by_cases r2 : z0 ≤ 223
  · rw [if_pos (show z0 < 225 by omega), if_neg r1, if_neg (show ¬ 223 < z0 by omega)]
    by_cases q : 2 ≤ v ∧ 128 ≤ z1 ∧ z1 ≤ 191
    · rw [if_pos q, if_pos (by omega)]
    · rw [if_neg q, if_neg (by omega), if_neg (by omega), if_neg (by omega)]
  by_cases r3 : z0 = 224
  · rw [if_pos (show z0 < 225 by omega), if_neg r1, if_pos (show 223 < z0 by omega), if_pos r3]
    by_cases q : 3 ≤ v ∧ 160 ≤ z1 ∧ z1 ≤ 191 ∧ 128 ≤ z2 ∧ z2 < 192
    · rw [if_pos q, if_neg (by omega), if_pos (by omega)]
    · rw [if_neg q, if_neg (by omega), if_neg (by omega), if_neg (by omega)]
  by_cases r4 : z0 = 237
  · rw [if_neg (show ¬ z0 < 225 by omega), if_neg (show ¬ 239 < z0 by omega), if_pos r4, if_neg r1, if_pos (show 223 < z0 by omega), if_neg r3, if_pos r4]
    by_cases q : 3 ≤ v ∧ 128 ≤ z1 ∧ z1 ≤ 159 ∧ 128 ≤ z2 ∧ z2 < 192
    · rw [if_pos q, if_neg (by omega), if_pos (by omega)]
    · rw [if_neg q, if_neg (by omega), if_neg (by omega), if_neg (by omega)]
  by_cases r5 : z0 ≤ 239
  · rw [if_neg (show ¬ z0 < 225 by omega), if_neg (show ¬ 239 < z0 by omega), if_neg r4]
    by_cases q : 3 ≤ v ∧ 128 ≤ z1 ∧ z1 ≤ 191 ∧ 128 ≤ z2 ∧ z2 < 192
    · rw [if_pos q, if_neg (by omega), if_pos (by omega)]
    · rw [if_neg q, if_neg (by omega), if_neg (by omega), if_neg (by omega)]
  rw [if_neg (show ¬ z0 < 225 by omega), if_pos (show 239 < z0 by omega), if_neg r1, if_pos (show 223 < z0 by omega), if_neg r3, if_neg r4]
  by_cases r6 : z0 = 240
  · rw [if_pos r6]
    by_cases q : 4 ≤ v ∧ 144 ≤ z1 ∧ z1 ≤ 191 ∧ 128 ≤ z2 ∧ z2 < 192 ∧ 128 ≤ z3 ∧ z3 < 192
    · rw [if_pos q, if_neg (by omega), if_neg (by omega), if_pos (by omega)]
    · rw [if_neg q, if_neg (by omega), if_neg (by omega), if_neg (by omega)]
  rw [if_neg r6, if_neg (show ¬ z0 < 241 by omega)]
  by_cases r7 : 243 < z0
  · rw [if_pos r7]
    by_cases r8 : z0 = 244
    · rw [if_pos r8]
      by_cases q : 4 ≤ v ∧ 128 ≤ z1 ∧ z1 ≤ 143 ∧ 128 ≤ z2 ∧ z2 < 192 ∧ 128 ≤ z3 ∧ z3 < 192
      · rw [if_pos q, if_neg (by omega), if_neg (by omega), if_pos (by omega)]
      · rw [if_neg q, if_neg (by omega), if_neg (by omega), if_neg (by omega)]
    · rw [if_neg r8, if_neg (by omega), if_neg (by omega), if_neg (by omega)]
  · rw [if_neg r7]
    by_cases q : 4 ≤ v ∧ 128 ≤ z1 ∧ z1 ≤ 191 ∧ 128 ≤ z2 ∧ z2 < 192 ∧ 128 ≤ z3 ∧ z3 < 192
    · rw [if_pos q, if_neg (by omega), if_neg (by omega), if_pos (by omega)]
    · rw [if_neg q, if_neg (by omega), if_neg (by omega), if_neg (by omega)]
theorem own_u8 (x : Int32) : (x.toInt8.toInt32.toInt8.toInt32) &&& (255 : Int32) = x &&& (255 : Int32) := by
  have u := c_i2b x
  have w := c_i2b x.toInt8.toInt32
  have m1 := c_mask (x.toInt8.toInt32.toInt8.toInt32) 255 8 (by decide +kernel) (by decide +kernel)
  have m2 := c_mask x 255 8 (by decide +kernel) (by decide +kernel)
  apply Int32.toInt_inj.mp
  omega
theorem own_arr (f b0 b1 b2 b3 k : Int32) (h : k = 0 ∨ k = 1) (B : Nat → Int32) (hB : B = own_up (own_up (own_up (own_up (own_up (own_up (fun _ => 0) (0 : Int32).toNatClampNeg f) (4 : Int32).toNatClampNeg f) k.toNatClampNeg b0) (k + (1 : Int32)).toNatClampNeg b1) (k + (2 : Int32)).toNatClampNeg b2) (k + (3 : Int32)).toNatClampNeg b3) :
    B k.toNatClampNeg = b0 ∧ B (k + (1 : Int32)).toNatClampNeg = b1 ∧ B (k + (2 : Int32)).toNatClampNeg = b2 ∧ B (k + (3 : Int32)).toNatClampNeg = b3 := by
  subst hB
  rcases h with rfl | rfl
  · refine ⟨?_, ?_, ?_, own_up_hit _ _ _⟩
    · rw [own_up_miss _ _ _ (by decide +kernel), own_up_miss _ _ _ (by decide +kernel), own_up_miss _ _ _ (by decide +kernel), own_up_hit]
    · rw [own_up_miss _ _ _ (by decide +kernel), own_up_miss _ _ _ (by decide +kernel), own_up_hit]
    · rw [own_up_miss _ _ _ (by decide +kernel), own_up_hit]
  · refine ⟨?_, ?_, ?_, own_up_hit _ _ _⟩
    · rw [own_up_miss _ _ _ (by decide +kernel), own_up_miss _ _ _ (by decide +kernel), own_up_miss _ _ _ (by decide +kernel), own_up_hit]
    · rw [own_up_miss _ _ _ (by decide +kernel), own_up_miss _ _ _ (by decide +kernel), own_up_hit]
    · rw [own_up_miss _ _ _ (by decide +kernel), own_up_hit]
theorem own_byte (x : Int32) : 0 ≤ (x &&& (255 : Int32)).toInt ∧ (x &&& (255 : Int32)).toInt < 256 := by
  have m := c_mask x 255 8 (by decide +kernel) (by decide +kernel)
  have w : ((2 ^ 8 : Nat) : Int) = 256 := by decide +kernel
  rw [m, w]
  generalize x.toInt = v
  omega
theorem own_law (i0 : Int32) (i1 : Int32) (i2 : Int32) (i3 : Int32) (i4 : Int32) (i5 : Int32) : own_f0_0 i0 i1 i2 i3 i4 i5 = 1 := by
  have m0 := own_byte i0
  have m1 := own_byte i1
  have m2 := own_byte i2
  have m3 := own_byte i3
  have hk := (own_lc i5).2
  unfold own_f0_0
  generalize ((((i5.toUInt32 >>> ((1 : Int32) &&& 31).toUInt32).toInt32) &&& (2147483647 : Int32)) - ((((i5.toUInt32 >>> ((1 : Int32) &&& 31).toUInt32).toInt32) &&& (2147483647 : Int32)) / (5 : Int32)) * (5 : Int32)) = av
  generalize (i5 &&& (1 : Int32)) = k at *
  generalize hB : (own_up (own_up (own_up (own_up (own_up (own_up (fun _ => 0) (0 : Int32).toNatClampNeg ((i4.toInt8.toInt32).toInt8.toInt32)) (4 : Int32).toNatClampNeg ((i4.toInt8.toInt32).toInt8.toInt32)) k.toNatClampNeg ((i0.toInt8.toInt32).toInt8.toInt32)) (k + (1 : Int32)).toNatClampNeg ((i1.toInt8.toInt32).toInt8.toInt32)) (k + (2 : Int32)).toNatClampNeg ((i2.toInt8.toInt32).toInt8.toInt32)) (k + (3 : Int32)).toNatClampNeg ((i3.toInt8.toInt32).toInt8.toInt32)) = B
  obtain ⟨q0, q1, q2, q3⟩ := own_arr _ _ _ _ _ k hk B hB.symm
  rw [own_ref (i0 &&& 255) (i1 &&& 255) (i2 &&& 255) (i3 &&& 255) av m0.1 m0.2 m1.1 m1.2 m2.1 m2.2 m3.1 m3.2]
  rw [if_pos]
  exact own_seq k (k + av) av (i0 &&& 255) (i1 &&& 255) (i2 &&& 255) (i3 &&& 255) B (by rw [Int32.add_comm, Int32.add_sub_cancel]) m0.1 m0.2 m1.1 m1.2 m2.1 m2.2 m3.1 m3.2 (by rw [q0, own_u8]) (by rw [q1, own_u8]) (by rw [q2, own_u8]) (by rw [q3, own_u8])
set_option maxRecDepth 65536 in
set_option maxHeartbeats 40000000 in
theorem comes_1 {Post : Tables → Env → Array Value → State → Outcome → State → Prop} (hpost : ∀ tb e args s v u, (limb_1_1.after args s (.returned v) u = true ∧ limb_1_2.after args s (.returned v) u = true ∧ True) → FrameEnd s (.returned v) u (Jvm.fieldLocs frame_1_writes args s ++ Jvm.arrayLocs frame_1_arrays args s ++ Jvm.staticLocs frame_1_statics s) 16 128 → Post tb e args s (.returned v) u) :
    ArmFor flags0 classFile x code maxLocals ret World_1 tables_1 room_1 Calls_1 rest_1 Pre_1 Post := by
  intro l hfl _ _ p e ha hc hk s m args below hf hA hF happ hP
  obtain ⟨hcalls, hrest, hpre⟩ := hP
  obtain ⟨-, -, -, hnamed, -, -, -, hat⟩ := (Spec.applies_iff hf).mp happ
  obtain ⟨hg, hn⟩ := and_e (Cond.before_iff.mp (show (Jvm.Cond.and given_1 narrow_1).before args s = true from hpre))
  obtain ⟨hcount, hg⟩ := and_e hg
  obtain ⟨g0, hg⟩ := and_e hg
  obtain ⟨g1, hg⟩ := and_e hg
  obtain ⟨g2, hg⟩ := and_e hg
  obtain ⟨g3, hg⟩ := and_e hg
  obtain ⟨g4, hg⟩ := and_e hg
  have g5 := hg
  obtain ⟨w0, w1, w2, w3, w4, w5, rfl⟩ : ∃ w0 w1 w2 w3 w4 w5 : Value, args = #[w0, w1, w2, w3, w4, w5] := by
    have hs : args.size = 6 := by simpa [Cond.value, given_1] using hcount
    obtain ⟨L⟩ := args
    match L, hs with
    | [w0, w1, w2, w3, w4, w5], _ => exact ⟨w0, w1, w2, w3, w4, w5, rfl⟩
  have hw := fun d (hd : d ∈ tables_1) => atoms_spec (ws := Jvm.Cond.code x code maxLocals ret :: tables_1) hat d (List.mem_cons_of_mem _ hd)
  obtain ⟨i0, ei0⟩ := is_v g0
  obtain rfl : w0 = (.int i0) := Option.some.inj ei0
  obtain ⟨i1, ei1⟩ := is_v g1
  obtain rfl : w1 = (.int i1) := Option.some.inj ei1
  obtain ⟨i2, ei2⟩ := is_v g2
  obtain rfl : w2 = (.int i2) := Option.some.inj ei2
  obtain ⟨i3, ei3⟩ := is_v g3
  obtain rfl : w3 = (.int i3) := Option.some.inj ei3
  obtain ⟨i4, ei4⟩ := is_v g4
  obtain rfl : w4 = (.int i4) := Option.some.inj ei4
  obtain ⟨i5, ei5⟩ := is_v g5
  obtain rfl : w5 = (.int i5) := Option.some.inj ei5
  obtain ⟨n, o, h1, h2, h3, _, L, rfl, ⟨rfl, N⟩, hq⟩ := rm0 l s _ hw tables_1 i0 i1 i2 i3 i4 i5 s.heap s.heap.size (Nat.le_refl _) p e ha hc hk s m _ below hf ((Spec.applies_iff_loose hf).mp happ).1 ⟨rfl, State.Warmed39.refl s, rfl⟩ trivial
  rw [own_law i0 i1 i2 i3 i4 i5] at h3 hq
  refine ⟨n, _, h1, h2, h3, hpost _ _ _ _ _ _ ⟨Cond.after_iff.mpr rfl, Cond.after_iff.mpr (eq_i res_at (Term.int_eval (1)) rfl), trivial⟩ ⟨hq.1, hq.2.1, (hq.2.2.sift fun y hy => Or.inr (N y hy)).mono (by decide) (by decide)⟩⟩
theorem main_1_1 : Claimed_1_1 := comes_1 fun _ _ _ _ _ _ h hF => ⟨h.1, hF⟩
theorem main_1_2 : Claimed_1_2 := comes_1 fun _ _ _ _ _ _ h hF => ⟨h.2.1, hF⟩
end Jvm.Pilot.@@N@@
namespace Jvm.Pilot.@@N@@
open Jvm Jvm.ClassFile Sem Op Lib Jvm.Free Jvm.Stand Jvm.Pilot.@@N@@.Jvm.D
/-! MADE BY PROGRAM (witnessworld.py) out of the Statement's table words and the real class files: 9 classes; the members and pool entries that the words name. The judged class is class 1, her method 1. -/
namespace start1
open Jvm.ClassFile
def u (s : String) : CpInfo := .utf8 (stringToUtf16 s)
/-- a pool by its gaps: so many unusable entries, then the entry; so many at the end -/
def gap : Nat → List CpInfo → List CpInfo
  | 0, r => r
  | n + 1, r => .unusable :: gap n r
def poolList (es : List (Nat × CpInfo)) (last : Nat) : List CpInfo := es.foldr (fun e r => gap e.1 (e.2 :: r)) (gap last [])
def pool (es : List (Nat × CpInfo)) (last : Nat) : Array CpInfo := ⟨poolList es last⟩
def fileOf (pool : Array CpInfo) (this : Nat) (attrs : Array Attribute := #[]) (ms : Array MethodInfo := #[]) (fl : Nat := 33) (sup : Nat := 0) (ifs : Array Nat := #[]) (fds : Array FieldInfo := #[]) : ClassFile where
  minorVersion := 0
  majorVersion := 65
  constantPool := pool
  accessFlags := fl
  thisClass := this
  superClass := sup
  interfaces := ifs
  fields := fds
  methods := ms
  attributes := attrs
def plain (name : String) (sup : Option ClassId) : Class where
  name := name
  kind := .ordinary
  loader := none
  accessFlags := 33
  super := sup
  interfaces := #[]
  cf := none
  fields := #[]
  methods := #[]
  instanceTypes := #[]
  staticTypes := #[]
  resolved := #[]
  callSites := []
  init := .initialized
  statics := none
  mirror := none

def pool0 : Array CpInfo := pool [(5, u "<init>"), (0, u "()V"), (1, .class_ 10), (1, u "java/lang/Object")] 113

def k0m0 : Method := { name := "<init>", desc := "()V", sig := { parameters := [], returnType := none }, accessFlags := 1, code := none }
/-- java/lang/Object -/
def k0 : Class := { plain "java/lang/Object" none with
  accessFlags := 33
  interfaces := #[]
  cf := some (fileOf pool0 8 #[] #[{ accessFlags := 1, nameIndex := 5, descriptorIndex := 6, attributes := #[] }] 33 0 #[] #[])
  fields := #[]
  methods := #[k0m0]
  instanceTypes := #[]
  staticTypes := #[]
  resolved := Array.replicate 124 none
  statics := none }

def pool1 : Array CpInfo := pool [(2, .class_ 4), (1, u "java/lang/Object"), (0, u "<init>"), (0, u "()V"), (0, .integer 2147483647), (0, .methodref 9 10), (0, .class_ 11), (0, .nameAndType 12 13), (0, u "com/example/open_brace/openbrace/text/Utf8"), (0, u "sequenceLength"), (0, u "([BII)I"), (0, .methodref 15 16), (0, .class_ 17), (0, .nameAndType 18 19), (0, u "com/example/open_brace/openbrace/text/Utf8SequenceLengthPinLaw"), (0, u "expected"), (0, u "(IIIII)I"), (0, .methodref 15 21), (0, .nameAndType 22 23), (0, u "isCont"), (0, u "(I)Z"), (0, .integer 65536), (0, .integer 1114111), (0, .integer 55296), (0, .integer 57343), (2, u "law"), (0, u "(IIIIII)Z")] 5

def k1m0 : Method := { name := "<init>", desc := "()V", sig := { parameters := [], returnType := none }, accessFlags := 2, code := none }
def k1c1 : Code := { maxStack := 6, maxLocals := 11, code := code, exceptionTable := #[], attributes := #[] }
def k1m1 : Method := { name := "law", desc := "(IIIIII)Z", sig := { parameters := [.int, .int, .int, .int, .int, .int], returnType := some .boolean }, accessFlags := 9, code := some k1c1 }
def k1c2 : Code := { maxStack := 2, maxLocals := 1, code := method_3_code, exceptionTable := #[], attributes := #[] }
def k1m2 : Method := { name := "isCont", desc := "(I)Z", sig := { parameters := [.int], returnType := some .boolean }, accessFlags := 10, code := some k1c2 }
def k1c3 : Code := { maxStack := 3, maxLocals := 10, code := method_4_code, exceptionTable := #[], attributes := #[] }
def k1m3 : Method := { name := "expected", desc := "(IIIII)I", sig := { parameters := [.int, .int, .int, .int, .int], returnType := some .int }, accessFlags := 10, code := some k1c3 }
/-- com/example/open_brace/openbrace/text/Utf8SequenceLengthPinLaw -/
def k1 : Class := { plain "com/example/open_brace/openbrace/text/Utf8SequenceLengthPinLaw" (some 0) with
  accessFlags := 49
  interfaces := #[]
  cf := some (fileOf pool1 15 #[] #[{ accessFlags := 2, nameIndex := 5, descriptorIndex := 6, attributes := #[] }, { accessFlags := 9, nameIndex := 30, descriptorIndex := 31, attributes := #[] }, { accessFlags := 10, nameIndex := 22, descriptorIndex := 23, attributes := #[] }, { accessFlags := 10, nameIndex := 18, descriptorIndex := 19, attributes := #[] }] 49 2 #[] #[])
  fields := #[]
  methods := #[k1m0, k1m1, k1m2, k1m3]
  instanceTypes := #[]
  staticTypes := #[]
  resolved := Array.replicate 37 none
  statics := none }

def pool2 : Array CpInfo := pool [(2, .class_ 4), (1, u "java/lang/Object"), (0, u "<init>"), (0, u "()V"), (1, .class_ 10), (1, u "com/example/open_brace/openbrace/text/Utf8"), (0, u "sequenceLength"), (0, u "([BII)I"), (72, u "ILL_FORMED"), (0, u "I")] 15

def k2m0 : Method := { name := "<init>", desc := "()V", sig := { parameters := [], returnType := none }, accessFlags := 2, code := none }
def k2c1 : Code := { maxStack := 3, maxLocals := 9, code := prog_97_method_3_code, exceptionTable := #[], attributes := #[] }
def k2m1 : Method := { name := "sequenceLength", desc := "([BII)I", sig := { parameters := [(.array .byte), .int, .int], returnType := some .int }, accessFlags := 9, code := some k2c1 }
/-- com/example/open_brace/openbrace/text/Utf8 -/
def k2 : Class := { plain "com/example/open_brace/openbrace/text/Utf8" (some 0) with
  accessFlags := 33
  interfaces := #[]
  cf := some (fileOf pool2 8 #[] #[{ accessFlags := 2, nameIndex := 5, descriptorIndex := 6, attributes := #[] }, { accessFlags := 9, nameIndex := 11, descriptorIndex := 12, attributes := #[] }] 33 2 #[] #[{ accessFlags := 25, nameIndex := 85, descriptorIndex := 86, attributes := #[] }])
  fields := #[{ name := "ILL_FORMED", type := .int, accessFlags := 25, slot := 0, constantValue := 0 }]
  methods := #[k2m0, k2m1]
  instanceTypes := #[]
  staticTypes := #[.int]
  resolved := Array.replicate 102 none
  statics := none }

def pool3 : Array CpInfo := pool [(1, u "java/lang/Cloneable"), (0, .class_ 1), (0, u "java/lang/Object"), (0, .class_ 3)] 3

/-- java/lang/Cloneable -/
def k3 : Class := { plain "java/lang/Cloneable" (some 0) with
  accessFlags := 1537
  interfaces := #[]
  cf := some (fileOf pool3 2 #[] #[] 1537 4 #[] #[])
  fields := #[]
  methods := #[]
  instanceTypes := #[]
  staticTypes := #[]
  resolved := Array.replicate 8 none
  statics := none }

def pool4 : Array CpInfo := pool [(1, u "java/io/Serializable"), (0, .class_ 1), (0, u "java/lang/Object"), (0, .class_ 3)] 3

/-- java/io/Serializable -/
def k4 : Class := { plain "java/io/Serializable" (some 0) with
  accessFlags := 1537
  interfaces := #[]
  cf := some (fileOf pool4 2 #[] #[] 1537 4 #[] #[])
  fields := #[]
  methods := #[]
  instanceTypes := #[]
  staticTypes := #[]
  resolved := Array.replicate 8 none
  statics := none }

/-- the primitive byte -/
def k5 : Class := { plain "byte" none with kind := .primitive 'B', accessFlags := 0x411 }
/-- [B -/
def k6 : Class := { plain "[B" (some 0) with kind := .array 5 .byte, interfaces := #[3, 4], accessFlags := 1041 }

/-- the primitive int -/
def k7 : Class := { plain "int" none with kind := .primitive 'I', accessFlags := 0x411 }
/-- [I -/
def k8 : Class := { plain "[I" (some 0) with kind := .array 7 .int, interfaces := #[3, 4], accessFlags := 1041 }

def heap : Heap := #[]
def classes : Array Class := #[k0, k1, k2, k3, k4, k5, k6, k7, k8]
def interned : List (Array UInt16 × Addr) := []
def slotsUsed : Nat := 0
def theMethod : MethodId := ⟨1, 1⟩
def args0 : Array Value := #[.int 5, .int 6, .int 7, .int 8, .int 9, .int 10]
def aboutOver (below : List Frame) : State where
  vm := { classes := classes, interned := interned.toArray }
  heap := heap
  slotsUsed := slotsUsed
  threads := #[{ frames := .invoking theMethod args0 :: below }]
def below0 : List Frame := [.native { method := ⟨0, 0⟩, args := #[] }]
def about1 : State := aboutOver below0
def p0 : Program := .bare "" "" ""
def e0 : Env := launch0.env 0 0 0
theorem w_frames : about1.frames = Frame.invoking theMethod args0 :: below0 := rfl
set_option maxRecDepth 65536 in
theorem w_args : argsFit about1.vm theMethod args0 = true := by decide +kernel
set_option maxRecDepth 65536 in
theorem w_heap : heapFits about1 = true := by decide +kernel
set_option maxRecDepth 65536 in
theorem w_runnable : about1.curStatus? = some .runnable := by decide +kernel
set_option maxRecDepth 65536 in
theorem w_alone : about1.alone = true := by decide +kernel
set_option maxRecDepth 65536 in
theorem w_named : about1.methodNamed? x = some theMethod := by decide +kernel
set_option maxRecDepth 65536 in
theorem w_hears : about1.hears theMethod below0 = true := by decide +kernel
set_option maxRecDepth 65536 in
theorem w_ripe : about1.ripe theMethod args0 below0 = true := by decide +kernel
theorem w_running : about1.status = .running := rfl
set_option maxRecDepth 65536 in
theorem w_room : about1.hasRoom e0.platform room_1 = true :=
  launch0.hasRoom_least _ room_1 (by decide +kernel) (by decide +kernel) (by decide +kernel) (by decide +kernel) (by decide +kernel) (by decide +kernel)
theorem allAtoms_all (ts : List Jvm.Cond) (a : Array Jvm.Value) (st : Jvm.State) : (allAtoms ts).before a st = ts.all (fun c => c.before a st) := by
  induction ts with
  | nil => rfl
  | cons c t ih =>
    show (Jvm.Cond.and c (allAtoms t)).before a st = _
    rw [Jvm.Cond.before_and, ih, List.all_cons]
def words1 : List Jvm.Cond := Jvm.Cond.code x code maxLocals ret :: tables_1
/-- a 'code' word, met by the world's own term for the bytes: nothing is compared byte by byte -/
theorem code_word {y : MethodName} {bytes : ByteArray} {mx : Nat} {rt : Option FieldType} {a : Array Value} {s : State} {m : MethodId} {meth : Method} {c : Code} (h1 : s.methodNamed? y = some m) (h2 : s.vm.method? m = some meth) (h3 : meth.code = some c) (h4 : c.code = bytes)
    (h5 : (c.maxLocals == mx && c.exceptionTable.isEmpty && decide (c.maxStack ≤ mostOperands) && decide (meth.sig.returnType = rt) && !meth.locks && decide (parseMethodDescriptor y.desc = some meth.sig)) = true) : (Jvm.Cond.code y bytes mx rt).before a s = true := by
  simp only [Bool.and_eq_true, beq_iff_eq, Bool.not_eq_true', decide_eq_true_eq] at h5
  obtain ⟨⟨⟨⟨⟨g1, g2⟩, g3⟩, g4⟩, g5⟩, g6⟩ := h5
  simp [Cond.before, Cond.holds, Cond.value, h1, h2, h3, h4, g1, g2, g3, g4, g5, g6]
def isCode : Jvm.Cond → Bool
  | .code _ _ _ _ => true
  | _ => false
theorem all_split {L : List Jvm.Cond} {P : Jvm.Cond → Bool} (h1 : L.all (fun c => isCode c || P c) = true) (h2 : ∀ c ∈ L.filter isCode, P c = true) : L.all P = true := by
  refine List.all_eq_true.mpr fun c hc => ?_
  have h := List.all_eq_true.mp h1 c hc
  rcases Bool.eq_false_or_eq_true (isCode c) with hi | hi
  · exact h2 c (List.mem_filter.mpr ⟨hc, hi⟩)
  · simpa [hi] using h
set_option maxRecDepth 65536 in
theorem w_c0 : (Jvm.Cond.code x code maxLocals ret).before args0 about1 = true := code_word (m := ⟨1, 1⟩) (meth := k1m1) (c := k1c1) (by decide +kernel) rfl rfl rfl (by decide +kernel)
set_option maxRecDepth 65536 in
theorem w_c1 : (Jvm.Cond.code ({ cls := "com/example/open_brace/openbrace/text/Utf8", name := "sequenceLength", desc := "([BII)I" } : Jvm.MethodName) prog_97_method_3_code (9 : Nat) (Option.some Jvm.ClassFile.FieldType.int)).before args0 about1 = true := code_word (m := ⟨2, 1⟩) (meth := k2m1) (c := k2c1) (by decide +kernel) rfl rfl rfl (by decide +kernel)
set_option maxRecDepth 65536 in
theorem w_c2 : (Jvm.Cond.code ({ cls := "com/example/open_brace/openbrace/text/Utf8SequenceLengthPinLaw", name := "expected", desc := "(IIIII)I" } : Jvm.MethodName) method_4_code (10 : Nat) (Option.some Jvm.ClassFile.FieldType.int)).before args0 about1 = true := code_word (m := ⟨1, 3⟩) (meth := k1m3) (c := k1c3) (by decide +kernel) rfl rfl rfl (by decide +kernel)
set_option maxRecDepth 65536 in
theorem w_c3 : (Jvm.Cond.code ({ cls := "com/example/open_brace/openbrace/text/Utf8SequenceLengthPinLaw", name := "isCont", desc := "(I)Z" } : Jvm.MethodName) method_3_code (1 : Nat) (Option.some Jvm.ClassFile.FieldType.boolean)).before args0 about1 = true := code_word (m := ⟨1, 2⟩) (meth := k1m2) (c := k1c2) (by decide +kernel) rfl rfl rfl (by decide +kernel)
def codes1 : List Jvm.Cond := [Jvm.Cond.code x code maxLocals ret, Jvm.Cond.code ({ cls := "com/example/open_brace/openbrace/text/Utf8", name := "sequenceLength", desc := "([BII)I" } : Jvm.MethodName) prog_97_method_3_code (9 : Nat) (Option.some Jvm.ClassFile.FieldType.int), Jvm.Cond.code ({ cls := "com/example/open_brace/openbrace/text/Utf8SequenceLengthPinLaw", name := "expected", desc := "(IIIII)I" } : Jvm.MethodName) method_4_code (10 : Nat) (Option.some Jvm.ClassFile.FieldType.int), Jvm.Cond.code ({ cls := "com/example/open_brace/openbrace/text/Utf8SequenceLengthPinLaw", name := "isCont", desc := "(I)Z" } : Jvm.MethodName) method_3_code (1 : Nat) (Option.some Jvm.ClassFile.FieldType.boolean)]
set_option maxRecDepth 65536 in
theorem codes_eq : words1.filter isCode = codes1 := rfl
theorem w_codes : ∀ c ∈ words1.filter isCode, c.before args0 about1 = true := by
  rw [codes_eq]
  intro c hc
  simp only [codes1, List.mem_cons, List.not_mem_nil, or_false] at hc
  rcases hc with rfl | rfl | rfl | rfl
  · exact w_c0
  · exact w_c1
  · exact w_c2
  · exact w_c3
set_option maxRecDepth 65536 in
theorem w_t1 : words1.all (fun c => isCode c || c.before args0 about1) = true := by decide +kernel
theorem w_tables : (allAtoms (Jvm.Cond.code x code maxLocals ret :: tables_1)).before args0 about1 = true := by
  rw [allAtoms_all]
  show words1.all (fun c => c.before args0 about1) = true
  refine all_split ?_ w_codes
  rw [w_t1]
set_option maxRecDepth 65536 in
theorem w_case : (Jvm.Cond.and given_1 narrow_1).before args0 about1 = true := by decide +kernel
theorem w_applies : (headSpec (Jvm.Cond.code x code maxLocals ret :: tables_1) room_1).applies x e0.platform about1 = true :=
  (Spec.applies_iff w_frames).mpr ⟨w_running, w_runnable, w_alone, w_named, w_hears, w_ripe, w_room, w_tables⟩
theorem atStart : AtStart classFile x code maxLocals ret World_1 tables_1 room_1 Calls_1 rest_1 Pre_1 launch0 p0 e0 about1 theMethod args0 below0 :=
  ⟨lists_1, trivial, launch0.admits_env _ _ _, launch0.least_env, fairChoices_fair.cas, fairChoices_fair.clock, w_frames, w_args, w_heap, w_applies, trivial, trivial, w_case⟩
end start1
theorem witness_1 : WitnessClaimed_1 := ⟨start1.p0, start1.e0, start1.about1, start1.theMethod, start1.args0, start1.below0, start1.atStart⟩
end Jvm.Pilot.@@N@@
