import JvmDerived
import JvmDerived.Pilot.@@N@@Statement
import JvmDerived.Pilot.@@N@@Code
set_option linter.unusedVariables false
set_option linter.unusedSimpArgs false
set_option maxHeartbeats 40000000
set_option maxRecDepth 65536
namespace Jvm.RoadKit
open Sem ClassFile Op Lib Jvm.Stand Jvm.Free Jvm.LawKit
section New
variable {p : Program} {l : Launch} {e : Env} {R : Room} {s : State} {m : MethodId} {args : Array Value} {below : List Frame} {meth : Method} {c : Code} {T : State} {locs : List Loc} {cells slots : Nat}
theorem retI (X : Stand p l e R s m args below meth c T locs cells slots) (hx : p.tables.exec = Jvm.exec) {pc : Nat} {Ls : Array Slot} {z : Int32} {rest : List Value} (hret : meth.sig.returnType = some .int) (hd : decode c.code pc = .ok (.ireturn, 1)) {fs : List Frame}
    (hl : ∀ (f : JFrame) (acts : List Action), f.method = m → f.locked = none → f.entered = [] → (doReturn e (T.setTop f) acts (some (.int z))).1 = T.setFrames fs) : Steps p.tables e below (T.setTop (mkF m pc Ls (.int z :: rest))) (T.setFrames fs) := by
  have hm' : T.vm.method? m = some meth := X.method'
  have hn : narrow .int (.int z) = .int z := rfl
  show Steps p.tables e below (T.setTop { method := m, pc := pc, locals := Ls, stack := _ :: rest, locked := none }) _
  jvm_step X.here [X.here.top, hx, hd, hm', hret, hn]
  first | (intro acts; rw [hl _ acts rfl rfl rfl]) | rw [hl _ _ rfl rfl rfl]
  exact Steps.refl _
end New
end Jvm.RoadKit
namespace Jvm.Pilot.@@N@@
open Jvm Jvm.ClassFile Sem Op Lib Jvm.Free Jvm.Stand Jvm.LawKit Jvm.RoadKit Bundle Jvm.Pilot.@@N@@.Jvm.D
/-- an array of n places of ints, bytes ..: place i holds A i -/
def own_Ar (Z : State) (h : Heap) (a : Addr) (ty : FieldType) (n : Int32) (A : Nat → Int32) : Prop := ∃ c : Cell, Arr Z h a c ty ∧ c.slots.size = n.toNatClampNeg ∧ ¬ n < 0 ∧ ∀ i, i < c.slots.size → c.slots[i]? = some (.int (A i))
def own_up (A : Nat → Int32) (k : Nat) (v : Int32) : Nat → Int32 := fun i => if i = k then v else A i
theorem own_up_hit (A : Nat → Int32) (k : Nat) (v : Int32) : own_up A k v k = v := if_pos rfl
theorem own_up_miss (A : Nat → Int32) (k : Nat) (v : Int32) {i : Nat} (h : i ≠ k) : own_up A k v i = A i := if_neg h
theorem own_slots (c : Cell) (k : Nat) (v : Value) : (c.setSlot k v).slots = c.slots.setIfInBounds k v := rfl
theorem own_slotsN (k : ClassId) (ty : FieldType) (n : Int32) : (newA k ty n).slots = Array.replicate n.toNatClampNeg (defaultValue ty) := rfl
section OwnArr
variable {Z : State} {h h' : Heap} {a b : Addr} {ty : FieldType} {n : Int32} {A : Nat → Int32} {sl : Nat} {v : Value} {ws : List Addr}
theorem own_Ar.lt (F : own_Ar Z h a ty n A) : a < h.size := by obtain ⟨c, B, -⟩ := F; exact B.lt
theorem own_Ar.ext (F : own_Ar Z h a ty n A) (E : Ext h h') : own_Ar Z h' a ty n A := by obtain ⟨c, B, r⟩ := F; exact ⟨c, B.ext E, r⟩
theorem own_Ar.other (F : own_Ar Z h b ty n A) (W : Wr h h' a sl v) (q : b ≠ a) : own_Ar Z h' b ty n A := by obtain ⟨c, B, r⟩ := F; exact ⟨c, B.other W q, r⟩
theorem own_Ar.keep (F : own_Ar Z h a ty n A) (K : Keep h h' ws) (q : a ∉ ws) : own_Ar Z h' a ty n A := by obtain ⟨c, B, r⟩ := F; exact ⟨c, ⟨K.2.1 a c B.1 q, B.2⟩, r⟩
theorem own_Ar.new {k : ClassId} (B : Arr Z h a (newA k ty n) ty) (q : ¬ n < 0) (hd : defaultValue ty = .int 0) : own_Ar Z h a ty n (fun _ => 0) := by
  refine ⟨_, B, sz_new _ _ _, q, fun i hi => ?_⟩
  rw [sz_new] at hi
  rw [own_slotsN, hd, Array.getElem?_replicate, if_pos hi]
theorem own_Ar.put {cl : Cell} {k : Nat} {x : Int32} (B : Arr Z h a cl ty) (S : cl.slots.size = n.toNatClampNeg) (N : ¬ n < 0) (H : ∀ i, i < cl.slots.size → cl.slots[i]? = some (.int (A i))) (W : Wr h h' a k (.int x)) : own_Ar Z h' a ty n (own_up A k x) := by
  refine ⟨_, B.same W, by rw [sz_set]; exact S, N, fun i hi => ?_⟩
  rw [sz_set] at hi
  rw [own_slots]
  by_cases u : i = k
  · subst u
    rw [own_up_hit, Array.getElem?_setIfInBounds_self_of_lt hi]
  · rw [own_up_miss _ _ _ u, Array.getElem?_setIfInBounds_ne (fun z => u z.symm)]
    exact H i hi
end OwnArr
section OwnArrSteps
variable {p : Program} {l : Launch} {e : Env} {R : Room} {s : State} {m : MethodId} {args : Array Value} {below : List Frame} {meth : Method} {c : Code} {T : State} {locs : List Loc} {cells slots : Nat} {Z : State} {h : Heap} {a : Addr} {ty : FieldType} {n : Int32} {A : Nat → Int32}
theorem own_ldI (X : Stand p l e R s m args below meth c T locs cells slots) (hx : p.tables.exec = Jvm.exec) (hZ : Z.Warmed39 s.vm) (eT : T.heap = h) (F : own_Ar Z h a .int n A) {j : Int32} (hj : ¬ j < 0 ∧ j < n) {g : JFrame} (hg : g.method = m) {rest : List Value} (hs : g.stack = .int j :: .ref a :: rest) (hd : decode c.code g.pc = .ok (.iaload, 1)) (target : State)
    (k : Steps p.tables e below (T.setTop { g with pc := g.pc + 1, stack := .int (A j.toNatClampNeg) :: rest }) target) : Steps p.tables e below (T.setTop g) target := by
  obtain ⟨cl, B, S, N, H⟩ := F
  have hin := inb_of S hj
  exact X.iaload hx (by rw [eT]; exact B.1) (State.isArrayOf_alike hZ.alike B.2.1) B.2.2 hin (H _ (Nat.lt_of_not_le fun y => hin (Or.inr y))) hg hs hd target k
theorem own_ldB (X : Stand p l e R s m args below meth c T locs cells slots) (hx : p.tables.exec = Jvm.exec) (hZ : Z.Warmed39 s.vm) (eT : T.heap = h) (F : own_Ar Z h a .byte n A) {j : Int32} (hj : ¬ j < 0 ∧ j < n) {g : JFrame} (hg : g.method = m) {rest : List Value} (hs : g.stack = .int j :: .ref a :: rest) (hd : decode c.code g.pc = .ok (.baload, 1)) (target : State)
    (k : Steps p.tables e below (T.setTop { g with pc := g.pc + 1, stack := .int (A j.toNatClampNeg) :: rest }) target) : Steps p.tables e below (T.setTop g) target := by
  obtain ⟨cl, B, S, N, H⟩ := F
  have hin := inb_of S hj
  exact X.baloadBytes hx (by rw [eT]; exact B.1) (State.isArrayOf_alike hZ.alike B.2.1) B.2.2 hin (H _ (Nat.lt_of_not_le fun y => hin (Or.inr y))) hg hs hd target k
theorem own_alen (X : Stand p l e R s m args below meth c T locs cells slots) (hx : p.tables.exec = Jvm.exec) (hZ : Z.Warmed39 s.vm) (eT : T.heap = h) (F : own_Ar Z h a ty n A) {g : JFrame} (hg : g.method = m) {rest : List Value} (hs : g.stack = .ref a :: rest) (hd : decode c.code g.pc = .ok (.arraylength, 1)) (target : State)
    (k : Steps p.tables e below (T.setTop { g with pc := g.pc + 1, stack := .int n :: rest }) target) : Steps p.tables e below (T.setTop g) target := by
  obtain ⟨cl, B, S, N, H⟩ := F
  exact X.arraylength hx (by rw [eT]; exact B.1) (State.isArrayOf_alike hZ.alike B.2.1) hg hs hd target (by rw [len_of S N]; exact k)
theorem own_stI (X : Stand p l e R s m args below meth c T locs cells slots) (hx : p.tables.exec = Jvm.exec) (hZ : Z.Warmed39 s.vm) (eT : T.heap = h) (F : own_Ar Z h a .int n A) {j x : Int32} (hj : ¬ j < 0 ∧ j < n) {g : JFrame} (hg : g.method = m) {rest : List Value} (hs : g.stack = .int x :: .int j :: .ref a :: rest) (hd : decode c.code g.pc = .ok (.iastore, 1)) :
    ∃ T' h', Stand p l e R s m args below meth c T' (locs ++ [⟨a, j.toNatClampNeg⟩]) cells slots ∧ T'.heap = h' ∧ Wr h h' a j.toNatClampNeg (.int x) ∧ own_Ar Z h' a .int n (own_up A j.toNatClampNeg x) ∧ ∀ target, Steps p.tables e below (T'.setTop { g with pc := g.pc + 1, stack := rest }) target → Steps p.tables e below (T.setTop g) target := by
  obtain ⟨cl, B, S, N, H⟩ := F
  obtain ⟨T', h', X', e', W, st⟩ := stI X hx hZ eT B (j := j) (inb_of S hj) hg hs hd
  exact ⟨T', h', X', e', W, own_Ar.put B S N H W, st⟩
theorem own_stB (X : Stand p l e R s m args below meth c T locs cells slots) (hx : p.tables.exec = Jvm.exec) (hZ : Z.Warmed39 s.vm) (eT : T.heap = h) (F : own_Ar Z h a .byte n A) {j x : Int32} (hj : ¬ j < 0 ∧ j < n) {g : JFrame} (hg : g.method = m) {rest : List Value} (hs : g.stack = .int x :: .int j :: .ref a :: rest) (hd : decode c.code g.pc = .ok (.bastore, 1)) :
    ∃ T' h', Stand p l e R s m args below meth c T' (locs ++ [⟨a, j.toNatClampNeg⟩]) cells slots ∧ T'.heap = h' ∧ Wr h h' a j.toNatClampNeg (.int x.toInt8.toInt32) ∧ own_Ar Z h' a .byte n (own_up A j.toNatClampNeg x.toInt8.toInt32) ∧ ∀ target, Steps p.tables e below (T'.setTop { g with pc := g.pc + 1, stack := rest }) target → Steps p.tables e below (T.setTop g) target := by
  obtain ⟨cl, B, S, N, H⟩ := F
  obtain ⟨T', h', X', e', W, st⟩ := stB X hx hZ eT B (j := j) (inb_of S hj) hg hs hd
  exact ⟨T', h', X', e', W, own_Ar.put B S N H W, st⟩
end OwnArrSteps
theorem own_ix (k : Int32) : ¬ ((k &&& (2147483647 : Int32)) - ((k &&& (2147483647 : Int32)) / (30 : Int32)) * (30 : Int32)) < 0 ∧ ((k &&& (2147483647 : Int32)) - ((k &&& (2147483647 : Int32)) / (30 : Int32)) * (30 : Int32)) < (30 : Int32) := by
  have l0 : (0 : Int32).toInt = 0 := by decide +kernel
  have l30 : (30 : Int32).toInt = 30 := by decide +kernel
  have m := c_mask k 2147483647 31 (by decide +kernel) (by decide +kernel)
  have e := rem_toInt (k &&& (2147483647 : Int32)) 30
  rw [l30, Int.tmod_eq_emod_of_nonneg (by omega)] at e
  rw [Int32.lt_iff_toInt_lt, Int32.lt_iff_toInt_lt, e, l0, l30]
  omega
theorem d1_0 : decode prog_220_method_5_code 0 = .ok (.iload_n 0, 1) := by decide +kernel
theorem d1_1 : decode prog_220_method_5_code 1 = .ok (.bipush 97, 2) := by decide +kernel
theorem d1_3 : decode prog_220_method_5_code 3 = .ok (.if_icmp .lt 9, 3) := by decide +kernel
theorem d1_6 : decode prog_220_method_5_code 6 = .ok (.iload_n 0, 1) := by decide +kernel
theorem d1_7 : decode prog_220_method_5_code 7 = .ok (.bipush 122, 2) := by decide +kernel
theorem d1_9 : decode prog_220_method_5_code 9 = .ok (.if_icmp .le 182, 3) := by decide +kernel
theorem d1_12 : decode prog_220_method_5_code 12 = .ok (.iload_n 0, 1) := by decide +kernel
theorem d1_13 : decode prog_220_method_5_code 13 = .ok (.bipush 65, 2) := by decide +kernel
theorem d1_15 : decode prog_220_method_5_code 15 = .ok (.if_icmp .lt 9, 3) := by decide +kernel
theorem d1_18 : decode prog_220_method_5_code 18 = .ok (.iload_n 0, 1) := by decide +kernel
theorem d1_19 : decode prog_220_method_5_code 19 = .ok (.bipush 90, 2) := by decide +kernel
theorem d1_21 : decode prog_220_method_5_code 21 = .ok (.if_icmp .le 170, 3) := by decide +kernel
theorem d1_24 : decode prog_220_method_5_code 24 = .ok (.iload_n 0, 1) := by decide +kernel
theorem d1_25 : decode prog_220_method_5_code 25 = .ok (.bipush 95, 2) := by decide +kernel
theorem d1_27 : decode prog_220_method_5_code 27 = .ok (.if_icmp .eq 164, 3) := by decide +kernel
theorem d1_30 : decode prog_220_method_5_code 30 = .ok (.iload_n 0, 1) := by decide +kernel
theorem d1_31 : decode prog_220_method_5_code 31 = .ok (.sipush 192, 3) := by decide +kernel
theorem d1_34 : decode prog_220_method_5_code 34 = .ok (.if_icmp .lt 10, 3) := by decide +kernel
theorem d1_37 : decode prog_220_method_5_code 37 = .ok (.iload_n 0, 1) := by decide +kernel
theorem d1_38 : decode prog_220_method_5_code 38 = .ok (.sipush 214, 3) := by decide +kernel
theorem d1_41 : decode prog_220_method_5_code 41 = .ok (.if_icmp .le 150, 3) := by decide +kernel
theorem d1_44 : decode prog_220_method_5_code 44 = .ok (.iload_n 0, 1) := by decide +kernel
theorem d1_45 : decode prog_220_method_5_code 45 = .ok (.sipush 216, 3) := by decide +kernel
theorem d1_48 : decode prog_220_method_5_code 48 = .ok (.if_icmp .lt 10, 3) := by decide +kernel
theorem d1_51 : decode prog_220_method_5_code 51 = .ok (.iload_n 0, 1) := by decide +kernel
theorem d1_52 : decode prog_220_method_5_code 52 = .ok (.sipush 246, 3) := by decide +kernel
theorem d1_55 : decode prog_220_method_5_code 55 = .ok (.if_icmp .le 136, 3) := by decide +kernel
theorem d1_58 : decode prog_220_method_5_code 58 = .ok (.iload_n 0, 1) := by decide +kernel
theorem d1_59 : decode prog_220_method_5_code 59 = .ok (.sipush 248, 3) := by decide +kernel
theorem d1_62 : decode prog_220_method_5_code 62 = .ok (.if_icmp .lt 10, 3) := by decide +kernel
theorem d1_65 : decode prog_220_method_5_code 65 = .ok (.iload_n 0, 1) := by decide +kernel
theorem d1_66 : decode prog_220_method_5_code 66 = .ok (.sipush 767, 3) := by decide +kernel
theorem d1_69 : decode prog_220_method_5_code 69 = .ok (.if_icmp .le 122, 3) := by decide +kernel
theorem d1_72 : decode prog_220_method_5_code 72 = .ok (.iload_n 0, 1) := by decide +kernel
theorem d1_73 : decode prog_220_method_5_code 73 = .ok (.sipush 880, 3) := by decide +kernel
theorem d1_76 : decode prog_220_method_5_code 76 = .ok (.if_icmp .lt 10, 3) := by decide +kernel
theorem d1_79 : decode prog_220_method_5_code 79 = .ok (.iload_n 0, 1) := by decide +kernel
theorem d1_80 : decode prog_220_method_5_code 80 = .ok (.sipush 893, 3) := by decide +kernel
theorem d1_83 : decode prog_220_method_5_code 83 = .ok (.if_icmp .le 108, 3) := by decide +kernel
theorem d1_86 : decode prog_220_method_5_code 86 = .ok (.iload_n 0, 1) := by decide +kernel
theorem d1_87 : decode prog_220_method_5_code 87 = .ok (.sipush 895, 3) := by decide +kernel
theorem d1_90 : decode prog_220_method_5_code 90 = .ok (.if_icmp .lt 10, 3) := by decide +kernel
theorem d1_93 : decode prog_220_method_5_code 93 = .ok (.iload_n 0, 1) := by decide +kernel
theorem d1_94 : decode prog_220_method_5_code 94 = .ok (.sipush 8191, 3) := by decide +kernel
theorem d1_97 : decode prog_220_method_5_code 97 = .ok (.if_icmp .le 94, 3) := by decide +kernel
theorem d1_100 : decode prog_220_method_5_code 100 = .ok (.iload_n 0, 1) := by decide +kernel
theorem d1_101 : decode prog_220_method_5_code 101 = .ok (.sipush 8204, 3) := by decide +kernel
theorem d1_104 : decode prog_220_method_5_code 104 = .ok (.if_icmp .lt 10, 3) := by decide +kernel
theorem d1_107 : decode prog_220_method_5_code 107 = .ok (.iload_n 0, 1) := by decide +kernel
theorem d1_108 : decode prog_220_method_5_code 108 = .ok (.sipush 8205, 3) := by decide +kernel
theorem d1_111 : decode prog_220_method_5_code 111 = .ok (.if_icmp .le 80, 3) := by decide +kernel
theorem d1_114 : decode prog_220_method_5_code 114 = .ok (.iload_n 0, 1) := by decide +kernel
theorem d1_115 : decode prog_220_method_5_code 115 = .ok (.sipush 8304, 3) := by decide +kernel
theorem d1_118 : decode prog_220_method_5_code 118 = .ok (.if_icmp .lt 10, 3) := by decide +kernel
theorem d1_121 : decode prog_220_method_5_code 121 = .ok (.iload_n 0, 1) := by decide +kernel
theorem d1_122 : decode prog_220_method_5_code 122 = .ok (.sipush 8591, 3) := by decide +kernel
theorem d1_125 : decode prog_220_method_5_code 125 = .ok (.if_icmp .le 66, 3) := by decide +kernel
theorem d1_128 : decode prog_220_method_5_code 128 = .ok (.iload_n 0, 1) := by decide +kernel
theorem d1_129 : decode prog_220_method_5_code 129 = .ok (.sipush 11264, 3) := by decide +kernel
theorem d1_132 : decode prog_220_method_5_code 132 = .ok (.if_icmp .lt 10, 3) := by decide +kernel
theorem d1_135 : decode prog_220_method_5_code 135 = .ok (.iload_n 0, 1) := by decide +kernel
theorem d1_136 : decode prog_220_method_5_code 136 = .ok (.sipush 12271, 3) := by decide +kernel
theorem d1_139 : decode prog_220_method_5_code 139 = .ok (.if_icmp .le 52, 3) := by decide +kernel
theorem d1_142 : decode prog_220_method_5_code 142 = .ok (.iload_n 0, 1) := by decide +kernel
theorem d1_143 : decode prog_220_method_5_code 143 = .ok (.sipush 12289, 3) := by decide +kernel
theorem d1_146 : decode prog_220_method_5_code 146 = .ok (.if_icmp .lt 9, 3) := by decide +kernel
theorem d1_149 : decode prog_220_method_5_code 149 = .ok (.iload_n 0, 1) := by decide +kernel
theorem d1_150 : decode prog_220_method_5_code 150 = .ok (.ldc 31, 2) := by decide +kernel
theorem d1_152 : decode prog_220_method_5_code 152 = .ok (.if_icmp .le 39, 3) := by decide +kernel
theorem d1_155 : decode prog_220_method_5_code 155 = .ok (.iload_n 0, 1) := by decide +kernel
theorem d1_156 : decode prog_220_method_5_code 156 = .ok (.ldc 36, 2) := by decide +kernel
theorem d1_158 : decode prog_220_method_5_code 158 = .ok (.if_icmp .lt 9, 3) := by decide +kernel
theorem d1_161 : decode prog_220_method_5_code 161 = .ok (.iload_n 0, 1) := by decide +kernel
theorem d1_162 : decode prog_220_method_5_code 162 = .ok (.ldc 37, 2) := by decide +kernel
theorem d1_164 : decode prog_220_method_5_code 164 = .ok (.if_icmp .le 27, 3) := by decide +kernel
theorem d1_167 : decode prog_220_method_5_code 167 = .ok (.iload_n 0, 1) := by decide +kernel
theorem d1_168 : decode prog_220_method_5_code 168 = .ok (.ldc 38, 2) := by decide +kernel
theorem d1_170 : decode prog_220_method_5_code 170 = .ok (.if_icmp .lt 9, 3) := by decide +kernel
theorem d1_173 : decode prog_220_method_5_code 173 = .ok (.iload_n 0, 1) := by decide +kernel
theorem d1_174 : decode prog_220_method_5_code 174 = .ok (.ldc 33, 2) := by decide +kernel
theorem d1_176 : decode prog_220_method_5_code 176 = .ok (.if_icmp .le 15, 3) := by decide +kernel
theorem d1_179 : decode prog_220_method_5_code 179 = .ok (.iload_n 0, 1) := by decide +kernel
theorem d1_180 : decode prog_220_method_5_code 180 = .ok (.ldc 34, 2) := by decide +kernel
theorem d1_182 : decode prog_220_method_5_code 182 = .ok (.if_icmp .lt 13, 3) := by decide +kernel
theorem d1_185 : decode prog_220_method_5_code 185 = .ok (.iload_n 0, 1) := by decide +kernel
theorem d1_186 : decode prog_220_method_5_code 186 = .ok (.ldc 39, 2) := by decide +kernel
theorem d1_188 : decode prog_220_method_5_code 188 = .ok (.if_icmp .gt 7, 3) := by decide +kernel
theorem d1_191 : decode prog_220_method_5_code 191 = .ok (.iconst 1, 1) := by decide +kernel
theorem d1_192 : decode prog_220_method_5_code 192 = .ok (.goto 4, 3) := by decide +kernel
theorem d1_195 : decode prog_220_method_5_code 195 = .ok (.iconst 0, 1) := by decide +kernel
theorem d1_196 : decode prog_220_method_5_code 196 = .ok (.ireturn, 1) := by decide +kernel
theorem pn_1 : plainName "com/example/saho/saho/text/XmlChars" = true := by first | (simp [plainName, overriddenIn]; done) | decide +kernel
theorem ef_1 (m : MethodId) (i0 : Int32) : entryFrame m #[(.int i0)] 1 = mkF m 0 #[.val (.int i0)] [] := by first | (simp [entryFrame, mkF, argsToLocals, Value.category]; done) | rfl
def own_f1_179 (i0 : Int32) : Int32 :=
  (if i0 < (65536 : Int32) then (0 : Int32) else (if (983039 : Int32) < i0 then (0 : Int32) else (1 : Int32)))
def own_f1_167 (i0 : Int32) : Int32 :=
  (if i0 < (65008 : Int32) then (own_f1_179 i0) else (if (65533 : Int32) < i0 then (own_f1_179 i0) else (1 : Int32)))
def own_f1_155 (i0 : Int32) : Int32 :=
  (if i0 < (63744 : Int32) then (own_f1_167 i0) else (if (64975 : Int32) < i0 then (own_f1_167 i0) else (1 : Int32)))
def own_f1_142 (i0 : Int32) : Int32 :=
  (if i0 < (12289 : Int32) then (own_f1_155 i0) else (if (55295 : Int32) < i0 then (own_f1_155 i0) else (1 : Int32)))
def own_f1_128 (i0 : Int32) : Int32 :=
  (if i0 < (11264 : Int32) then (own_f1_142 i0) else (if (12271 : Int32) < i0 then (own_f1_142 i0) else (1 : Int32)))
def own_f1_114 (i0 : Int32) : Int32 :=
  (if i0 < (8304 : Int32) then (own_f1_128 i0) else (if (8591 : Int32) < i0 then (own_f1_128 i0) else (1 : Int32)))
def own_f1_100 (i0 : Int32) : Int32 :=
  (if i0 < (8204 : Int32) then (own_f1_114 i0) else (if (8205 : Int32) < i0 then (own_f1_114 i0) else (1 : Int32)))
def own_f1_86 (i0 : Int32) : Int32 :=
  (if i0 < (895 : Int32) then (own_f1_100 i0) else (if (8191 : Int32) < i0 then (own_f1_100 i0) else (1 : Int32)))
def own_f1_72 (i0 : Int32) : Int32 :=
  (if i0 < (880 : Int32) then (own_f1_86 i0) else (if (893 : Int32) < i0 then (own_f1_86 i0) else (1 : Int32)))
def own_f1_58 (i0 : Int32) : Int32 :=
  (if i0 < (248 : Int32) then (own_f1_72 i0) else (if (767 : Int32) < i0 then (own_f1_72 i0) else (1 : Int32)))
def own_f1_44 (i0 : Int32) : Int32 :=
  (if i0 < (216 : Int32) then (own_f1_58 i0) else (if (246 : Int32) < i0 then (own_f1_58 i0) else (1 : Int32)))
def own_f1_24 (i0 : Int32) : Int32 :=
  (if i0 = (95 : Int32) then (1 : Int32) else (if i0 < (192 : Int32) then (own_f1_44 i0) else (if (214 : Int32) < i0 then (own_f1_44 i0) else (1 : Int32))))
def own_f1_12 (i0 : Int32) : Int32 :=
  (if i0 < (65 : Int32) then (own_f1_24 i0) else (if (90 : Int32) < i0 then (own_f1_24 i0) else (1 : Int32)))
def own_f1_0 (i0 : Int32) : Int32 :=
  (if i0 < (97 : Int32) then (own_f1_12 i0) else (if (122 : Int32) < i0 then (own_f1_12 i0) else (1 : Int32)))
set_option maxRecDepth 65536 in
set_option maxHeartbeats 40000000 in
theorem own_b1_179 {p : Program} {l : Launch} {e : Env} {s : State} {m : MethodId} {args : Array Value} {below : List Frame} {meth : Method} {c : Code} {Z : State} {a0_ : Array Value} (hx : p.tables.exec = Jvm.exec) (hZ : Z.Warmed39 s.vm) (hw : ∀ d ∈ tables_1, d.before a0_ Z = true) (hby : c.code = prog_220_method_5_code) (hml : c.maxLocals = 1) (hown : s.vm.findClass "com/example/saho/saho/text/XmlChars" = some m.cls) (hret : meth.sig.returnType = some .boolean) {T0 : State} {locs : List Loc} {cells slots : Nat} {h0 : Heap} (i0 : Int32)
    (X0 : Stand p l e ({ frames := 0, cells := 0, slots := 0, locals := 0 } : Room) s m args below meth c T0 locs cells slots) (e0 : T0.heap = h0) (hcl : cells ≤ ({ frames := 0, cells := 0, slots := 0, locals := 0 } : Room).cells) (hsl : slots ≤ ({ frames := 0, cells := 0, slots := 0, locals := 0 } : Room).slots)  :
    ∃ T', Stand p l e ({ frames := 0, cells := 0, slots := 0, locals := 0 } : Room) s m args below meth c T' locs cells slots ∧ T'.heap = h0 ∧ ∀ fs, (∀ (f : JFrame) (acts : List Action), f.method = m → f.locked = none → f.entered = [] → (doReturn e (T'.setTop f) acts (some (.int (own_f1_179 i0)))).1 = T'.setFrames fs) → Steps p.tables e below (T0.setTop (mkF m 179 #[.val (.int i0)] [])) (T'.setFrames fs) := by
  have pre1 : ∀ target, Steps p.tables e below (T0.setTop (mkF m 182 #[.val (.int i0)] [(.int (65536 : Int32)), (.int i0)])) target → Steps p.tables e below (T0.setTop (mkF m 179 #[.val (.int i0)] [])) target := by
    intro target kt
    show Steps p.tables e below (T0.setTop (mkF m 179 #[.val (.int i0)] [])) _
    refine XS.iloadN X0.here hx rfl (hb hby d1_179) rfl ?_
    show Steps p.tables e below (T0.setTop (mkF m 180 #[.val (.int i0)] [(.int i0)])) _
    refine X0.ldcInt hx hown (mvT hZ (hw _ (List.mem_of_getElem? (i := 15) rfl))) (g := (mkF m 180 #[.val (.int i0)] [(.int i0)])) rfl (hb hby d1_180) _ ?_
    exact kt
  by_cases hc182 : i0 < (65536 : Int32)
  · refine ⟨T0, X0, e0, fun fs hr => ?_⟩
    have hv : (own_f1_179 i0) = (0 : Int32) := by unfold own_f1_179; rw [if_pos hc182]
    rw [hv] at hr
    refine pre1 _ ?_
    show Steps p.tables e below (T0.setTop (mkF m 182 #[.val (.int i0)] [(.int (65536 : Int32)), (.int i0)])) _
    refine XS.icmpYes X0.here hx rfl (pc0 := 182) (pc' := 195) rfl (hb hby d1_182) rfl (tlt hc182).1 (by decide) (by decide) ?_
    show Steps p.tables e below (T0.setTop (mkF m 195 #[.val (.int i0)] [])) _
    refine XS.iconst X0.here hx rfl (hb hby d1_195) ?_
    show Steps p.tables e below (T0.setTop (mkF m 196 #[.val (.int i0)] [(.int (0 : Int32))])) _
    exact retN X0 hx (t := .boolean) hret (by simp) (hb hby d1_196) hr
  · have pre2 : ∀ target, Steps p.tables e below (T0.setTop (mkF m 188 #[.val (.int i0)] [(.int (983039 : Int32)), (.int i0)])) target → Steps p.tables e below (T0.setTop (mkF m 179 #[.val (.int i0)] [])) target := by
      intro target kt
      refine pre1 target ?_
      show Steps p.tables e below (T0.setTop (mkF m 182 #[.val (.int i0)] [(.int (65536 : Int32)), (.int i0)])) _
      refine XS.icmpNo X0.here hx rfl (hb hby d1_182) rfl (flt hc182).1 ?_
      show Steps p.tables e below (T0.setTop (mkF m 185 #[.val (.int i0)] [])) _
      refine XS.iloadN X0.here hx rfl (hb hby d1_185) rfl ?_
      show Steps p.tables e below (T0.setTop (mkF m 186 #[.val (.int i0)] [(.int i0)])) _
      refine X0.ldcInt hx hown (mvT hZ (hw _ (List.mem_of_getElem? (i := 35) rfl))) (g := (mkF m 186 #[.val (.int i0)] [(.int i0)])) rfl (hb hby d1_186) _ ?_
      exact kt
    by_cases hc188 : (983039 : Int32) < i0
    · refine ⟨T0, X0, e0, fun fs hr => ?_⟩
      have hv : (own_f1_179 i0) = (0 : Int32) := by unfold own_f1_179; rw [if_neg hc182, if_pos hc188]
      rw [hv] at hr
      refine pre2 _ ?_
      show Steps p.tables e below (T0.setTop (mkF m 188 #[.val (.int i0)] [(.int (983039 : Int32)), (.int i0)])) _
      refine XS.icmpYes X0.here hx rfl (pc0 := 188) (pc' := 195) rfl (hb hby d1_188) rfl (tlt hc188).2.2.1 (by decide) (by decide) ?_
      show Steps p.tables e below (T0.setTop (mkF m 195 #[.val (.int i0)] [])) _
      refine XS.iconst X0.here hx rfl (hb hby d1_195) ?_
      show Steps p.tables e below (T0.setTop (mkF m 196 #[.val (.int i0)] [(.int (0 : Int32))])) _
      exact retN X0 hx (t := .boolean) hret (by simp) (hb hby d1_196) hr
    · refine ⟨T0, X0, e0, fun fs hr => ?_⟩
      have hv : (own_f1_179 i0) = (1 : Int32) := by unfold own_f1_179; rw [if_neg hc182, if_neg hc188]
      rw [hv] at hr
      refine pre2 _ ?_
      show Steps p.tables e below (T0.setTop (mkF m 188 #[.val (.int i0)] [(.int (983039 : Int32)), (.int i0)])) _
      refine XS.icmpNo X0.here hx rfl (hb hby d1_188) rfl (flt hc188).2.2.1 ?_
      show Steps p.tables e below (T0.setTop (mkF m 191 #[.val (.int i0)] [])) _
      refine XS.iconst X0.here hx rfl (hb hby d1_191) ?_
      show Steps p.tables e below (T0.setTop (mkF m 192 #[.val (.int i0)] [(.int (1 : Int32))])) _
      refine XS.goto X0.here hx rfl (pc0 := 192) (pc' := 196) rfl (hb hby d1_192) (by decide) (by decide) ?_
      show Steps p.tables e below (T0.setTop (mkF m 196 #[.val (.int i0)] [(.int (1 : Int32))])) _
      exact retN X0 hx (t := .boolean) hret (by simp) (hb hby d1_196) hr
set_option maxRecDepth 65536 in
set_option maxHeartbeats 40000000 in
theorem own_b1_167 {p : Program} {l : Launch} {e : Env} {s : State} {m : MethodId} {args : Array Value} {below : List Frame} {meth : Method} {c : Code} {Z : State} {a0_ : Array Value} (hx : p.tables.exec = Jvm.exec) (hZ : Z.Warmed39 s.vm) (hw : ∀ d ∈ tables_1, d.before a0_ Z = true) (hby : c.code = prog_220_method_5_code) (hml : c.maxLocals = 1) (hown : s.vm.findClass "com/example/saho/saho/text/XmlChars" = some m.cls) (hret : meth.sig.returnType = some .boolean) {T0 : State} {locs : List Loc} {cells slots : Nat} {h0 : Heap} (i0 : Int32)
    (X0 : Stand p l e ({ frames := 0, cells := 0, slots := 0, locals := 0 } : Room) s m args below meth c T0 locs cells slots) (e0 : T0.heap = h0) (hcl : cells ≤ ({ frames := 0, cells := 0, slots := 0, locals := 0 } : Room).cells) (hsl : slots ≤ ({ frames := 0, cells := 0, slots := 0, locals := 0 } : Room).slots)  :
    ∃ T', Stand p l e ({ frames := 0, cells := 0, slots := 0, locals := 0 } : Room) s m args below meth c T' locs cells slots ∧ T'.heap = h0 ∧ ∀ fs, (∀ (f : JFrame) (acts : List Action), f.method = m → f.locked = none → f.entered = [] → (doReturn e (T'.setTop f) acts (some (.int (own_f1_167 i0)))).1 = T'.setFrames fs) → Steps p.tables e below (T0.setTop (mkF m 167 #[.val (.int i0)] [])) (T'.setFrames fs) := by
  have pre1 : ∀ target, Steps p.tables e below (T0.setTop (mkF m 170 #[.val (.int i0)] [(.int (65008 : Int32)), (.int i0)])) target → Steps p.tables e below (T0.setTop (mkF m 167 #[.val (.int i0)] [])) target := by
    intro target kt
    show Steps p.tables e below (T0.setTop (mkF m 167 #[.val (.int i0)] [])) _
    refine XS.iloadN X0.here hx rfl (hb hby d1_167) rfl ?_
    show Steps p.tables e below (T0.setTop (mkF m 168 #[.val (.int i0)] [(.int i0)])) _
    refine X0.ldcInt hx hown (mvT hZ (hw _ (List.mem_of_getElem? (i := 14) rfl))) (g := (mkF m 168 #[.val (.int i0)] [(.int i0)])) rfl (hb hby d1_168) _ ?_
    exact kt
  by_cases hc170 : i0 < (65008 : Int32)
  · have pre2 : ∀ target, Steps p.tables e below (T0.setTop (mkF m 179 #[.val (.int i0)] [])) target → Steps p.tables e below (T0.setTop (mkF m 167 #[.val (.int i0)] [])) target := by
      intro target kt
      refine pre1 target ?_
      show Steps p.tables e below (T0.setTop (mkF m 170 #[.val (.int i0)] [(.int (65008 : Int32)), (.int i0)])) _
      refine XS.icmpYes X0.here hx rfl (pc0 := 170) (pc' := 179) rfl (hb hby d1_170) rfl (tlt hc170).1 (by decide) (by decide) ?_
      exact kt
    obtain ⟨T3, X3, e3, st3⟩ := own_b1_179 hx hZ hw hby hml hown hret i0  X0 e0 hcl hsl  
    have hv : (own_f1_167 i0) = (own_f1_179 i0) := by unfold own_f1_167; rw [if_pos hc170]
    exact ⟨T3, X3, e3, fun fs hr => pre2 _ (st3 fs (by rw [hv] at hr; exact hr))⟩
  · have pre4 : ∀ target, Steps p.tables e below (T0.setTop (mkF m 176 #[.val (.int i0)] [(.int (65533 : Int32)), (.int i0)])) target → Steps p.tables e below (T0.setTop (mkF m 167 #[.val (.int i0)] [])) target := by
      intro target kt
      refine pre1 target ?_
      show Steps p.tables e below (T0.setTop (mkF m 170 #[.val (.int i0)] [(.int (65008 : Int32)), (.int i0)])) _
      refine XS.icmpNo X0.here hx rfl (hb hby d1_170) rfl (flt hc170).1 ?_
      show Steps p.tables e below (T0.setTop (mkF m 173 #[.val (.int i0)] [])) _
      refine XS.iloadN X0.here hx rfl (hb hby d1_173) rfl ?_
      show Steps p.tables e below (T0.setTop (mkF m 174 #[.val (.int i0)] [(.int i0)])) _
      refine X0.ldcInt hx hown (mvT hZ (hw _ (List.mem_of_getElem? (i := 34) rfl))) (g := (mkF m 174 #[.val (.int i0)] [(.int i0)])) rfl (hb hby d1_174) _ ?_
      exact kt
    by_cases hc176 : (65533 : Int32) < i0
    · have pre5 : ∀ target, Steps p.tables e below (T0.setTop (mkF m 179 #[.val (.int i0)] [])) target → Steps p.tables e below (T0.setTop (mkF m 167 #[.val (.int i0)] [])) target := by
        intro target kt
        refine pre4 target ?_
        show Steps p.tables e below (T0.setTop (mkF m 176 #[.val (.int i0)] [(.int (65533 : Int32)), (.int i0)])) _
        refine XS.icmpNo X0.here hx rfl (hb hby d1_176) rfl (tlt hc176).2.2.2 ?_
        exact kt
      obtain ⟨T6, X6, e6, st6⟩ := own_b1_179 hx hZ hw hby hml hown hret i0  X0 e0 hcl hsl  
      have hv : (own_f1_167 i0) = (own_f1_179 i0) := by unfold own_f1_167; rw [if_neg hc170, if_pos hc176]
      exact ⟨T6, X6, e6, fun fs hr => pre5 _ (st6 fs (by rw [hv] at hr; exact hr))⟩
    · refine ⟨T0, X0, e0, fun fs hr => ?_⟩
      have hv : (own_f1_167 i0) = (1 : Int32) := by unfold own_f1_167; rw [if_neg hc170, if_neg hc176]
      rw [hv] at hr
      refine pre4 _ ?_
      show Steps p.tables e below (T0.setTop (mkF m 176 #[.val (.int i0)] [(.int (65533 : Int32)), (.int i0)])) _
      refine XS.icmpYes X0.here hx rfl (pc0 := 176) (pc' := 191) rfl (hb hby d1_176) rfl (flt hc176).2.2.2 (by decide) (by decide) ?_
      show Steps p.tables e below (T0.setTop (mkF m 191 #[.val (.int i0)] [])) _
      refine XS.iconst X0.here hx rfl (hb hby d1_191) ?_
      show Steps p.tables e below (T0.setTop (mkF m 192 #[.val (.int i0)] [(.int (1 : Int32))])) _
      refine XS.goto X0.here hx rfl (pc0 := 192) (pc' := 196) rfl (hb hby d1_192) (by decide) (by decide) ?_
      show Steps p.tables e below (T0.setTop (mkF m 196 #[.val (.int i0)] [(.int (1 : Int32))])) _
      exact retN X0 hx (t := .boolean) hret (by simp) (hb hby d1_196) hr
set_option maxRecDepth 65536 in
set_option maxHeartbeats 40000000 in
theorem own_b1_155 {p : Program} {l : Launch} {e : Env} {s : State} {m : MethodId} {args : Array Value} {below : List Frame} {meth : Method} {c : Code} {Z : State} {a0_ : Array Value} (hx : p.tables.exec = Jvm.exec) (hZ : Z.Warmed39 s.vm) (hw : ∀ d ∈ tables_1, d.before a0_ Z = true) (hby : c.code = prog_220_method_5_code) (hml : c.maxLocals = 1) (hown : s.vm.findClass "com/example/saho/saho/text/XmlChars" = some m.cls) (hret : meth.sig.returnType = some .boolean) {T0 : State} {locs : List Loc} {cells slots : Nat} {h0 : Heap} (i0 : Int32)
    (X0 : Stand p l e ({ frames := 0, cells := 0, slots := 0, locals := 0 } : Room) s m args below meth c T0 locs cells slots) (e0 : T0.heap = h0) (hcl : cells ≤ ({ frames := 0, cells := 0, slots := 0, locals := 0 } : Room).cells) (hsl : slots ≤ ({ frames := 0, cells := 0, slots := 0, locals := 0 } : Room).slots)  :
    ∃ T', Stand p l e ({ frames := 0, cells := 0, slots := 0, locals := 0 } : Room) s m args below meth c T' locs cells slots ∧ T'.heap = h0 ∧ ∀ fs, (∀ (f : JFrame) (acts : List Action), f.method = m → f.locked = none → f.entered = [] → (doReturn e (T'.setTop f) acts (some (.int (own_f1_155 i0)))).1 = T'.setFrames fs) → Steps p.tables e below (T0.setTop (mkF m 155 #[.val (.int i0)] [])) (T'.setFrames fs) := by
  have pre1 : ∀ target, Steps p.tables e below (T0.setTop (mkF m 158 #[.val (.int i0)] [(.int (63744 : Int32)), (.int i0)])) target → Steps p.tables e below (T0.setTop (mkF m 155 #[.val (.int i0)] [])) target := by
    intro target kt
    show Steps p.tables e below (T0.setTop (mkF m 155 #[.val (.int i0)] [])) _
    refine XS.iloadN X0.here hx rfl (hb hby d1_155) rfl ?_
    show Steps p.tables e below (T0.setTop (mkF m 156 #[.val (.int i0)] [(.int i0)])) _
    refine X0.ldcInt hx hown (mvT hZ (hw _ (List.mem_of_getElem? (i := 13) rfl))) (g := (mkF m 156 #[.val (.int i0)] [(.int i0)])) rfl (hb hby d1_156) _ ?_
    exact kt
  by_cases hc158 : i0 < (63744 : Int32)
  · have pre2 : ∀ target, Steps p.tables e below (T0.setTop (mkF m 167 #[.val (.int i0)] [])) target → Steps p.tables e below (T0.setTop (mkF m 155 #[.val (.int i0)] [])) target := by
      intro target kt
      refine pre1 target ?_
      show Steps p.tables e below (T0.setTop (mkF m 158 #[.val (.int i0)] [(.int (63744 : Int32)), (.int i0)])) _
      refine XS.icmpYes X0.here hx rfl (pc0 := 158) (pc' := 167) rfl (hb hby d1_158) rfl (tlt hc158).1 (by decide) (by decide) ?_
      exact kt
    obtain ⟨T3, X3, e3, st3⟩ := own_b1_167 hx hZ hw hby hml hown hret i0  X0 e0 hcl hsl  
    have hv : (own_f1_155 i0) = (own_f1_167 i0) := by unfold own_f1_155; rw [if_pos hc158]
    exact ⟨T3, X3, e3, fun fs hr => pre2 _ (st3 fs (by rw [hv] at hr; exact hr))⟩
  · have pre4 : ∀ target, Steps p.tables e below (T0.setTop (mkF m 164 #[.val (.int i0)] [(.int (64975 : Int32)), (.int i0)])) target → Steps p.tables e below (T0.setTop (mkF m 155 #[.val (.int i0)] [])) target := by
      intro target kt
      refine pre1 target ?_
      show Steps p.tables e below (T0.setTop (mkF m 158 #[.val (.int i0)] [(.int (63744 : Int32)), (.int i0)])) _
      refine XS.icmpNo X0.here hx rfl (hb hby d1_158) rfl (flt hc158).1 ?_
      show Steps p.tables e below (T0.setTop (mkF m 161 #[.val (.int i0)] [])) _
      refine XS.iloadN X0.here hx rfl (hb hby d1_161) rfl ?_
      show Steps p.tables e below (T0.setTop (mkF m 162 #[.val (.int i0)] [(.int i0)])) _
      refine X0.ldcInt hx hown (mvT hZ (hw _ (List.mem_of_getElem? (i := 33) rfl))) (g := (mkF m 162 #[.val (.int i0)] [(.int i0)])) rfl (hb hby d1_162) _ ?_
      exact kt
    by_cases hc164 : (64975 : Int32) < i0
    · have pre5 : ∀ target, Steps p.tables e below (T0.setTop (mkF m 167 #[.val (.int i0)] [])) target → Steps p.tables e below (T0.setTop (mkF m 155 #[.val (.int i0)] [])) target := by
        intro target kt
        refine pre4 target ?_
        show Steps p.tables e below (T0.setTop (mkF m 164 #[.val (.int i0)] [(.int (64975 : Int32)), (.int i0)])) _
        refine XS.icmpNo X0.here hx rfl (hb hby d1_164) rfl (tlt hc164).2.2.2 ?_
        exact kt
      obtain ⟨T6, X6, e6, st6⟩ := own_b1_167 hx hZ hw hby hml hown hret i0  X0 e0 hcl hsl  
      have hv : (own_f1_155 i0) = (own_f1_167 i0) := by unfold own_f1_155; rw [if_neg hc158, if_pos hc164]
      exact ⟨T6, X6, e6, fun fs hr => pre5 _ (st6 fs (by rw [hv] at hr; exact hr))⟩
    · refine ⟨T0, X0, e0, fun fs hr => ?_⟩
      have hv : (own_f1_155 i0) = (1 : Int32) := by unfold own_f1_155; rw [if_neg hc158, if_neg hc164]
      rw [hv] at hr
      refine pre4 _ ?_
      show Steps p.tables e below (T0.setTop (mkF m 164 #[.val (.int i0)] [(.int (64975 : Int32)), (.int i0)])) _
      refine XS.icmpYes X0.here hx rfl (pc0 := 164) (pc' := 191) rfl (hb hby d1_164) rfl (flt hc164).2.2.2 (by decide) (by decide) ?_
      show Steps p.tables e below (T0.setTop (mkF m 191 #[.val (.int i0)] [])) _
      refine XS.iconst X0.here hx rfl (hb hby d1_191) ?_
      show Steps p.tables e below (T0.setTop (mkF m 192 #[.val (.int i0)] [(.int (1 : Int32))])) _
      refine XS.goto X0.here hx rfl (pc0 := 192) (pc' := 196) rfl (hb hby d1_192) (by decide) (by decide) ?_
      show Steps p.tables e below (T0.setTop (mkF m 196 #[.val (.int i0)] [(.int (1 : Int32))])) _
      exact retN X0 hx (t := .boolean) hret (by simp) (hb hby d1_196) hr
set_option maxRecDepth 65536 in
set_option maxHeartbeats 40000000 in
theorem own_b1_142 {p : Program} {l : Launch} {e : Env} {s : State} {m : MethodId} {args : Array Value} {below : List Frame} {meth : Method} {c : Code} {Z : State} {a0_ : Array Value} (hx : p.tables.exec = Jvm.exec) (hZ : Z.Warmed39 s.vm) (hw : ∀ d ∈ tables_1, d.before a0_ Z = true) (hby : c.code = prog_220_method_5_code) (hml : c.maxLocals = 1) (hown : s.vm.findClass "com/example/saho/saho/text/XmlChars" = some m.cls) (hret : meth.sig.returnType = some .boolean) {T0 : State} {locs : List Loc} {cells slots : Nat} {h0 : Heap} (i0 : Int32)
    (X0 : Stand p l e ({ frames := 0, cells := 0, slots := 0, locals := 0 } : Room) s m args below meth c T0 locs cells slots) (e0 : T0.heap = h0) (hcl : cells ≤ ({ frames := 0, cells := 0, slots := 0, locals := 0 } : Room).cells) (hsl : slots ≤ ({ frames := 0, cells := 0, slots := 0, locals := 0 } : Room).slots)  :
    ∃ T', Stand p l e ({ frames := 0, cells := 0, slots := 0, locals := 0 } : Room) s m args below meth c T' locs cells slots ∧ T'.heap = h0 ∧ ∀ fs, (∀ (f : JFrame) (acts : List Action), f.method = m → f.locked = none → f.entered = [] → (doReturn e (T'.setTop f) acts (some (.int (own_f1_142 i0)))).1 = T'.setFrames fs) → Steps p.tables e below (T0.setTop (mkF m 142 #[.val (.int i0)] [])) (T'.setFrames fs) := by
  have pre1 : ∀ target, Steps p.tables e below (T0.setTop (mkF m 146 #[.val (.int i0)] [(.int (12289 : Int32)), (.int i0)])) target → Steps p.tables e below (T0.setTop (mkF m 142 #[.val (.int i0)] [])) target := by
    intro target kt
    show Steps p.tables e below (T0.setTop (mkF m 142 #[.val (.int i0)] [])) _
    refine XS.iloadN X0.here hx rfl (hb hby d1_142) rfl ?_
    show Steps p.tables e below (T0.setTop (mkF m 143 #[.val (.int i0)] [(.int i0)])) _
    refine XS.sipush X0.here hx rfl (hb hby d1_143) ?_
    exact kt
  by_cases hc146 : i0 < (12289 : Int32)
  · have pre2 : ∀ target, Steps p.tables e below (T0.setTop (mkF m 155 #[.val (.int i0)] [])) target → Steps p.tables e below (T0.setTop (mkF m 142 #[.val (.int i0)] [])) target := by
      intro target kt
      refine pre1 target ?_
      show Steps p.tables e below (T0.setTop (mkF m 146 #[.val (.int i0)] [(.int (12289 : Int32)), (.int i0)])) _
      refine XS.icmpYes X0.here hx rfl (pc0 := 146) (pc' := 155) rfl (hb hby d1_146) rfl (tlt hc146).1 (by decide) (by decide) ?_
      exact kt
    obtain ⟨T3, X3, e3, st3⟩ := own_b1_155 hx hZ hw hby hml hown hret i0  X0 e0 hcl hsl  
    have hv : (own_f1_142 i0) = (own_f1_155 i0) := by unfold own_f1_142; rw [if_pos hc146]
    exact ⟨T3, X3, e3, fun fs hr => pre2 _ (st3 fs (by rw [hv] at hr; exact hr))⟩
  · have pre4 : ∀ target, Steps p.tables e below (T0.setTop (mkF m 152 #[.val (.int i0)] [(.int (55295 : Int32)), (.int i0)])) target → Steps p.tables e below (T0.setTop (mkF m 142 #[.val (.int i0)] [])) target := by
      intro target kt
      refine pre1 target ?_
      show Steps p.tables e below (T0.setTop (mkF m 146 #[.val (.int i0)] [(.int (12289 : Int32)), (.int i0)])) _
      refine XS.icmpNo X0.here hx rfl (hb hby d1_146) rfl (flt hc146).1 ?_
      show Steps p.tables e below (T0.setTop (mkF m 149 #[.val (.int i0)] [])) _
      refine XS.iloadN X0.here hx rfl (hb hby d1_149) rfl ?_
      show Steps p.tables e below (T0.setTop (mkF m 150 #[.val (.int i0)] [(.int i0)])) _
      refine X0.ldcInt hx hown (mvT hZ (hw _ (List.mem_of_getElem? (i := 32) rfl))) (g := (mkF m 150 #[.val (.int i0)] [(.int i0)])) rfl (hb hby d1_150) _ ?_
      exact kt
    by_cases hc152 : (55295 : Int32) < i0
    · have pre5 : ∀ target, Steps p.tables e below (T0.setTop (mkF m 155 #[.val (.int i0)] [])) target → Steps p.tables e below (T0.setTop (mkF m 142 #[.val (.int i0)] [])) target := by
        intro target kt
        refine pre4 target ?_
        show Steps p.tables e below (T0.setTop (mkF m 152 #[.val (.int i0)] [(.int (55295 : Int32)), (.int i0)])) _
        refine XS.icmpNo X0.here hx rfl (hb hby d1_152) rfl (tlt hc152).2.2.2 ?_
        exact kt
      obtain ⟨T6, X6, e6, st6⟩ := own_b1_155 hx hZ hw hby hml hown hret i0  X0 e0 hcl hsl  
      have hv : (own_f1_142 i0) = (own_f1_155 i0) := by unfold own_f1_142; rw [if_neg hc146, if_pos hc152]
      exact ⟨T6, X6, e6, fun fs hr => pre5 _ (st6 fs (by rw [hv] at hr; exact hr))⟩
    · refine ⟨T0, X0, e0, fun fs hr => ?_⟩
      have hv : (own_f1_142 i0) = (1 : Int32) := by unfold own_f1_142; rw [if_neg hc146, if_neg hc152]
      rw [hv] at hr
      refine pre4 _ ?_
      show Steps p.tables e below (T0.setTop (mkF m 152 #[.val (.int i0)] [(.int (55295 : Int32)), (.int i0)])) _
      refine XS.icmpYes X0.here hx rfl (pc0 := 152) (pc' := 191) rfl (hb hby d1_152) rfl (flt hc152).2.2.2 (by decide) (by decide) ?_
      show Steps p.tables e below (T0.setTop (mkF m 191 #[.val (.int i0)] [])) _
      refine XS.iconst X0.here hx rfl (hb hby d1_191) ?_
      show Steps p.tables e below (T0.setTop (mkF m 192 #[.val (.int i0)] [(.int (1 : Int32))])) _
      refine XS.goto X0.here hx rfl (pc0 := 192) (pc' := 196) rfl (hb hby d1_192) (by decide) (by decide) ?_
      show Steps p.tables e below (T0.setTop (mkF m 196 #[.val (.int i0)] [(.int (1 : Int32))])) _
      exact retN X0 hx (t := .boolean) hret (by simp) (hb hby d1_196) hr
set_option maxRecDepth 65536 in
set_option maxHeartbeats 40000000 in
theorem own_b1_128 {p : Program} {l : Launch} {e : Env} {s : State} {m : MethodId} {args : Array Value} {below : List Frame} {meth : Method} {c : Code} {Z : State} {a0_ : Array Value} (hx : p.tables.exec = Jvm.exec) (hZ : Z.Warmed39 s.vm) (hw : ∀ d ∈ tables_1, d.before a0_ Z = true) (hby : c.code = prog_220_method_5_code) (hml : c.maxLocals = 1) (hown : s.vm.findClass "com/example/saho/saho/text/XmlChars" = some m.cls) (hret : meth.sig.returnType = some .boolean) {T0 : State} {locs : List Loc} {cells slots : Nat} {h0 : Heap} (i0 : Int32)
    (X0 : Stand p l e ({ frames := 0, cells := 0, slots := 0, locals := 0 } : Room) s m args below meth c T0 locs cells slots) (e0 : T0.heap = h0) (hcl : cells ≤ ({ frames := 0, cells := 0, slots := 0, locals := 0 } : Room).cells) (hsl : slots ≤ ({ frames := 0, cells := 0, slots := 0, locals := 0 } : Room).slots)  :
    ∃ T', Stand p l e ({ frames := 0, cells := 0, slots := 0, locals := 0 } : Room) s m args below meth c T' locs cells slots ∧ T'.heap = h0 ∧ ∀ fs, (∀ (f : JFrame) (acts : List Action), f.method = m → f.locked = none → f.entered = [] → (doReturn e (T'.setTop f) acts (some (.int (own_f1_128 i0)))).1 = T'.setFrames fs) → Steps p.tables e below (T0.setTop (mkF m 128 #[.val (.int i0)] [])) (T'.setFrames fs) := by
  have pre1 : ∀ target, Steps p.tables e below (T0.setTop (mkF m 132 #[.val (.int i0)] [(.int (11264 : Int32)), (.int i0)])) target → Steps p.tables e below (T0.setTop (mkF m 128 #[.val (.int i0)] [])) target := by
    intro target kt
    show Steps p.tables e below (T0.setTop (mkF m 128 #[.val (.int i0)] [])) _
    refine XS.iloadN X0.here hx rfl (hb hby d1_128) rfl ?_
    show Steps p.tables e below (T0.setTop (mkF m 129 #[.val (.int i0)] [(.int i0)])) _
    refine XS.sipush X0.here hx rfl (hb hby d1_129) ?_
    exact kt
  by_cases hc132 : i0 < (11264 : Int32)
  · have pre2 : ∀ target, Steps p.tables e below (T0.setTop (mkF m 142 #[.val (.int i0)] [])) target → Steps p.tables e below (T0.setTop (mkF m 128 #[.val (.int i0)] [])) target := by
      intro target kt
      refine pre1 target ?_
      show Steps p.tables e below (T0.setTop (mkF m 132 #[.val (.int i0)] [(.int (11264 : Int32)), (.int i0)])) _
      refine XS.icmpYes X0.here hx rfl (pc0 := 132) (pc' := 142) rfl (hb hby d1_132) rfl (tlt hc132).1 (by decide) (by decide) ?_
      exact kt
    obtain ⟨T3, X3, e3, st3⟩ := own_b1_142 hx hZ hw hby hml hown hret i0  X0 e0 hcl hsl  
    have hv : (own_f1_128 i0) = (own_f1_142 i0) := by unfold own_f1_128; rw [if_pos hc132]
    exact ⟨T3, X3, e3, fun fs hr => pre2 _ (st3 fs (by rw [hv] at hr; exact hr))⟩
  · have pre4 : ∀ target, Steps p.tables e below (T0.setTop (mkF m 139 #[.val (.int i0)] [(.int (12271 : Int32)), (.int i0)])) target → Steps p.tables e below (T0.setTop (mkF m 128 #[.val (.int i0)] [])) target := by
      intro target kt
      refine pre1 target ?_
      show Steps p.tables e below (T0.setTop (mkF m 132 #[.val (.int i0)] [(.int (11264 : Int32)), (.int i0)])) _
      refine XS.icmpNo X0.here hx rfl (hb hby d1_132) rfl (flt hc132).1 ?_
      show Steps p.tables e below (T0.setTop (mkF m 135 #[.val (.int i0)] [])) _
      refine XS.iloadN X0.here hx rfl (hb hby d1_135) rfl ?_
      show Steps p.tables e below (T0.setTop (mkF m 136 #[.val (.int i0)] [(.int i0)])) _
      refine XS.sipush X0.here hx rfl (hb hby d1_136) ?_
      exact kt
    by_cases hc139 : (12271 : Int32) < i0
    · have pre5 : ∀ target, Steps p.tables e below (T0.setTop (mkF m 142 #[.val (.int i0)] [])) target → Steps p.tables e below (T0.setTop (mkF m 128 #[.val (.int i0)] [])) target := by
        intro target kt
        refine pre4 target ?_
        show Steps p.tables e below (T0.setTop (mkF m 139 #[.val (.int i0)] [(.int (12271 : Int32)), (.int i0)])) _
        refine XS.icmpNo X0.here hx rfl (hb hby d1_139) rfl (tlt hc139).2.2.2 ?_
        exact kt
      obtain ⟨T6, X6, e6, st6⟩ := own_b1_142 hx hZ hw hby hml hown hret i0  X0 e0 hcl hsl  
      have hv : (own_f1_128 i0) = (own_f1_142 i0) := by unfold own_f1_128; rw [if_neg hc132, if_pos hc139]
      exact ⟨T6, X6, e6, fun fs hr => pre5 _ (st6 fs (by rw [hv] at hr; exact hr))⟩
    · refine ⟨T0, X0, e0, fun fs hr => ?_⟩
      have hv : (own_f1_128 i0) = (1 : Int32) := by unfold own_f1_128; rw [if_neg hc132, if_neg hc139]
      rw [hv] at hr
      refine pre4 _ ?_
      show Steps p.tables e below (T0.setTop (mkF m 139 #[.val (.int i0)] [(.int (12271 : Int32)), (.int i0)])) _
      refine XS.icmpYes X0.here hx rfl (pc0 := 139) (pc' := 191) rfl (hb hby d1_139) rfl (flt hc139).2.2.2 (by decide) (by decide) ?_
      show Steps p.tables e below (T0.setTop (mkF m 191 #[.val (.int i0)] [])) _
      refine XS.iconst X0.here hx rfl (hb hby d1_191) ?_
      show Steps p.tables e below (T0.setTop (mkF m 192 #[.val (.int i0)] [(.int (1 : Int32))])) _
      refine XS.goto X0.here hx rfl (pc0 := 192) (pc' := 196) rfl (hb hby d1_192) (by decide) (by decide) ?_
      show Steps p.tables e below (T0.setTop (mkF m 196 #[.val (.int i0)] [(.int (1 : Int32))])) _
      exact retN X0 hx (t := .boolean) hret (by simp) (hb hby d1_196) hr
set_option maxRecDepth 65536 in
set_option maxHeartbeats 40000000 in
theorem own_b1_114 {p : Program} {l : Launch} {e : Env} {s : State} {m : MethodId} {args : Array Value} {below : List Frame} {meth : Method} {c : Code} {Z : State} {a0_ : Array Value} (hx : p.tables.exec = Jvm.exec) (hZ : Z.Warmed39 s.vm) (hw : ∀ d ∈ tables_1, d.before a0_ Z = true) (hby : c.code = prog_220_method_5_code) (hml : c.maxLocals = 1) (hown : s.vm.findClass "com/example/saho/saho/text/XmlChars" = some m.cls) (hret : meth.sig.returnType = some .boolean) {T0 : State} {locs : List Loc} {cells slots : Nat} {h0 : Heap} (i0 : Int32)
    (X0 : Stand p l e ({ frames := 0, cells := 0, slots := 0, locals := 0 } : Room) s m args below meth c T0 locs cells slots) (e0 : T0.heap = h0) (hcl : cells ≤ ({ frames := 0, cells := 0, slots := 0, locals := 0 } : Room).cells) (hsl : slots ≤ ({ frames := 0, cells := 0, slots := 0, locals := 0 } : Room).slots)  :
    ∃ T', Stand p l e ({ frames := 0, cells := 0, slots := 0, locals := 0 } : Room) s m args below meth c T' locs cells slots ∧ T'.heap = h0 ∧ ∀ fs, (∀ (f : JFrame) (acts : List Action), f.method = m → f.locked = none → f.entered = [] → (doReturn e (T'.setTop f) acts (some (.int (own_f1_114 i0)))).1 = T'.setFrames fs) → Steps p.tables e below (T0.setTop (mkF m 114 #[.val (.int i0)] [])) (T'.setFrames fs) := by
  have pre1 : ∀ target, Steps p.tables e below (T0.setTop (mkF m 118 #[.val (.int i0)] [(.int (8304 : Int32)), (.int i0)])) target → Steps p.tables e below (T0.setTop (mkF m 114 #[.val (.int i0)] [])) target := by
    intro target kt
    show Steps p.tables e below (T0.setTop (mkF m 114 #[.val (.int i0)] [])) _
    refine XS.iloadN X0.here hx rfl (hb hby d1_114) rfl ?_
    show Steps p.tables e below (T0.setTop (mkF m 115 #[.val (.int i0)] [(.int i0)])) _
    refine XS.sipush X0.here hx rfl (hb hby d1_115) ?_
    exact kt
  by_cases hc118 : i0 < (8304 : Int32)
  · have pre2 : ∀ target, Steps p.tables e below (T0.setTop (mkF m 128 #[.val (.int i0)] [])) target → Steps p.tables e below (T0.setTop (mkF m 114 #[.val (.int i0)] [])) target := by
      intro target kt
      refine pre1 target ?_
      show Steps p.tables e below (T0.setTop (mkF m 118 #[.val (.int i0)] [(.int (8304 : Int32)), (.int i0)])) _
      refine XS.icmpYes X0.here hx rfl (pc0 := 118) (pc' := 128) rfl (hb hby d1_118) rfl (tlt hc118).1 (by decide) (by decide) ?_
      exact kt
    obtain ⟨T3, X3, e3, st3⟩ := own_b1_128 hx hZ hw hby hml hown hret i0  X0 e0 hcl hsl  
    have hv : (own_f1_114 i0) = (own_f1_128 i0) := by unfold own_f1_114; rw [if_pos hc118]
    exact ⟨T3, X3, e3, fun fs hr => pre2 _ (st3 fs (by rw [hv] at hr; exact hr))⟩
  · have pre4 : ∀ target, Steps p.tables e below (T0.setTop (mkF m 125 #[.val (.int i0)] [(.int (8591 : Int32)), (.int i0)])) target → Steps p.tables e below (T0.setTop (mkF m 114 #[.val (.int i0)] [])) target := by
      intro target kt
      refine pre1 target ?_
      show Steps p.tables e below (T0.setTop (mkF m 118 #[.val (.int i0)] [(.int (8304 : Int32)), (.int i0)])) _
      refine XS.icmpNo X0.here hx rfl (hb hby d1_118) rfl (flt hc118).1 ?_
      show Steps p.tables e below (T0.setTop (mkF m 121 #[.val (.int i0)] [])) _
      refine XS.iloadN X0.here hx rfl (hb hby d1_121) rfl ?_
      show Steps p.tables e below (T0.setTop (mkF m 122 #[.val (.int i0)] [(.int i0)])) _
      refine XS.sipush X0.here hx rfl (hb hby d1_122) ?_
      exact kt
    by_cases hc125 : (8591 : Int32) < i0
    · have pre5 : ∀ target, Steps p.tables e below (T0.setTop (mkF m 128 #[.val (.int i0)] [])) target → Steps p.tables e below (T0.setTop (mkF m 114 #[.val (.int i0)] [])) target := by
        intro target kt
        refine pre4 target ?_
        show Steps p.tables e below (T0.setTop (mkF m 125 #[.val (.int i0)] [(.int (8591 : Int32)), (.int i0)])) _
        refine XS.icmpNo X0.here hx rfl (hb hby d1_125) rfl (tlt hc125).2.2.2 ?_
        exact kt
      obtain ⟨T6, X6, e6, st6⟩ := own_b1_128 hx hZ hw hby hml hown hret i0  X0 e0 hcl hsl  
      have hv : (own_f1_114 i0) = (own_f1_128 i0) := by unfold own_f1_114; rw [if_neg hc118, if_pos hc125]
      exact ⟨T6, X6, e6, fun fs hr => pre5 _ (st6 fs (by rw [hv] at hr; exact hr))⟩
    · refine ⟨T0, X0, e0, fun fs hr => ?_⟩
      have hv : (own_f1_114 i0) = (1 : Int32) := by unfold own_f1_114; rw [if_neg hc118, if_neg hc125]
      rw [hv] at hr
      refine pre4 _ ?_
      show Steps p.tables e below (T0.setTop (mkF m 125 #[.val (.int i0)] [(.int (8591 : Int32)), (.int i0)])) _
      refine XS.icmpYes X0.here hx rfl (pc0 := 125) (pc' := 191) rfl (hb hby d1_125) rfl (flt hc125).2.2.2 (by decide) (by decide) ?_
      show Steps p.tables e below (T0.setTop (mkF m 191 #[.val (.int i0)] [])) _
      refine XS.iconst X0.here hx rfl (hb hby d1_191) ?_
      show Steps p.tables e below (T0.setTop (mkF m 192 #[.val (.int i0)] [(.int (1 : Int32))])) _
      refine XS.goto X0.here hx rfl (pc0 := 192) (pc' := 196) rfl (hb hby d1_192) (by decide) (by decide) ?_
      show Steps p.tables e below (T0.setTop (mkF m 196 #[.val (.int i0)] [(.int (1 : Int32))])) _
      exact retN X0 hx (t := .boolean) hret (by simp) (hb hby d1_196) hr
set_option maxRecDepth 65536 in
set_option maxHeartbeats 40000000 in
theorem own_b1_100 {p : Program} {l : Launch} {e : Env} {s : State} {m : MethodId} {args : Array Value} {below : List Frame} {meth : Method} {c : Code} {Z : State} {a0_ : Array Value} (hx : p.tables.exec = Jvm.exec) (hZ : Z.Warmed39 s.vm) (hw : ∀ d ∈ tables_1, d.before a0_ Z = true) (hby : c.code = prog_220_method_5_code) (hml : c.maxLocals = 1) (hown : s.vm.findClass "com/example/saho/saho/text/XmlChars" = some m.cls) (hret : meth.sig.returnType = some .boolean) {T0 : State} {locs : List Loc} {cells slots : Nat} {h0 : Heap} (i0 : Int32)
    (X0 : Stand p l e ({ frames := 0, cells := 0, slots := 0, locals := 0 } : Room) s m args below meth c T0 locs cells slots) (e0 : T0.heap = h0) (hcl : cells ≤ ({ frames := 0, cells := 0, slots := 0, locals := 0 } : Room).cells) (hsl : slots ≤ ({ frames := 0, cells := 0, slots := 0, locals := 0 } : Room).slots)  :
    ∃ T', Stand p l e ({ frames := 0, cells := 0, slots := 0, locals := 0 } : Room) s m args below meth c T' locs cells slots ∧ T'.heap = h0 ∧ ∀ fs, (∀ (f : JFrame) (acts : List Action), f.method = m → f.locked = none → f.entered = [] → (doReturn e (T'.setTop f) acts (some (.int (own_f1_100 i0)))).1 = T'.setFrames fs) → Steps p.tables e below (T0.setTop (mkF m 100 #[.val (.int i0)] [])) (T'.setFrames fs) := by
  have pre1 : ∀ target, Steps p.tables e below (T0.setTop (mkF m 104 #[.val (.int i0)] [(.int (8204 : Int32)), (.int i0)])) target → Steps p.tables e below (T0.setTop (mkF m 100 #[.val (.int i0)] [])) target := by
    intro target kt
    show Steps p.tables e below (T0.setTop (mkF m 100 #[.val (.int i0)] [])) _
    refine XS.iloadN X0.here hx rfl (hb hby d1_100) rfl ?_
    show Steps p.tables e below (T0.setTop (mkF m 101 #[.val (.int i0)] [(.int i0)])) _
    refine XS.sipush X0.here hx rfl (hb hby d1_101) ?_
    exact kt
  by_cases hc104 : i0 < (8204 : Int32)
  · have pre2 : ∀ target, Steps p.tables e below (T0.setTop (mkF m 114 #[.val (.int i0)] [])) target → Steps p.tables e below (T0.setTop (mkF m 100 #[.val (.int i0)] [])) target := by
      intro target kt
      refine pre1 target ?_
      show Steps p.tables e below (T0.setTop (mkF m 104 #[.val (.int i0)] [(.int (8204 : Int32)), (.int i0)])) _
      refine XS.icmpYes X0.here hx rfl (pc0 := 104) (pc' := 114) rfl (hb hby d1_104) rfl (tlt hc104).1 (by decide) (by decide) ?_
      exact kt
    obtain ⟨T3, X3, e3, st3⟩ := own_b1_114 hx hZ hw hby hml hown hret i0  X0 e0 hcl hsl  
    have hv : (own_f1_100 i0) = (own_f1_114 i0) := by unfold own_f1_100; rw [if_pos hc104]
    exact ⟨T3, X3, e3, fun fs hr => pre2 _ (st3 fs (by rw [hv] at hr; exact hr))⟩
  · have pre4 : ∀ target, Steps p.tables e below (T0.setTop (mkF m 111 #[.val (.int i0)] [(.int (8205 : Int32)), (.int i0)])) target → Steps p.tables e below (T0.setTop (mkF m 100 #[.val (.int i0)] [])) target := by
      intro target kt
      refine pre1 target ?_
      show Steps p.tables e below (T0.setTop (mkF m 104 #[.val (.int i0)] [(.int (8204 : Int32)), (.int i0)])) _
      refine XS.icmpNo X0.here hx rfl (hb hby d1_104) rfl (flt hc104).1 ?_
      show Steps p.tables e below (T0.setTop (mkF m 107 #[.val (.int i0)] [])) _
      refine XS.iloadN X0.here hx rfl (hb hby d1_107) rfl ?_
      show Steps p.tables e below (T0.setTop (mkF m 108 #[.val (.int i0)] [(.int i0)])) _
      refine XS.sipush X0.here hx rfl (hb hby d1_108) ?_
      exact kt
    by_cases hc111 : (8205 : Int32) < i0
    · have pre5 : ∀ target, Steps p.tables e below (T0.setTop (mkF m 114 #[.val (.int i0)] [])) target → Steps p.tables e below (T0.setTop (mkF m 100 #[.val (.int i0)] [])) target := by
        intro target kt
        refine pre4 target ?_
        show Steps p.tables e below (T0.setTop (mkF m 111 #[.val (.int i0)] [(.int (8205 : Int32)), (.int i0)])) _
        refine XS.icmpNo X0.here hx rfl (hb hby d1_111) rfl (tlt hc111).2.2.2 ?_
        exact kt
      obtain ⟨T6, X6, e6, st6⟩ := own_b1_114 hx hZ hw hby hml hown hret i0  X0 e0 hcl hsl  
      have hv : (own_f1_100 i0) = (own_f1_114 i0) := by unfold own_f1_100; rw [if_neg hc104, if_pos hc111]
      exact ⟨T6, X6, e6, fun fs hr => pre5 _ (st6 fs (by rw [hv] at hr; exact hr))⟩
    · refine ⟨T0, X0, e0, fun fs hr => ?_⟩
      have hv : (own_f1_100 i0) = (1 : Int32) := by unfold own_f1_100; rw [if_neg hc104, if_neg hc111]
      rw [hv] at hr
      refine pre4 _ ?_
      show Steps p.tables e below (T0.setTop (mkF m 111 #[.val (.int i0)] [(.int (8205 : Int32)), (.int i0)])) _
      refine XS.icmpYes X0.here hx rfl (pc0 := 111) (pc' := 191) rfl (hb hby d1_111) rfl (flt hc111).2.2.2 (by decide) (by decide) ?_
      show Steps p.tables e below (T0.setTop (mkF m 191 #[.val (.int i0)] [])) _
      refine XS.iconst X0.here hx rfl (hb hby d1_191) ?_
      show Steps p.tables e below (T0.setTop (mkF m 192 #[.val (.int i0)] [(.int (1 : Int32))])) _
      refine XS.goto X0.here hx rfl (pc0 := 192) (pc' := 196) rfl (hb hby d1_192) (by decide) (by decide) ?_
      show Steps p.tables e below (T0.setTop (mkF m 196 #[.val (.int i0)] [(.int (1 : Int32))])) _
      exact retN X0 hx (t := .boolean) hret (by simp) (hb hby d1_196) hr
set_option maxRecDepth 65536 in
set_option maxHeartbeats 40000000 in
theorem own_b1_86 {p : Program} {l : Launch} {e : Env} {s : State} {m : MethodId} {args : Array Value} {below : List Frame} {meth : Method} {c : Code} {Z : State} {a0_ : Array Value} (hx : p.tables.exec = Jvm.exec) (hZ : Z.Warmed39 s.vm) (hw : ∀ d ∈ tables_1, d.before a0_ Z = true) (hby : c.code = prog_220_method_5_code) (hml : c.maxLocals = 1) (hown : s.vm.findClass "com/example/saho/saho/text/XmlChars" = some m.cls) (hret : meth.sig.returnType = some .boolean) {T0 : State} {locs : List Loc} {cells slots : Nat} {h0 : Heap} (i0 : Int32)
    (X0 : Stand p l e ({ frames := 0, cells := 0, slots := 0, locals := 0 } : Room) s m args below meth c T0 locs cells slots) (e0 : T0.heap = h0) (hcl : cells ≤ ({ frames := 0, cells := 0, slots := 0, locals := 0 } : Room).cells) (hsl : slots ≤ ({ frames := 0, cells := 0, slots := 0, locals := 0 } : Room).slots)  :
    ∃ T', Stand p l e ({ frames := 0, cells := 0, slots := 0, locals := 0 } : Room) s m args below meth c T' locs cells slots ∧ T'.heap = h0 ∧ ∀ fs, (∀ (f : JFrame) (acts : List Action), f.method = m → f.locked = none → f.entered = [] → (doReturn e (T'.setTop f) acts (some (.int (own_f1_86 i0)))).1 = T'.setFrames fs) → Steps p.tables e below (T0.setTop (mkF m 86 #[.val (.int i0)] [])) (T'.setFrames fs) := by
  have pre1 : ∀ target, Steps p.tables e below (T0.setTop (mkF m 90 #[.val (.int i0)] [(.int (895 : Int32)), (.int i0)])) target → Steps p.tables e below (T0.setTop (mkF m 86 #[.val (.int i0)] [])) target := by
    intro target kt
    show Steps p.tables e below (T0.setTop (mkF m 86 #[.val (.int i0)] [])) _
    refine XS.iloadN X0.here hx rfl (hb hby d1_86) rfl ?_
    show Steps p.tables e below (T0.setTop (mkF m 87 #[.val (.int i0)] [(.int i0)])) _
    refine XS.sipush X0.here hx rfl (hb hby d1_87) ?_
    exact kt
  by_cases hc90 : i0 < (895 : Int32)
  · have pre2 : ∀ target, Steps p.tables e below (T0.setTop (mkF m 100 #[.val (.int i0)] [])) target → Steps p.tables e below (T0.setTop (mkF m 86 #[.val (.int i0)] [])) target := by
      intro target kt
      refine pre1 target ?_
      show Steps p.tables e below (T0.setTop (mkF m 90 #[.val (.int i0)] [(.int (895 : Int32)), (.int i0)])) _
      refine XS.icmpYes X0.here hx rfl (pc0 := 90) (pc' := 100) rfl (hb hby d1_90) rfl (tlt hc90).1 (by decide) (by decide) ?_
      exact kt
    obtain ⟨T3, X3, e3, st3⟩ := own_b1_100 hx hZ hw hby hml hown hret i0  X0 e0 hcl hsl  
    have hv : (own_f1_86 i0) = (own_f1_100 i0) := by unfold own_f1_86; rw [if_pos hc90]
    exact ⟨T3, X3, e3, fun fs hr => pre2 _ (st3 fs (by rw [hv] at hr; exact hr))⟩
  · have pre4 : ∀ target, Steps p.tables e below (T0.setTop (mkF m 97 #[.val (.int i0)] [(.int (8191 : Int32)), (.int i0)])) target → Steps p.tables e below (T0.setTop (mkF m 86 #[.val (.int i0)] [])) target := by
      intro target kt
      refine pre1 target ?_
      show Steps p.tables e below (T0.setTop (mkF m 90 #[.val (.int i0)] [(.int (895 : Int32)), (.int i0)])) _
      refine XS.icmpNo X0.here hx rfl (hb hby d1_90) rfl (flt hc90).1 ?_
      show Steps p.tables e below (T0.setTop (mkF m 93 #[.val (.int i0)] [])) _
      refine XS.iloadN X0.here hx rfl (hb hby d1_93) rfl ?_
      show Steps p.tables e below (T0.setTop (mkF m 94 #[.val (.int i0)] [(.int i0)])) _
      refine XS.sipush X0.here hx rfl (hb hby d1_94) ?_
      exact kt
    by_cases hc97 : (8191 : Int32) < i0
    · have pre5 : ∀ target, Steps p.tables e below (T0.setTop (mkF m 100 #[.val (.int i0)] [])) target → Steps p.tables e below (T0.setTop (mkF m 86 #[.val (.int i0)] [])) target := by
        intro target kt
        refine pre4 target ?_
        show Steps p.tables e below (T0.setTop (mkF m 97 #[.val (.int i0)] [(.int (8191 : Int32)), (.int i0)])) _
        refine XS.icmpNo X0.here hx rfl (hb hby d1_97) rfl (tlt hc97).2.2.2 ?_
        exact kt
      obtain ⟨T6, X6, e6, st6⟩ := own_b1_100 hx hZ hw hby hml hown hret i0  X0 e0 hcl hsl  
      have hv : (own_f1_86 i0) = (own_f1_100 i0) := by unfold own_f1_86; rw [if_neg hc90, if_pos hc97]
      exact ⟨T6, X6, e6, fun fs hr => pre5 _ (st6 fs (by rw [hv] at hr; exact hr))⟩
    · refine ⟨T0, X0, e0, fun fs hr => ?_⟩
      have hv : (own_f1_86 i0) = (1 : Int32) := by unfold own_f1_86; rw [if_neg hc90, if_neg hc97]
      rw [hv] at hr
      refine pre4 _ ?_
      show Steps p.tables e below (T0.setTop (mkF m 97 #[.val (.int i0)] [(.int (8191 : Int32)), (.int i0)])) _
      refine XS.icmpYes X0.here hx rfl (pc0 := 97) (pc' := 191) rfl (hb hby d1_97) rfl (flt hc97).2.2.2 (by decide) (by decide) ?_
      show Steps p.tables e below (T0.setTop (mkF m 191 #[.val (.int i0)] [])) _
      refine XS.iconst X0.here hx rfl (hb hby d1_191) ?_
      show Steps p.tables e below (T0.setTop (mkF m 192 #[.val (.int i0)] [(.int (1 : Int32))])) _
      refine XS.goto X0.here hx rfl (pc0 := 192) (pc' := 196) rfl (hb hby d1_192) (by decide) (by decide) ?_
      show Steps p.tables e below (T0.setTop (mkF m 196 #[.val (.int i0)] [(.int (1 : Int32))])) _
      exact retN X0 hx (t := .boolean) hret (by simp) (hb hby d1_196) hr
set_option maxRecDepth 65536 in
set_option maxHeartbeats 40000000 in
theorem own_b1_72 {p : Program} {l : Launch} {e : Env} {s : State} {m : MethodId} {args : Array Value} {below : List Frame} {meth : Method} {c : Code} {Z : State} {a0_ : Array Value} (hx : p.tables.exec = Jvm.exec) (hZ : Z.Warmed39 s.vm) (hw : ∀ d ∈ tables_1, d.before a0_ Z = true) (hby : c.code = prog_220_method_5_code) (hml : c.maxLocals = 1) (hown : s.vm.findClass "com/example/saho/saho/text/XmlChars" = some m.cls) (hret : meth.sig.returnType = some .boolean) {T0 : State} {locs : List Loc} {cells slots : Nat} {h0 : Heap} (i0 : Int32)
    (X0 : Stand p l e ({ frames := 0, cells := 0, slots := 0, locals := 0 } : Room) s m args below meth c T0 locs cells slots) (e0 : T0.heap = h0) (hcl : cells ≤ ({ frames := 0, cells := 0, slots := 0, locals := 0 } : Room).cells) (hsl : slots ≤ ({ frames := 0, cells := 0, slots := 0, locals := 0 } : Room).slots)  :
    ∃ T', Stand p l e ({ frames := 0, cells := 0, slots := 0, locals := 0 } : Room) s m args below meth c T' locs cells slots ∧ T'.heap = h0 ∧ ∀ fs, (∀ (f : JFrame) (acts : List Action), f.method = m → f.locked = none → f.entered = [] → (doReturn e (T'.setTop f) acts (some (.int (own_f1_72 i0)))).1 = T'.setFrames fs) → Steps p.tables e below (T0.setTop (mkF m 72 #[.val (.int i0)] [])) (T'.setFrames fs) := by
  have pre1 : ∀ target, Steps p.tables e below (T0.setTop (mkF m 76 #[.val (.int i0)] [(.int (880 : Int32)), (.int i0)])) target → Steps p.tables e below (T0.setTop (mkF m 72 #[.val (.int i0)] [])) target := by
    intro target kt
    show Steps p.tables e below (T0.setTop (mkF m 72 #[.val (.int i0)] [])) _
    refine XS.iloadN X0.here hx rfl (hb hby d1_72) rfl ?_
    show Steps p.tables e below (T0.setTop (mkF m 73 #[.val (.int i0)] [(.int i0)])) _
    refine XS.sipush X0.here hx rfl (hb hby d1_73) ?_
    exact kt
  by_cases hc76 : i0 < (880 : Int32)
  · have pre2 : ∀ target, Steps p.tables e below (T0.setTop (mkF m 86 #[.val (.int i0)] [])) target → Steps p.tables e below (T0.setTop (mkF m 72 #[.val (.int i0)] [])) target := by
      intro target kt
      refine pre1 target ?_
      show Steps p.tables e below (T0.setTop (mkF m 76 #[.val (.int i0)] [(.int (880 : Int32)), (.int i0)])) _
      refine XS.icmpYes X0.here hx rfl (pc0 := 76) (pc' := 86) rfl (hb hby d1_76) rfl (tlt hc76).1 (by decide) (by decide) ?_
      exact kt
    obtain ⟨T3, X3, e3, st3⟩ := own_b1_86 hx hZ hw hby hml hown hret i0  X0 e0 hcl hsl  
    have hv : (own_f1_72 i0) = (own_f1_86 i0) := by unfold own_f1_72; rw [if_pos hc76]
    exact ⟨T3, X3, e3, fun fs hr => pre2 _ (st3 fs (by rw [hv] at hr; exact hr))⟩
  · have pre4 : ∀ target, Steps p.tables e below (T0.setTop (mkF m 83 #[.val (.int i0)] [(.int (893 : Int32)), (.int i0)])) target → Steps p.tables e below (T0.setTop (mkF m 72 #[.val (.int i0)] [])) target := by
      intro target kt
      refine pre1 target ?_
      show Steps p.tables e below (T0.setTop (mkF m 76 #[.val (.int i0)] [(.int (880 : Int32)), (.int i0)])) _
      refine XS.icmpNo X0.here hx rfl (hb hby d1_76) rfl (flt hc76).1 ?_
      show Steps p.tables e below (T0.setTop (mkF m 79 #[.val (.int i0)] [])) _
      refine XS.iloadN X0.here hx rfl (hb hby d1_79) rfl ?_
      show Steps p.tables e below (T0.setTop (mkF m 80 #[.val (.int i0)] [(.int i0)])) _
      refine XS.sipush X0.here hx rfl (hb hby d1_80) ?_
      exact kt
    by_cases hc83 : (893 : Int32) < i0
    · have pre5 : ∀ target, Steps p.tables e below (T0.setTop (mkF m 86 #[.val (.int i0)] [])) target → Steps p.tables e below (T0.setTop (mkF m 72 #[.val (.int i0)] [])) target := by
        intro target kt
        refine pre4 target ?_
        show Steps p.tables e below (T0.setTop (mkF m 83 #[.val (.int i0)] [(.int (893 : Int32)), (.int i0)])) _
        refine XS.icmpNo X0.here hx rfl (hb hby d1_83) rfl (tlt hc83).2.2.2 ?_
        exact kt
      obtain ⟨T6, X6, e6, st6⟩ := own_b1_86 hx hZ hw hby hml hown hret i0  X0 e0 hcl hsl  
      have hv : (own_f1_72 i0) = (own_f1_86 i0) := by unfold own_f1_72; rw [if_neg hc76, if_pos hc83]
      exact ⟨T6, X6, e6, fun fs hr => pre5 _ (st6 fs (by rw [hv] at hr; exact hr))⟩
    · refine ⟨T0, X0, e0, fun fs hr => ?_⟩
      have hv : (own_f1_72 i0) = (1 : Int32) := by unfold own_f1_72; rw [if_neg hc76, if_neg hc83]
      rw [hv] at hr
      refine pre4 _ ?_
      show Steps p.tables e below (T0.setTop (mkF m 83 #[.val (.int i0)] [(.int (893 : Int32)), (.int i0)])) _
      refine XS.icmpYes X0.here hx rfl (pc0 := 83) (pc' := 191) rfl (hb hby d1_83) rfl (flt hc83).2.2.2 (by decide) (by decide) ?_
      show Steps p.tables e below (T0.setTop (mkF m 191 #[.val (.int i0)] [])) _
      refine XS.iconst X0.here hx rfl (hb hby d1_191) ?_
      show Steps p.tables e below (T0.setTop (mkF m 192 #[.val (.int i0)] [(.int (1 : Int32))])) _
      refine XS.goto X0.here hx rfl (pc0 := 192) (pc' := 196) rfl (hb hby d1_192) (by decide) (by decide) ?_
      show Steps p.tables e below (T0.setTop (mkF m 196 #[.val (.int i0)] [(.int (1 : Int32))])) _
      exact retN X0 hx (t := .boolean) hret (by simp) (hb hby d1_196) hr
set_option maxRecDepth 65536 in
set_option maxHeartbeats 40000000 in
theorem own_b1_58 {p : Program} {l : Launch} {e : Env} {s : State} {m : MethodId} {args : Array Value} {below : List Frame} {meth : Method} {c : Code} {Z : State} {a0_ : Array Value} (hx : p.tables.exec = Jvm.exec) (hZ : Z.Warmed39 s.vm) (hw : ∀ d ∈ tables_1, d.before a0_ Z = true) (hby : c.code = prog_220_method_5_code) (hml : c.maxLocals = 1) (hown : s.vm.findClass "com/example/saho/saho/text/XmlChars" = some m.cls) (hret : meth.sig.returnType = some .boolean) {T0 : State} {locs : List Loc} {cells slots : Nat} {h0 : Heap} (i0 : Int32)
    (X0 : Stand p l e ({ frames := 0, cells := 0, slots := 0, locals := 0 } : Room) s m args below meth c T0 locs cells slots) (e0 : T0.heap = h0) (hcl : cells ≤ ({ frames := 0, cells := 0, slots := 0, locals := 0 } : Room).cells) (hsl : slots ≤ ({ frames := 0, cells := 0, slots := 0, locals := 0 } : Room).slots)  :
    ∃ T', Stand p l e ({ frames := 0, cells := 0, slots := 0, locals := 0 } : Room) s m args below meth c T' locs cells slots ∧ T'.heap = h0 ∧ ∀ fs, (∀ (f : JFrame) (acts : List Action), f.method = m → f.locked = none → f.entered = [] → (doReturn e (T'.setTop f) acts (some (.int (own_f1_58 i0)))).1 = T'.setFrames fs) → Steps p.tables e below (T0.setTop (mkF m 58 #[.val (.int i0)] [])) (T'.setFrames fs) := by
  have pre1 : ∀ target, Steps p.tables e below (T0.setTop (mkF m 62 #[.val (.int i0)] [(.int (248 : Int32)), (.int i0)])) target → Steps p.tables e below (T0.setTop (mkF m 58 #[.val (.int i0)] [])) target := by
    intro target kt
    show Steps p.tables e below (T0.setTop (mkF m 58 #[.val (.int i0)] [])) _
    refine XS.iloadN X0.here hx rfl (hb hby d1_58) rfl ?_
    show Steps p.tables e below (T0.setTop (mkF m 59 #[.val (.int i0)] [(.int i0)])) _
    refine XS.sipush X0.here hx rfl (hb hby d1_59) ?_
    exact kt
  by_cases hc62 : i0 < (248 : Int32)
  · have pre2 : ∀ target, Steps p.tables e below (T0.setTop (mkF m 72 #[.val (.int i0)] [])) target → Steps p.tables e below (T0.setTop (mkF m 58 #[.val (.int i0)] [])) target := by
      intro target kt
      refine pre1 target ?_
      show Steps p.tables e below (T0.setTop (mkF m 62 #[.val (.int i0)] [(.int (248 : Int32)), (.int i0)])) _
      refine XS.icmpYes X0.here hx rfl (pc0 := 62) (pc' := 72) rfl (hb hby d1_62) rfl (tlt hc62).1 (by decide) (by decide) ?_
      exact kt
    obtain ⟨T3, X3, e3, st3⟩ := own_b1_72 hx hZ hw hby hml hown hret i0  X0 e0 hcl hsl  
    have hv : (own_f1_58 i0) = (own_f1_72 i0) := by unfold own_f1_58; rw [if_pos hc62]
    exact ⟨T3, X3, e3, fun fs hr => pre2 _ (st3 fs (by rw [hv] at hr; exact hr))⟩
  · have pre4 : ∀ target, Steps p.tables e below (T0.setTop (mkF m 69 #[.val (.int i0)] [(.int (767 : Int32)), (.int i0)])) target → Steps p.tables e below (T0.setTop (mkF m 58 #[.val (.int i0)] [])) target := by
      intro target kt
      refine pre1 target ?_
      show Steps p.tables e below (T0.setTop (mkF m 62 #[.val (.int i0)] [(.int (248 : Int32)), (.int i0)])) _
      refine XS.icmpNo X0.here hx rfl (hb hby d1_62) rfl (flt hc62).1 ?_
      show Steps p.tables e below (T0.setTop (mkF m 65 #[.val (.int i0)] [])) _
      refine XS.iloadN X0.here hx rfl (hb hby d1_65) rfl ?_
      show Steps p.tables e below (T0.setTop (mkF m 66 #[.val (.int i0)] [(.int i0)])) _
      refine XS.sipush X0.here hx rfl (hb hby d1_66) ?_
      exact kt
    by_cases hc69 : (767 : Int32) < i0
    · have pre5 : ∀ target, Steps p.tables e below (T0.setTop (mkF m 72 #[.val (.int i0)] [])) target → Steps p.tables e below (T0.setTop (mkF m 58 #[.val (.int i0)] [])) target := by
        intro target kt
        refine pre4 target ?_
        show Steps p.tables e below (T0.setTop (mkF m 69 #[.val (.int i0)] [(.int (767 : Int32)), (.int i0)])) _
        refine XS.icmpNo X0.here hx rfl (hb hby d1_69) rfl (tlt hc69).2.2.2 ?_
        exact kt
      obtain ⟨T6, X6, e6, st6⟩ := own_b1_72 hx hZ hw hby hml hown hret i0  X0 e0 hcl hsl  
      have hv : (own_f1_58 i0) = (own_f1_72 i0) := by unfold own_f1_58; rw [if_neg hc62, if_pos hc69]
      exact ⟨T6, X6, e6, fun fs hr => pre5 _ (st6 fs (by rw [hv] at hr; exact hr))⟩
    · refine ⟨T0, X0, e0, fun fs hr => ?_⟩
      have hv : (own_f1_58 i0) = (1 : Int32) := by unfold own_f1_58; rw [if_neg hc62, if_neg hc69]
      rw [hv] at hr
      refine pre4 _ ?_
      show Steps p.tables e below (T0.setTop (mkF m 69 #[.val (.int i0)] [(.int (767 : Int32)), (.int i0)])) _
      refine XS.icmpYes X0.here hx rfl (pc0 := 69) (pc' := 191) rfl (hb hby d1_69) rfl (flt hc69).2.2.2 (by decide) (by decide) ?_
      show Steps p.tables e below (T0.setTop (mkF m 191 #[.val (.int i0)] [])) _
      refine XS.iconst X0.here hx rfl (hb hby d1_191) ?_
      show Steps p.tables e below (T0.setTop (mkF m 192 #[.val (.int i0)] [(.int (1 : Int32))])) _
      refine XS.goto X0.here hx rfl (pc0 := 192) (pc' := 196) rfl (hb hby d1_192) (by decide) (by decide) ?_
      show Steps p.tables e below (T0.setTop (mkF m 196 #[.val (.int i0)] [(.int (1 : Int32))])) _
      exact retN X0 hx (t := .boolean) hret (by simp) (hb hby d1_196) hr
set_option maxRecDepth 65536 in
set_option maxHeartbeats 40000000 in
theorem own_b1_44 {p : Program} {l : Launch} {e : Env} {s : State} {m : MethodId} {args : Array Value} {below : List Frame} {meth : Method} {c : Code} {Z : State} {a0_ : Array Value} (hx : p.tables.exec = Jvm.exec) (hZ : Z.Warmed39 s.vm) (hw : ∀ d ∈ tables_1, d.before a0_ Z = true) (hby : c.code = prog_220_method_5_code) (hml : c.maxLocals = 1) (hown : s.vm.findClass "com/example/saho/saho/text/XmlChars" = some m.cls) (hret : meth.sig.returnType = some .boolean) {T0 : State} {locs : List Loc} {cells slots : Nat} {h0 : Heap} (i0 : Int32)
    (X0 : Stand p l e ({ frames := 0, cells := 0, slots := 0, locals := 0 } : Room) s m args below meth c T0 locs cells slots) (e0 : T0.heap = h0) (hcl : cells ≤ ({ frames := 0, cells := 0, slots := 0, locals := 0 } : Room).cells) (hsl : slots ≤ ({ frames := 0, cells := 0, slots := 0, locals := 0 } : Room).slots)  :
    ∃ T', Stand p l e ({ frames := 0, cells := 0, slots := 0, locals := 0 } : Room) s m args below meth c T' locs cells slots ∧ T'.heap = h0 ∧ ∀ fs, (∀ (f : JFrame) (acts : List Action), f.method = m → f.locked = none → f.entered = [] → (doReturn e (T'.setTop f) acts (some (.int (own_f1_44 i0)))).1 = T'.setFrames fs) → Steps p.tables e below (T0.setTop (mkF m 44 #[.val (.int i0)] [])) (T'.setFrames fs) := by
  have pre1 : ∀ target, Steps p.tables e below (T0.setTop (mkF m 48 #[.val (.int i0)] [(.int (216 : Int32)), (.int i0)])) target → Steps p.tables e below (T0.setTop (mkF m 44 #[.val (.int i0)] [])) target := by
    intro target kt
    show Steps p.tables e below (T0.setTop (mkF m 44 #[.val (.int i0)] [])) _
    refine XS.iloadN X0.here hx rfl (hb hby d1_44) rfl ?_
    show Steps p.tables e below (T0.setTop (mkF m 45 #[.val (.int i0)] [(.int i0)])) _
    refine XS.sipush X0.here hx rfl (hb hby d1_45) ?_
    exact kt
  by_cases hc48 : i0 < (216 : Int32)
  · have pre2 : ∀ target, Steps p.tables e below (T0.setTop (mkF m 58 #[.val (.int i0)] [])) target → Steps p.tables e below (T0.setTop (mkF m 44 #[.val (.int i0)] [])) target := by
      intro target kt
      refine pre1 target ?_
      show Steps p.tables e below (T0.setTop (mkF m 48 #[.val (.int i0)] [(.int (216 : Int32)), (.int i0)])) _
      refine XS.icmpYes X0.here hx rfl (pc0 := 48) (pc' := 58) rfl (hb hby d1_48) rfl (tlt hc48).1 (by decide) (by decide) ?_
      exact kt
    obtain ⟨T3, X3, e3, st3⟩ := own_b1_58 hx hZ hw hby hml hown hret i0  X0 e0 hcl hsl  
    have hv : (own_f1_44 i0) = (own_f1_58 i0) := by unfold own_f1_44; rw [if_pos hc48]
    exact ⟨T3, X3, e3, fun fs hr => pre2 _ (st3 fs (by rw [hv] at hr; exact hr))⟩
  · have pre4 : ∀ target, Steps p.tables e below (T0.setTop (mkF m 55 #[.val (.int i0)] [(.int (246 : Int32)), (.int i0)])) target → Steps p.tables e below (T0.setTop (mkF m 44 #[.val (.int i0)] [])) target := by
      intro target kt
      refine pre1 target ?_
      show Steps p.tables e below (T0.setTop (mkF m 48 #[.val (.int i0)] [(.int (216 : Int32)), (.int i0)])) _
      refine XS.icmpNo X0.here hx rfl (hb hby d1_48) rfl (flt hc48).1 ?_
      show Steps p.tables e below (T0.setTop (mkF m 51 #[.val (.int i0)] [])) _
      refine XS.iloadN X0.here hx rfl (hb hby d1_51) rfl ?_
      show Steps p.tables e below (T0.setTop (mkF m 52 #[.val (.int i0)] [(.int i0)])) _
      refine XS.sipush X0.here hx rfl (hb hby d1_52) ?_
      exact kt
    by_cases hc55 : (246 : Int32) < i0
    · have pre5 : ∀ target, Steps p.tables e below (T0.setTop (mkF m 58 #[.val (.int i0)] [])) target → Steps p.tables e below (T0.setTop (mkF m 44 #[.val (.int i0)] [])) target := by
        intro target kt
        refine pre4 target ?_
        show Steps p.tables e below (T0.setTop (mkF m 55 #[.val (.int i0)] [(.int (246 : Int32)), (.int i0)])) _
        refine XS.icmpNo X0.here hx rfl (hb hby d1_55) rfl (tlt hc55).2.2.2 ?_
        exact kt
      obtain ⟨T6, X6, e6, st6⟩ := own_b1_58 hx hZ hw hby hml hown hret i0  X0 e0 hcl hsl  
      have hv : (own_f1_44 i0) = (own_f1_58 i0) := by unfold own_f1_44; rw [if_neg hc48, if_pos hc55]
      exact ⟨T6, X6, e6, fun fs hr => pre5 _ (st6 fs (by rw [hv] at hr; exact hr))⟩
    · refine ⟨T0, X0, e0, fun fs hr => ?_⟩
      have hv : (own_f1_44 i0) = (1 : Int32) := by unfold own_f1_44; rw [if_neg hc48, if_neg hc55]
      rw [hv] at hr
      refine pre4 _ ?_
      show Steps p.tables e below (T0.setTop (mkF m 55 #[.val (.int i0)] [(.int (246 : Int32)), (.int i0)])) _
      refine XS.icmpYes X0.here hx rfl (pc0 := 55) (pc' := 191) rfl (hb hby d1_55) rfl (flt hc55).2.2.2 (by decide) (by decide) ?_
      show Steps p.tables e below (T0.setTop (mkF m 191 #[.val (.int i0)] [])) _
      refine XS.iconst X0.here hx rfl (hb hby d1_191) ?_
      show Steps p.tables e below (T0.setTop (mkF m 192 #[.val (.int i0)] [(.int (1 : Int32))])) _
      refine XS.goto X0.here hx rfl (pc0 := 192) (pc' := 196) rfl (hb hby d1_192) (by decide) (by decide) ?_
      show Steps p.tables e below (T0.setTop (mkF m 196 #[.val (.int i0)] [(.int (1 : Int32))])) _
      exact retN X0 hx (t := .boolean) hret (by simp) (hb hby d1_196) hr
set_option maxRecDepth 65536 in
set_option maxHeartbeats 40000000 in
theorem own_b1_24 {p : Program} {l : Launch} {e : Env} {s : State} {m : MethodId} {args : Array Value} {below : List Frame} {meth : Method} {c : Code} {Z : State} {a0_ : Array Value} (hx : p.tables.exec = Jvm.exec) (hZ : Z.Warmed39 s.vm) (hw : ∀ d ∈ tables_1, d.before a0_ Z = true) (hby : c.code = prog_220_method_5_code) (hml : c.maxLocals = 1) (hown : s.vm.findClass "com/example/saho/saho/text/XmlChars" = some m.cls) (hret : meth.sig.returnType = some .boolean) {T0 : State} {locs : List Loc} {cells slots : Nat} {h0 : Heap} (i0 : Int32)
    (X0 : Stand p l e ({ frames := 0, cells := 0, slots := 0, locals := 0 } : Room) s m args below meth c T0 locs cells slots) (e0 : T0.heap = h0) (hcl : cells ≤ ({ frames := 0, cells := 0, slots := 0, locals := 0 } : Room).cells) (hsl : slots ≤ ({ frames := 0, cells := 0, slots := 0, locals := 0 } : Room).slots)  :
    ∃ T', Stand p l e ({ frames := 0, cells := 0, slots := 0, locals := 0 } : Room) s m args below meth c T' locs cells slots ∧ T'.heap = h0 ∧ ∀ fs, (∀ (f : JFrame) (acts : List Action), f.method = m → f.locked = none → f.entered = [] → (doReturn e (T'.setTop f) acts (some (.int (own_f1_24 i0)))).1 = T'.setFrames fs) → Steps p.tables e below (T0.setTop (mkF m 24 #[.val (.int i0)] [])) (T'.setFrames fs) := by
  have pre1 : ∀ target, Steps p.tables e below (T0.setTop (mkF m 27 #[.val (.int i0)] [(.int (95 : Int32)), (.int i0)])) target → Steps p.tables e below (T0.setTop (mkF m 24 #[.val (.int i0)] [])) target := by
    intro target kt
    show Steps p.tables e below (T0.setTop (mkF m 24 #[.val (.int i0)] [])) _
    refine XS.iloadN X0.here hx rfl (hb hby d1_24) rfl ?_
    show Steps p.tables e below (T0.setTop (mkF m 25 #[.val (.int i0)] [(.int i0)])) _
    refine XS.bipush X0.here hx rfl (hb hby d1_25) ?_
    exact kt
  by_cases hc27 : i0 = (95 : Int32)
  · refine ⟨T0, X0, e0, fun fs hr => ?_⟩
    have hv : (own_f1_24 i0) = (1 : Int32) := by unfold own_f1_24; rw [if_pos hc27]
    rw [hv] at hr
    refine pre1 _ ?_
    show Steps p.tables e below (T0.setTop (mkF m 27 #[.val (.int i0)] [(.int (95 : Int32)), (.int i0)])) _
    refine XS.icmpYes X0.here hx rfl (pc0 := 27) (pc' := 191) rfl (hb hby d1_27) rfl (teq hc27).1 (by decide) (by decide) ?_
    show Steps p.tables e below (T0.setTop (mkF m 191 #[.val (.int i0)] [])) _
    refine XS.iconst X0.here hx rfl (hb hby d1_191) ?_
    show Steps p.tables e below (T0.setTop (mkF m 192 #[.val (.int i0)] [(.int (1 : Int32))])) _
    refine XS.goto X0.here hx rfl (pc0 := 192) (pc' := 196) rfl (hb hby d1_192) (by decide) (by decide) ?_
    show Steps p.tables e below (T0.setTop (mkF m 196 #[.val (.int i0)] [(.int (1 : Int32))])) _
    exact retN X0 hx (t := .boolean) hret (by simp) (hb hby d1_196) hr
  · have pre2 : ∀ target, Steps p.tables e below (T0.setTop (mkF m 34 #[.val (.int i0)] [(.int (192 : Int32)), (.int i0)])) target → Steps p.tables e below (T0.setTop (mkF m 24 #[.val (.int i0)] [])) target := by
      intro target kt
      refine pre1 target ?_
      show Steps p.tables e below (T0.setTop (mkF m 27 #[.val (.int i0)] [(.int (95 : Int32)), (.int i0)])) _
      refine XS.icmpNo X0.here hx rfl (hb hby d1_27) rfl (feq hc27).1 ?_
      show Steps p.tables e below (T0.setTop (mkF m 30 #[.val (.int i0)] [])) _
      refine XS.iloadN X0.here hx rfl (hb hby d1_30) rfl ?_
      show Steps p.tables e below (T0.setTop (mkF m 31 #[.val (.int i0)] [(.int i0)])) _
      refine XS.sipush X0.here hx rfl (hb hby d1_31) ?_
      exact kt
    by_cases hc34 : i0 < (192 : Int32)
    · have pre3 : ∀ target, Steps p.tables e below (T0.setTop (mkF m 44 #[.val (.int i0)] [])) target → Steps p.tables e below (T0.setTop (mkF m 24 #[.val (.int i0)] [])) target := by
        intro target kt
        refine pre2 target ?_
        show Steps p.tables e below (T0.setTop (mkF m 34 #[.val (.int i0)] [(.int (192 : Int32)), (.int i0)])) _
        refine XS.icmpYes X0.here hx rfl (pc0 := 34) (pc' := 44) rfl (hb hby d1_34) rfl (tlt hc34).1 (by decide) (by decide) ?_
        exact kt
      obtain ⟨T4, X4, e4, st4⟩ := own_b1_44 hx hZ hw hby hml hown hret i0  X0 e0 hcl hsl  
      have hv : (own_f1_24 i0) = (own_f1_44 i0) := by unfold own_f1_24; rw [if_neg hc27, if_pos hc34]
      exact ⟨T4, X4, e4, fun fs hr => pre3 _ (st4 fs (by rw [hv] at hr; exact hr))⟩
    · have pre5 : ∀ target, Steps p.tables e below (T0.setTop (mkF m 41 #[.val (.int i0)] [(.int (214 : Int32)), (.int i0)])) target → Steps p.tables e below (T0.setTop (mkF m 24 #[.val (.int i0)] [])) target := by
        intro target kt
        refine pre2 target ?_
        show Steps p.tables e below (T0.setTop (mkF m 34 #[.val (.int i0)] [(.int (192 : Int32)), (.int i0)])) _
        refine XS.icmpNo X0.here hx rfl (hb hby d1_34) rfl (flt hc34).1 ?_
        show Steps p.tables e below (T0.setTop (mkF m 37 #[.val (.int i0)] [])) _
        refine XS.iloadN X0.here hx rfl (hb hby d1_37) rfl ?_
        show Steps p.tables e below (T0.setTop (mkF m 38 #[.val (.int i0)] [(.int i0)])) _
        refine XS.sipush X0.here hx rfl (hb hby d1_38) ?_
        exact kt
      by_cases hc41 : (214 : Int32) < i0
      · have pre6 : ∀ target, Steps p.tables e below (T0.setTop (mkF m 44 #[.val (.int i0)] [])) target → Steps p.tables e below (T0.setTop (mkF m 24 #[.val (.int i0)] [])) target := by
          intro target kt
          refine pre5 target ?_
          show Steps p.tables e below (T0.setTop (mkF m 41 #[.val (.int i0)] [(.int (214 : Int32)), (.int i0)])) _
          refine XS.icmpNo X0.here hx rfl (hb hby d1_41) rfl (tlt hc41).2.2.2 ?_
          exact kt
        obtain ⟨T7, X7, e7, st7⟩ := own_b1_44 hx hZ hw hby hml hown hret i0  X0 e0 hcl hsl  
        have hv : (own_f1_24 i0) = (own_f1_44 i0) := by unfold own_f1_24; rw [if_neg hc27, if_neg hc34, if_pos hc41]
        exact ⟨T7, X7, e7, fun fs hr => pre6 _ (st7 fs (by rw [hv] at hr; exact hr))⟩
      · refine ⟨T0, X0, e0, fun fs hr => ?_⟩
        have hv : (own_f1_24 i0) = (1 : Int32) := by unfold own_f1_24; rw [if_neg hc27, if_neg hc34, if_neg hc41]
        rw [hv] at hr
        refine pre5 _ ?_
        show Steps p.tables e below (T0.setTop (mkF m 41 #[.val (.int i0)] [(.int (214 : Int32)), (.int i0)])) _
        refine XS.icmpYes X0.here hx rfl (pc0 := 41) (pc' := 191) rfl (hb hby d1_41) rfl (flt hc41).2.2.2 (by decide) (by decide) ?_
        show Steps p.tables e below (T0.setTop (mkF m 191 #[.val (.int i0)] [])) _
        refine XS.iconst X0.here hx rfl (hb hby d1_191) ?_
        show Steps p.tables e below (T0.setTop (mkF m 192 #[.val (.int i0)] [(.int (1 : Int32))])) _
        refine XS.goto X0.here hx rfl (pc0 := 192) (pc' := 196) rfl (hb hby d1_192) (by decide) (by decide) ?_
        show Steps p.tables e below (T0.setTop (mkF m 196 #[.val (.int i0)] [(.int (1 : Int32))])) _
        exact retN X0 hx (t := .boolean) hret (by simp) (hb hby d1_196) hr
set_option maxRecDepth 65536 in
set_option maxHeartbeats 40000000 in
theorem own_b1_12 {p : Program} {l : Launch} {e : Env} {s : State} {m : MethodId} {args : Array Value} {below : List Frame} {meth : Method} {c : Code} {Z : State} {a0_ : Array Value} (hx : p.tables.exec = Jvm.exec) (hZ : Z.Warmed39 s.vm) (hw : ∀ d ∈ tables_1, d.before a0_ Z = true) (hby : c.code = prog_220_method_5_code) (hml : c.maxLocals = 1) (hown : s.vm.findClass "com/example/saho/saho/text/XmlChars" = some m.cls) (hret : meth.sig.returnType = some .boolean) {T0 : State} {locs : List Loc} {cells slots : Nat} {h0 : Heap} (i0 : Int32)
    (X0 : Stand p l e ({ frames := 0, cells := 0, slots := 0, locals := 0 } : Room) s m args below meth c T0 locs cells slots) (e0 : T0.heap = h0) (hcl : cells ≤ ({ frames := 0, cells := 0, slots := 0, locals := 0 } : Room).cells) (hsl : slots ≤ ({ frames := 0, cells := 0, slots := 0, locals := 0 } : Room).slots)  :
    ∃ T', Stand p l e ({ frames := 0, cells := 0, slots := 0, locals := 0 } : Room) s m args below meth c T' locs cells slots ∧ T'.heap = h0 ∧ ∀ fs, (∀ (f : JFrame) (acts : List Action), f.method = m → f.locked = none → f.entered = [] → (doReturn e (T'.setTop f) acts (some (.int (own_f1_12 i0)))).1 = T'.setFrames fs) → Steps p.tables e below (T0.setTop (mkF m 12 #[.val (.int i0)] [])) (T'.setFrames fs) := by
  have pre1 : ∀ target, Steps p.tables e below (T0.setTop (mkF m 15 #[.val (.int i0)] [(.int (65 : Int32)), (.int i0)])) target → Steps p.tables e below (T0.setTop (mkF m 12 #[.val (.int i0)] [])) target := by
    intro target kt
    show Steps p.tables e below (T0.setTop (mkF m 12 #[.val (.int i0)] [])) _
    refine XS.iloadN X0.here hx rfl (hb hby d1_12) rfl ?_
    show Steps p.tables e below (T0.setTop (mkF m 13 #[.val (.int i0)] [(.int i0)])) _
    refine XS.bipush X0.here hx rfl (hb hby d1_13) ?_
    exact kt
  by_cases hc15 : i0 < (65 : Int32)
  · have pre2 : ∀ target, Steps p.tables e below (T0.setTop (mkF m 24 #[.val (.int i0)] [])) target → Steps p.tables e below (T0.setTop (mkF m 12 #[.val (.int i0)] [])) target := by
      intro target kt
      refine pre1 target ?_
      show Steps p.tables e below (T0.setTop (mkF m 15 #[.val (.int i0)] [(.int (65 : Int32)), (.int i0)])) _
      refine XS.icmpYes X0.here hx rfl (pc0 := 15) (pc' := 24) rfl (hb hby d1_15) rfl (tlt hc15).1 (by decide) (by decide) ?_
      exact kt
    obtain ⟨T3, X3, e3, st3⟩ := own_b1_24 hx hZ hw hby hml hown hret i0  X0 e0 hcl hsl  
    have hv : (own_f1_12 i0) = (own_f1_24 i0) := by unfold own_f1_12; rw [if_pos hc15]
    exact ⟨T3, X3, e3, fun fs hr => pre2 _ (st3 fs (by rw [hv] at hr; exact hr))⟩
  · have pre4 : ∀ target, Steps p.tables e below (T0.setTop (mkF m 21 #[.val (.int i0)] [(.int (90 : Int32)), (.int i0)])) target → Steps p.tables e below (T0.setTop (mkF m 12 #[.val (.int i0)] [])) target := by
      intro target kt
      refine pre1 target ?_
      show Steps p.tables e below (T0.setTop (mkF m 15 #[.val (.int i0)] [(.int (65 : Int32)), (.int i0)])) _
      refine XS.icmpNo X0.here hx rfl (hb hby d1_15) rfl (flt hc15).1 ?_
      show Steps p.tables e below (T0.setTop (mkF m 18 #[.val (.int i0)] [])) _
      refine XS.iloadN X0.here hx rfl (hb hby d1_18) rfl ?_
      show Steps p.tables e below (T0.setTop (mkF m 19 #[.val (.int i0)] [(.int i0)])) _
      refine XS.bipush X0.here hx rfl (hb hby d1_19) ?_
      exact kt
    by_cases hc21 : (90 : Int32) < i0
    · have pre5 : ∀ target, Steps p.tables e below (T0.setTop (mkF m 24 #[.val (.int i0)] [])) target → Steps p.tables e below (T0.setTop (mkF m 12 #[.val (.int i0)] [])) target := by
        intro target kt
        refine pre4 target ?_
        show Steps p.tables e below (T0.setTop (mkF m 21 #[.val (.int i0)] [(.int (90 : Int32)), (.int i0)])) _
        refine XS.icmpNo X0.here hx rfl (hb hby d1_21) rfl (tlt hc21).2.2.2 ?_
        exact kt
      obtain ⟨T6, X6, e6, st6⟩ := own_b1_24 hx hZ hw hby hml hown hret i0  X0 e0 hcl hsl  
      have hv : (own_f1_12 i0) = (own_f1_24 i0) := by unfold own_f1_12; rw [if_neg hc15, if_pos hc21]
      exact ⟨T6, X6, e6, fun fs hr => pre5 _ (st6 fs (by rw [hv] at hr; exact hr))⟩
    · refine ⟨T0, X0, e0, fun fs hr => ?_⟩
      have hv : (own_f1_12 i0) = (1 : Int32) := by unfold own_f1_12; rw [if_neg hc15, if_neg hc21]
      rw [hv] at hr
      refine pre4 _ ?_
      show Steps p.tables e below (T0.setTop (mkF m 21 #[.val (.int i0)] [(.int (90 : Int32)), (.int i0)])) _
      refine XS.icmpYes X0.here hx rfl (pc0 := 21) (pc' := 191) rfl (hb hby d1_21) rfl (flt hc21).2.2.2 (by decide) (by decide) ?_
      show Steps p.tables e below (T0.setTop (mkF m 191 #[.val (.int i0)] [])) _
      refine XS.iconst X0.here hx rfl (hb hby d1_191) ?_
      show Steps p.tables e below (T0.setTop (mkF m 192 #[.val (.int i0)] [(.int (1 : Int32))])) _
      refine XS.goto X0.here hx rfl (pc0 := 192) (pc' := 196) rfl (hb hby d1_192) (by decide) (by decide) ?_
      show Steps p.tables e below (T0.setTop (mkF m 196 #[.val (.int i0)] [(.int (1 : Int32))])) _
      exact retN X0 hx (t := .boolean) hret (by simp) (hb hby d1_196) hr
set_option maxRecDepth 65536 in
set_option maxHeartbeats 40000000 in
theorem own_b1_0 {p : Program} {l : Launch} {e : Env} {s : State} {m : MethodId} {args : Array Value} {below : List Frame} {meth : Method} {c : Code} {Z : State} {a0_ : Array Value} (hx : p.tables.exec = Jvm.exec) (hZ : Z.Warmed39 s.vm) (hw : ∀ d ∈ tables_1, d.before a0_ Z = true) (hby : c.code = prog_220_method_5_code) (hml : c.maxLocals = 1) (hown : s.vm.findClass "com/example/saho/saho/text/XmlChars" = some m.cls) (hret : meth.sig.returnType = some .boolean) {T0 : State} {locs : List Loc} {cells slots : Nat} {h0 : Heap} (i0 : Int32)
    (X0 : Stand p l e ({ frames := 0, cells := 0, slots := 0, locals := 0 } : Room) s m args below meth c T0 locs cells slots) (e0 : T0.heap = h0) (hcl : cells ≤ ({ frames := 0, cells := 0, slots := 0, locals := 0 } : Room).cells) (hsl : slots ≤ ({ frames := 0, cells := 0, slots := 0, locals := 0 } : Room).slots)  :
    ∃ T', Stand p l e ({ frames := 0, cells := 0, slots := 0, locals := 0 } : Room) s m args below meth c T' locs cells slots ∧ T'.heap = h0 ∧ ∀ fs, (∀ (f : JFrame) (acts : List Action), f.method = m → f.locked = none → f.entered = [] → (doReturn e (T'.setTop f) acts (some (.int (own_f1_0 i0)))).1 = T'.setFrames fs) → Steps p.tables e below (T0.setTop (mkF m 0 #[.val (.int i0)] [])) (T'.setFrames fs) := by
  have pre1 : ∀ target, Steps p.tables e below (T0.setTop (mkF m 3 #[.val (.int i0)] [(.int (97 : Int32)), (.int i0)])) target → Steps p.tables e below (T0.setTop (mkF m 0 #[.val (.int i0)] [])) target := by
    intro target kt
    show Steps p.tables e below (T0.setTop (mkF m 0 #[.val (.int i0)] [])) _
    refine XS.iloadN X0.here hx rfl (hb hby d1_0) rfl ?_
    show Steps p.tables e below (T0.setTop (mkF m 1 #[.val (.int i0)] [(.int i0)])) _
    refine XS.bipush X0.here hx rfl (hb hby d1_1) ?_
    exact kt
  by_cases hc3 : i0 < (97 : Int32)
  · have pre2 : ∀ target, Steps p.tables e below (T0.setTop (mkF m 12 #[.val (.int i0)] [])) target → Steps p.tables e below (T0.setTop (mkF m 0 #[.val (.int i0)] [])) target := by
      intro target kt
      refine pre1 target ?_
      show Steps p.tables e below (T0.setTop (mkF m 3 #[.val (.int i0)] [(.int (97 : Int32)), (.int i0)])) _
      refine XS.icmpYes X0.here hx rfl (pc0 := 3) (pc' := 12) rfl (hb hby d1_3) rfl (tlt hc3).1 (by decide) (by decide) ?_
      exact kt
    obtain ⟨T3, X3, e3, st3⟩ := own_b1_12 hx hZ hw hby hml hown hret i0  X0 e0 hcl hsl  
    have hv : (own_f1_0 i0) = (own_f1_12 i0) := by unfold own_f1_0; rw [if_pos hc3]
    exact ⟨T3, X3, e3, fun fs hr => pre2 _ (st3 fs (by rw [hv] at hr; exact hr))⟩
  · have pre4 : ∀ target, Steps p.tables e below (T0.setTop (mkF m 9 #[.val (.int i0)] [(.int (122 : Int32)), (.int i0)])) target → Steps p.tables e below (T0.setTop (mkF m 0 #[.val (.int i0)] [])) target := by
      intro target kt
      refine pre1 target ?_
      show Steps p.tables e below (T0.setTop (mkF m 3 #[.val (.int i0)] [(.int (97 : Int32)), (.int i0)])) _
      refine XS.icmpNo X0.here hx rfl (hb hby d1_3) rfl (flt hc3).1 ?_
      show Steps p.tables e below (T0.setTop (mkF m 6 #[.val (.int i0)] [])) _
      refine XS.iloadN X0.here hx rfl (hb hby d1_6) rfl ?_
      show Steps p.tables e below (T0.setTop (mkF m 7 #[.val (.int i0)] [(.int i0)])) _
      refine XS.bipush X0.here hx rfl (hb hby d1_7) ?_
      exact kt
    by_cases hc9 : (122 : Int32) < i0
    · have pre5 : ∀ target, Steps p.tables e below (T0.setTop (mkF m 12 #[.val (.int i0)] [])) target → Steps p.tables e below (T0.setTop (mkF m 0 #[.val (.int i0)] [])) target := by
        intro target kt
        refine pre4 target ?_
        show Steps p.tables e below (T0.setTop (mkF m 9 #[.val (.int i0)] [(.int (122 : Int32)), (.int i0)])) _
        refine XS.icmpNo X0.here hx rfl (hb hby d1_9) rfl (tlt hc9).2.2.2 ?_
        exact kt
      obtain ⟨T6, X6, e6, st6⟩ := own_b1_12 hx hZ hw hby hml hown hret i0  X0 e0 hcl hsl  
      have hv : (own_f1_0 i0) = (own_f1_12 i0) := by unfold own_f1_0; rw [if_neg hc3, if_pos hc9]
      exact ⟨T6, X6, e6, fun fs hr => pre5 _ (st6 fs (by rw [hv] at hr; exact hr))⟩
    · refine ⟨T0, X0, e0, fun fs hr => ?_⟩
      have hv : (own_f1_0 i0) = (1 : Int32) := by unfold own_f1_0; rw [if_neg hc3, if_neg hc9]
      rw [hv] at hr
      refine pre4 _ ?_
      show Steps p.tables e below (T0.setTop (mkF m 9 #[.val (.int i0)] [(.int (122 : Int32)), (.int i0)])) _
      refine XS.icmpYes X0.here hx rfl (pc0 := 9) (pc' := 191) rfl (hb hby d1_9) rfl (flt hc9).2.2.2 (by decide) (by decide) ?_
      show Steps p.tables e below (T0.setTop (mkF m 191 #[.val (.int i0)] [])) _
      refine XS.iconst X0.here hx rfl (hb hby d1_191) ?_
      show Steps p.tables e below (T0.setTop (mkF m 192 #[.val (.int i0)] [(.int (1 : Int32))])) _
      refine XS.goto X0.here hx rfl (pc0 := 192) (pc' := 196) rfl (hb hby d1_192) (by decide) (by decide) ?_
      show Steps p.tables e below (T0.setTop (mkF m 196 #[.val (.int i0)] [(.int (1 : Int32))])) _
      exact retN X0 hx (t := .boolean) hret (by simp) (hb hby d1_196) hr
def Q1 (Z : State) (i0 : Int32) (h0 : Heap) (n0 : Nat) (v : Option Value) (h : Heap) (L : List Loc) : Prop := v = some (.int (own_f1_0 i0)) ∧ L = [] ∧ h = h0
set_option maxRecDepth 65536 in
set_option maxHeartbeats 40000000 in
theorem rm1 (l : Launch) (Z : State) (a0_ : Array Value) (hw : ∀ d ∈ tables_1, d.before a0_ Z = true) (ws : List Jvm.Cond) (i0 : Int32) (h0 : Heap) (n0 : Nat) (Z0 : n0 ≤ h0.size)  :
    MetFree l (⟨"com/example/saho/saho/text/XmlChars", "isNcNameStartChar", "(I)Z"⟩ : MethodName) (head1 (Jvm.Cond.code (⟨"com/example/saho/saho/text/XmlChars", "isNcNameStartChar", "(I)Z"⟩ : MethodName) prog_220_method_5_code 1 (some .boolean) :: ws) ({ frames := 0, cells := 0, slots := 0, locals := 0 } : Room)) (fun a U => a = #[(.int i0)] ∧ Z.Warmed39 U.vm ∧ U.heap = h0) (fun _ _ _ _ _ => True) (fun _ U o U' => ∃ v L, o = .returned v ∧ Q1 Z i0 h0 n0 v U'.heap L ∧ FrameEnd U o U' L ({ frames := 0, cells := 0, slots := 0, locals := 0 } : Room).cells ({ frames := 0, cells := 0, slots := 0, locals := 0 } : Room).slots) := by
  refine MetFree.of_bodySF (plainFor_of_name pn_1) hisR ?_
  intro p e s m args below meth c s₁ Bd hml0 hP hK
  obtain ⟨rfl, hZ, hh⟩ := hP
  have hx := Bd.exec
  have hby := Bd.bytes
  have hml : c.maxLocals = 1 := hml0
  have hown : s.vm.findClass "com/example/saho/saho/text/XmlChars" = some m.cls := findClass_of_methodNamed Bd.named
  have X0 : Stand p l e ({ frames := 0, cells := 0, slots := 0, locals := 0 } : Room) s m #[(.int i0)] below meth c s₁ [] 0 0 := Stand.of_body Bd
  have e0 : s₁.heap = h0 := by rw [← hh, Bd.state]; rfl
  obtain ⟨T', X', e', st'⟩ := own_b1_0 hx hZ hw hby hml hown Bd.returns  i0 X0 e0 (by decide) (by decide) 
  obtain ⟨fs, hr, hrun, hended, hW, hsame⟩ := X'.leave (v := some (.int (own_f1_0 i0))) (fun h => by rw [Bd.returns] at h; cases h)
  refine ⟨_, _, castTop (ef_1 m i0) (st' fs hr), hrun, hended, _, _, rfl, ?_, ⟨_, rfl⟩, hW, hsame.mono (by decide) (by decide)⟩
  exact ⟨rfl, rfl, e'⟩
theorem d4_0 : decode method_2_code 0 = .ok (.iload_n 0, 1) := by decide +kernel
theorem d4_1 : decode method_2_code 1 = .ok (.iload_n 1, 1) := by decide +kernel
theorem d4_2 : decode method_2_code 2 = .ok (.if_icmp .lt 12, 3) := by decide +kernel
theorem d4_5 : decode method_2_code 5 = .ok (.iload_n 0, 1) := by decide +kernel
theorem d4_6 : decode method_2_code 6 = .ok (.iload_n 2, 1) := by decide +kernel
theorem d4_7 : decode method_2_code 7 = .ok (.if_icmp .gt 7, 3) := by decide +kernel
theorem d4_10 : decode method_2_code 10 = .ok (.iconst 1, 1) := by decide +kernel
theorem d4_11 : decode method_2_code 11 = .ok (.goto 4, 3) := by decide +kernel
theorem d4_14 : decode method_2_code 14 = .ok (.iconst 0, 1) := by decide +kernel
theorem d4_15 : decode method_2_code 15 = .ok (.ireturn, 1) := by decide +kernel
theorem pn_4 : plainName "com/example/saho/saho/text/XmlCharsIsNcNameStartCharPinLaw" = true := by first | (simp [plainName, overriddenIn]; done) | decide +kernel
theorem ef_4 (m : MethodId) (i0 : Int32) (i1 : Int32) (i2 : Int32) : entryFrame m #[(.int i0), (.int i1), (.int i2)] 3 = mkF m 0 #[.val (.int i0), .val (.int i1), .val (.int i2)] [] := by first | (simp [entryFrame, mkF, argsToLocals, Value.category]; done) | rfl
def own_f4_0 (i0 : Int32) (i1 : Int32) (i2 : Int32) : Int32 :=
  (if i0 < i1 then (0 : Int32) else (if i2 < i0 then (0 : Int32) else (1 : Int32)))
set_option maxRecDepth 65536 in
set_option maxHeartbeats 40000000 in
theorem own_b4_0 {p : Program} {l : Launch} {e : Env} {s : State} {m : MethodId} {args : Array Value} {below : List Frame} {meth : Method} {c : Code} {Z : State} {a0_ : Array Value} (hx : p.tables.exec = Jvm.exec) (hZ : Z.Warmed39 s.vm) (hw : ∀ d ∈ tables_1, d.before a0_ Z = true) (hby : c.code = method_2_code) (hml : c.maxLocals = 3) (hown : s.vm.findClass "com/example/saho/saho/text/XmlCharsIsNcNameStartCharPinLaw" = some m.cls) (hret : meth.sig.returnType = some .boolean) {T0 : State} {locs : List Loc} {cells slots : Nat} {h0 : Heap} (i0 : Int32) (i1 : Int32) (i2 : Int32)
    (X0 : Stand p l e ({ frames := 0, cells := 0, slots := 0, locals := 0 } : Room) s m args below meth c T0 locs cells slots) (e0 : T0.heap = h0) (hcl : cells ≤ ({ frames := 0, cells := 0, slots := 0, locals := 0 } : Room).cells) (hsl : slots ≤ ({ frames := 0, cells := 0, slots := 0, locals := 0 } : Room).slots)  :
    ∃ T', Stand p l e ({ frames := 0, cells := 0, slots := 0, locals := 0 } : Room) s m args below meth c T' locs cells slots ∧ T'.heap = h0 ∧ ∀ fs, (∀ (f : JFrame) (acts : List Action), f.method = m → f.locked = none → f.entered = [] → (doReturn e (T'.setTop f) acts (some (.int (own_f4_0 i0 i1 i2)))).1 = T'.setFrames fs) → Steps p.tables e below (T0.setTop (mkF m 0 #[.val (.int i0), .val (.int i1), .val (.int i2)] [])) (T'.setFrames fs) := by
  have pre1 : ∀ target, Steps p.tables e below (T0.setTop (mkF m 2 #[.val (.int i0), .val (.int i1), .val (.int i2)] [(.int i1), (.int i0)])) target → Steps p.tables e below (T0.setTop (mkF m 0 #[.val (.int i0), .val (.int i1), .val (.int i2)] [])) target := by
    intro target kt
    show Steps p.tables e below (T0.setTop (mkF m 0 #[.val (.int i0), .val (.int i1), .val (.int i2)] [])) _
    refine XS.iloadN X0.here hx rfl (hb hby d4_0) rfl ?_
    show Steps p.tables e below (T0.setTop (mkF m 1 #[.val (.int i0), .val (.int i1), .val (.int i2)] [(.int i0)])) _
    refine XS.iloadN X0.here hx rfl (hb hby d4_1) rfl ?_
    exact kt
  by_cases hc2 : i0 < i1
  · refine ⟨T0, X0, e0, fun fs hr => ?_⟩
    have hv : (own_f4_0 i0 i1 i2) = (0 : Int32) := by unfold own_f4_0; rw [if_pos hc2]
    rw [hv] at hr
    refine pre1 _ ?_
    show Steps p.tables e below (T0.setTop (mkF m 2 #[.val (.int i0), .val (.int i1), .val (.int i2)] [(.int i1), (.int i0)])) _
    refine XS.icmpYes X0.here hx rfl (pc0 := 2) (pc' := 14) rfl (hb hby d4_2) rfl (tlt hc2).1 (by decide) (by decide) ?_
    show Steps p.tables e below (T0.setTop (mkF m 14 #[.val (.int i0), .val (.int i1), .val (.int i2)] [])) _
    refine XS.iconst X0.here hx rfl (hb hby d4_14) ?_
    show Steps p.tables e below (T0.setTop (mkF m 15 #[.val (.int i0), .val (.int i1), .val (.int i2)] [(.int (0 : Int32))])) _
    exact retN X0 hx (t := .boolean) hret (by simp) (hb hby d4_15) hr
  · have pre2 : ∀ target, Steps p.tables e below (T0.setTop (mkF m 7 #[.val (.int i0), .val (.int i1), .val (.int i2)] [(.int i2), (.int i0)])) target → Steps p.tables e below (T0.setTop (mkF m 0 #[.val (.int i0), .val (.int i1), .val (.int i2)] [])) target := by
      intro target kt
      refine pre1 target ?_
      show Steps p.tables e below (T0.setTop (mkF m 2 #[.val (.int i0), .val (.int i1), .val (.int i2)] [(.int i1), (.int i0)])) _
      refine XS.icmpNo X0.here hx rfl (hb hby d4_2) rfl (flt hc2).1 ?_
      show Steps p.tables e below (T0.setTop (mkF m 5 #[.val (.int i0), .val (.int i1), .val (.int i2)] [])) _
      refine XS.iloadN X0.here hx rfl (hb hby d4_5) rfl ?_
      show Steps p.tables e below (T0.setTop (mkF m 6 #[.val (.int i0), .val (.int i1), .val (.int i2)] [(.int i0)])) _
      refine XS.iloadN X0.here hx rfl (hb hby d4_6) rfl ?_
      exact kt
    by_cases hc7 : i2 < i0
    · refine ⟨T0, X0, e0, fun fs hr => ?_⟩
      have hv : (own_f4_0 i0 i1 i2) = (0 : Int32) := by unfold own_f4_0; rw [if_neg hc2, if_pos hc7]
      rw [hv] at hr
      refine pre2 _ ?_
      show Steps p.tables e below (T0.setTop (mkF m 7 #[.val (.int i0), .val (.int i1), .val (.int i2)] [(.int i2), (.int i0)])) _
      refine XS.icmpYes X0.here hx rfl (pc0 := 7) (pc' := 14) rfl (hb hby d4_7) rfl (tlt hc7).2.2.1 (by decide) (by decide) ?_
      show Steps p.tables e below (T0.setTop (mkF m 14 #[.val (.int i0), .val (.int i1), .val (.int i2)] [])) _
      refine XS.iconst X0.here hx rfl (hb hby d4_14) ?_
      show Steps p.tables e below (T0.setTop (mkF m 15 #[.val (.int i0), .val (.int i1), .val (.int i2)] [(.int (0 : Int32))])) _
      exact retN X0 hx (t := .boolean) hret (by simp) (hb hby d4_15) hr
    · refine ⟨T0, X0, e0, fun fs hr => ?_⟩
      have hv : (own_f4_0 i0 i1 i2) = (1 : Int32) := by unfold own_f4_0; rw [if_neg hc2, if_neg hc7]
      rw [hv] at hr
      refine pre2 _ ?_
      show Steps p.tables e below (T0.setTop (mkF m 7 #[.val (.int i0), .val (.int i1), .val (.int i2)] [(.int i2), (.int i0)])) _
      refine XS.icmpNo X0.here hx rfl (hb hby d4_7) rfl (flt hc7).2.2.1 ?_
      show Steps p.tables e below (T0.setTop (mkF m 10 #[.val (.int i0), .val (.int i1), .val (.int i2)] [])) _
      refine XS.iconst X0.here hx rfl (hb hby d4_10) ?_
      show Steps p.tables e below (T0.setTop (mkF m 11 #[.val (.int i0), .val (.int i1), .val (.int i2)] [(.int (1 : Int32))])) _
      refine XS.goto X0.here hx rfl (pc0 := 11) (pc' := 15) rfl (hb hby d4_11) (by decide) (by decide) ?_
      show Steps p.tables e below (T0.setTop (mkF m 15 #[.val (.int i0), .val (.int i1), .val (.int i2)] [(.int (1 : Int32))])) _
      exact retN X0 hx (t := .boolean) hret (by simp) (hb hby d4_15) hr
def Q4 (Z : State) (i0 : Int32) (i1 : Int32) (i2 : Int32) (h0 : Heap) (n0 : Nat) (v : Option Value) (h : Heap) (L : List Loc) : Prop := v = some (.int (own_f4_0 i0 i1 i2)) ∧ L = [] ∧ h = h0
set_option maxRecDepth 65536 in
set_option maxHeartbeats 40000000 in
theorem rm4 (l : Launch) (Z : State) (a0_ : Array Value) (hw : ∀ d ∈ tables_1, d.before a0_ Z = true) (ws : List Jvm.Cond) (i0 : Int32) (i1 : Int32) (i2 : Int32) (h0 : Heap) (n0 : Nat) (Z0 : n0 ≤ h0.size)  :
    MetFree l (⟨"com/example/saho/saho/text/XmlCharsIsNcNameStartCharPinLaw", "in", "(III)Z"⟩ : MethodName) (head1 (Jvm.Cond.code (⟨"com/example/saho/saho/text/XmlCharsIsNcNameStartCharPinLaw", "in", "(III)Z"⟩ : MethodName) method_2_code 3 (some .boolean) :: ws) ({ frames := 0, cells := 0, slots := 0, locals := 0 } : Room)) (fun a U => a = #[(.int i0), (.int i1), (.int i2)] ∧ Z.Warmed39 U.vm ∧ U.heap = h0) (fun _ _ _ _ _ => True) (fun _ U o U' => ∃ v L, o = .returned v ∧ Q4 Z i0 i1 i2 h0 n0 v U'.heap L ∧ FrameEnd U o U' L ({ frames := 0, cells := 0, slots := 0, locals := 0 } : Room).cells ({ frames := 0, cells := 0, slots := 0, locals := 0 } : Room).slots) := by
  refine MetFree.of_bodySF (plainFor_of_name pn_4) hisR ?_
  intro p e s m args below meth c s₁ Bd hml0 hP hK
  obtain ⟨rfl, hZ, hh⟩ := hP
  have hx := Bd.exec
  have hby := Bd.bytes
  have hml : c.maxLocals = 3 := hml0
  have hown : s.vm.findClass "com/example/saho/saho/text/XmlCharsIsNcNameStartCharPinLaw" = some m.cls := findClass_of_methodNamed Bd.named
  have X0 : Stand p l e ({ frames := 0, cells := 0, slots := 0, locals := 0 } : Room) s m #[(.int i0), (.int i1), (.int i2)] below meth c s₁ [] 0 0 := Stand.of_body Bd
  have e0 : s₁.heap = h0 := by rw [← hh, Bd.state]; rfl
  obtain ⟨T', X', e', st'⟩ := own_b4_0 hx hZ hw hby hml hown Bd.returns  i0 i1 i2 X0 e0 (by decide) (by decide) 
  obtain ⟨fs, hr, hrun, hended, hW, hsame⟩ := X'.leave (v := some (.int (own_f4_0 i0 i1 i2))) (fun h => by rw [Bd.returns] at h; cases h)
  refine ⟨_, _, castTop (ef_4 m i0 i1 i2) (st' fs hr), hrun, hended, _, _, rfl, ?_, ⟨_, rfl⟩, hW, hsame.mono (by decide) (by decide)⟩
  exact ⟨rfl, rfl, e'⟩
theorem d3_0 : decode method_3_code 0 = .ok (.iload_n 0, 1) := by decide +kernel
theorem d3_1 : decode method_3_code 1 = .ok (.bipush 91, 2) := by decide +kernel
theorem d3_3 : decode method_3_code 3 = .ok (.bipush 94, 2) := by decide +kernel
theorem d3_5 : decode method_3_code 5 = .ok (.invokestatic 7, 3) := by decide +kernel
theorem d3_8 : decode method_3_code 8 = .ok (.ifCond .ne 140, 3) := by decide +kernel
theorem d3_11 : decode method_3_code 11 = .ok (.iload_n 0, 1) := by decide +kernel
theorem d3_12 : decode method_3_code 12 = .ok (.bipush 96, 2) := by decide +kernel
theorem d3_14 : decode method_3_code 14 = .ok (.if_icmp .eq 134, 3) := by decide +kernel
theorem d3_17 : decode method_3_code 17 = .ok (.iload_n 0, 1) := by decide +kernel
theorem d3_18 : decode method_3_code 18 = .ok (.bipush 123, 2) := by decide +kernel
theorem d3_20 : decode method_3_code 20 = .ok (.sipush 191, 3) := by decide +kernel
theorem d3_23 : decode method_3_code 23 = .ok (.invokestatic 7, 3) := by decide +kernel
theorem d3_26 : decode method_3_code 26 = .ok (.ifCond .ne 122, 3) := by decide +kernel
theorem d3_29 : decode method_3_code 29 = .ok (.iload_n 0, 1) := by decide +kernel
theorem d3_30 : decode method_3_code 30 = .ok (.sipush 215, 3) := by decide +kernel
theorem d3_33 : decode method_3_code 33 = .ok (.if_icmp .eq 115, 3) := by decide +kernel
theorem d3_36 : decode method_3_code 36 = .ok (.iload_n 0, 1) := by decide +kernel
theorem d3_37 : decode method_3_code 37 = .ok (.sipush 247, 3) := by decide +kernel
theorem d3_40 : decode method_3_code 40 = .ok (.if_icmp .eq 108, 3) := by decide +kernel
theorem d3_43 : decode method_3_code 43 = .ok (.iload_n 0, 1) := by decide +kernel
theorem d3_44 : decode method_3_code 44 = .ok (.sipush 768, 3) := by decide +kernel
theorem d3_47 : decode method_3_code 47 = .ok (.sipush 879, 3) := by decide +kernel
theorem d3_50 : decode method_3_code 50 = .ok (.invokestatic 7, 3) := by decide +kernel
theorem d3_53 : decode method_3_code 53 = .ok (.ifCond .ne 95, 3) := by decide +kernel
theorem d3_56 : decode method_3_code 56 = .ok (.iload_n 0, 1) := by decide +kernel
theorem d3_57 : decode method_3_code 57 = .ok (.sipush 894, 3) := by decide +kernel
theorem d3_60 : decode method_3_code 60 = .ok (.if_icmp .eq 88, 3) := by decide +kernel
theorem d3_63 : decode method_3_code 63 = .ok (.iload_n 0, 1) := by decide +kernel
theorem d3_64 : decode method_3_code 64 = .ok (.sipush 8192, 3) := by decide +kernel
theorem d3_67 : decode method_3_code 67 = .ok (.sipush 8203, 3) := by decide +kernel
theorem d3_70 : decode method_3_code 70 = .ok (.invokestatic 7, 3) := by decide +kernel
theorem d3_73 : decode method_3_code 73 = .ok (.ifCond .ne 75, 3) := by decide +kernel
theorem d3_76 : decode method_3_code 76 = .ok (.iload_n 0, 1) := by decide +kernel
theorem d3_77 : decode method_3_code 77 = .ok (.sipush 8206, 3) := by decide +kernel
theorem d3_80 : decode method_3_code 80 = .ok (.sipush 8303, 3) := by decide +kernel
theorem d3_83 : decode method_3_code 83 = .ok (.invokestatic 7, 3) := by decide +kernel
theorem d3_86 : decode method_3_code 86 = .ok (.ifCond .ne 62, 3) := by decide +kernel
theorem d3_89 : decode method_3_code 89 = .ok (.iload_n 0, 1) := by decide +kernel
theorem d3_90 : decode method_3_code 90 = .ok (.sipush 8592, 3) := by decide +kernel
theorem d3_93 : decode method_3_code 93 = .ok (.sipush 11263, 3) := by decide +kernel
theorem d3_96 : decode method_3_code 96 = .ok (.invokestatic 7, 3) := by decide +kernel
theorem d3_99 : decode method_3_code 99 = .ok (.ifCond .ne 49, 3) := by decide +kernel
theorem d3_102 : decode method_3_code 102 = .ok (.iload_n 0, 1) := by decide +kernel
theorem d3_103 : decode method_3_code 103 = .ok (.sipush 12272, 3) := by decide +kernel
theorem d3_106 : decode method_3_code 106 = .ok (.sipush 12288, 3) := by decide +kernel
theorem d3_109 : decode method_3_code 109 = .ok (.invokestatic 7, 3) := by decide +kernel
theorem d3_112 : decode method_3_code 112 = .ok (.ifCond .ne 36, 3) := by decide +kernel
theorem d3_115 : decode method_3_code 115 = .ok (.iload_n 0, 1) := by decide +kernel
theorem d3_116 : decode method_3_code 116 = .ok (.ldc 13, 2) := by decide +kernel
theorem d3_118 : decode method_3_code 118 = .ok (.ldc 14, 2) := by decide +kernel
theorem d3_120 : decode method_3_code 120 = .ok (.invokestatic 7, 3) := by decide +kernel
theorem d3_123 : decode method_3_code 123 = .ok (.ifCond .ne 25, 3) := by decide +kernel
theorem d3_126 : decode method_3_code 126 = .ok (.iload_n 0, 1) := by decide +kernel
theorem d3_127 : decode method_3_code 127 = .ok (.ldc 15, 2) := by decide +kernel
theorem d3_129 : decode method_3_code 129 = .ok (.ldc 16, 2) := by decide +kernel
theorem d3_131 : decode method_3_code 131 = .ok (.invokestatic 7, 3) := by decide +kernel
theorem d3_134 : decode method_3_code 134 = .ok (.ifCond .ne 14, 3) := by decide +kernel
theorem d3_137 : decode method_3_code 137 = .ok (.iload_n 0, 1) := by decide +kernel
theorem d3_138 : decode method_3_code 138 = .ok (.ldc 17, 2) := by decide +kernel
theorem d3_140 : decode method_3_code 140 = .ok (.ldc 18, 2) := by decide +kernel
theorem d3_142 : decode method_3_code 142 = .ok (.invokestatic 7, 3) := by decide +kernel
theorem d3_145 : decode method_3_code 145 = .ok (.ifCond .eq 7, 3) := by decide +kernel
theorem d3_148 : decode method_3_code 148 = .ok (.iconst 1, 1) := by decide +kernel
theorem d3_149 : decode method_3_code 149 = .ok (.goto 4, 3) := by decide +kernel
theorem d3_152 : decode method_3_code 152 = .ok (.iconst 0, 1) := by decide +kernel
theorem d3_153 : decode method_3_code 153 = .ok (.ireturn, 1) := by decide +kernel
theorem pn_3 : plainName "com/example/saho/saho/text/XmlCharsIsNcNameStartCharPinLaw" = true := by first | (simp [plainName, overriddenIn]; done) | decide +kernel
theorem pd_3_0 : parseMethodDescriptor "(III)Z" = some ⟨[.int, .int, .int], some .boolean⟩ := by decide +kernel
theorem ef_3 (m : MethodId) (i0 : Int32) : entryFrame m #[(.int i0)] 1 = mkF m 0 #[.val (.int i0)] [] := by first | (simp [entryFrame, mkF, argsToLocals, Value.category]; done) | rfl
def own_f3_0 (i0 : Int32) : Int32 :=
  (if (own_f4_0 i0 (91 : Int32) (94 : Int32)) = (0 : Int32) then (if i0 = (96 : Int32) then (1 : Int32) else (if (own_f4_0 i0 (123 : Int32) (191 : Int32)) = (0 : Int32) then (if i0 = (215 : Int32) then (1 : Int32) else (if i0 = (247 : Int32) then (1 : Int32) else (if (own_f4_0 i0 (768 : Int32) (879 : Int32)) = (0 : Int32) then (if i0 = (894 : Int32) then (1 : Int32) else (if (own_f4_0 i0 (8192 : Int32) (8203 : Int32)) = (0 : Int32) then (if (own_f4_0 i0 (8206 : Int32) (8303 : Int32)) = (0 : Int32) then (if (own_f4_0 i0 (8592 : Int32) (11263 : Int32)) = (0 : Int32) then (if (own_f4_0 i0 (12272 : Int32) (12288 : Int32)) = (0 : Int32) then (if (own_f4_0 i0 (55296 : Int32) (63743 : Int32)) = (0 : Int32) then (if (own_f4_0 i0 (64976 : Int32) (65007 : Int32)) = (0 : Int32) then (if (own_f4_0 i0 (65534 : Int32) (65535 : Int32)) = (0 : Int32) then (0 : Int32) else (1 : Int32)) else (1 : Int32)) else (1 : Int32)) else (1 : Int32)) else (1 : Int32)) else (1 : Int32)) else (1 : Int32))) else (1 : Int32)))) else (1 : Int32))) else (1 : Int32))
set_option maxRecDepth 65536 in
set_option maxHeartbeats 40000000 in
theorem own_b3_0 {p : Program} {l : Launch} {e : Env} {s : State} {m : MethodId} {args : Array Value} {below : List Frame} {meth : Method} {c : Code} {Z : State} {a0_ : Array Value} (hx : p.tables.exec = Jvm.exec) (hZ : Z.Warmed39 s.vm) (hw : ∀ d ∈ tables_1, d.before a0_ Z = true) (hby : c.code = method_3_code) (hml : c.maxLocals = 1) (hown : s.vm.findClass "com/example/saho/saho/text/XmlCharsIsNcNameStartCharPinLaw" = some m.cls) (hret : meth.sig.returnType = some .boolean) {T0 : State} {locs : List Loc} {cells slots : Nat} {h0 : Heap} (i0 : Int32)
    (X0 : Stand p l e ({ frames := 1, cells := 0, slots := 0, locals := 14 } : Room) s m args below meth c T0 locs cells slots) (e0 : T0.heap = h0) (hcl : cells ≤ ({ frames := 1, cells := 0, slots := 0, locals := 14 } : Room).cells) (hsl : slots ≤ ({ frames := 1, cells := 0, slots := 0, locals := 14 } : Room).slots)  :
    ∃ T', Stand p l e ({ frames := 1, cells := 0, slots := 0, locals := 14 } : Room) s m args below meth c T' locs cells slots ∧ T'.heap = h0 ∧ ∀ fs, (∀ (f : JFrame) (acts : List Action), f.method = m → f.locked = none → f.entered = [] → (doReturn e (T'.setTop f) acts (some (.int (own_f3_0 i0)))).1 = T'.setFrames fs) → Steps p.tables e below (T0.setTop (mkF m 0 #[.val (.int i0)] [])) (T'.setFrames fs) := by
  obtain ⟨_, _, ⟨T1, L1, k1, n1⟩, -, X1, ⟨Lc1, hQ1, l1, y1, z1⟩, st1⟩ := Jvm.LawKit.callS X0 hx (y := (⟨"com/example/saho/saho/text/XmlCharsIsNcNameStartCharPinLaw", "in", "(III)Z"⟩ : MethodName)) hown (mvT hZ (hw _ (List.mem_of_getElem? (i := 23) rfl))) (mvT hZ (hw _ (List.mem_of_getElem? (i := 24) rfl))) (mvT hZ (hw _ (List.mem_of_getElem? (i := 18) rfl))) (mvT hZ (hw _ (List.mem_of_getElem? (i := 25) rfl))) (by decide) (backOf (W := 0) (rm4 l Z a0_ hw [] i0 (91 : Int32) (94 : Int32)  h0 0 (Nat.zero_le _) ) hZ (hw _ (List.mem_of_getElem? (i := 25) rfl)) (hw _ (List.mem_of_getElem? (i := 18) rfl)) (by decide) (by decide)) (g := (mkF m 5 #[.val (.int i0)] [(.int (94 : Int32)), (.int (91 : Int32)), (.int i0)])) rfl (by rw [hml]; rfl) (argsL := [(.int i0), (.int (91 : Int32)), (.int (94 : Int32))]) (rest := []) (lenOf pd_3_0 rfl) rfl (by show 2 * 0 + _ ≤ _; exact Nat.le_of_eq rfl) (hb hby d3_5) (fun _ _ => ⟨rfl, e0, hcl, hsl⟩)
  dsimp only [Pt.U, Pt.locs, Pt.cells, Pt.slots] at X1 l1 y1 z1 st1 hQ1
  subst l1 y1 z1
  obtain ⟨rfl, rfl, e1⟩ := hQ1
  rw [List.append_nil] at X1
  have pre2 : ∀ target, Steps p.tables e below (T1.setTop (mkF m 8 #[.val (.int i0)] [(.int (own_f4_0 i0 (91 : Int32) (94 : Int32)))])) target → Steps p.tables e below (T0.setTop (mkF m 0 #[.val (.int i0)] [])) target := by
    intro target kt
    show Steps p.tables e below (T0.setTop (mkF m 0 #[.val (.int i0)] [])) _
    refine XS.iloadN X0.here hx rfl (hb hby d3_0) rfl ?_
    show Steps p.tables e below (T0.setTop (mkF m 1 #[.val (.int i0)] [(.int i0)])) _
    refine XS.bipush X0.here hx rfl (hb hby d3_1) ?_
    show Steps p.tables e below (T0.setTop (mkF m 3 #[.val (.int i0)] [(.int (91 : Int32)), (.int i0)])) _
    refine XS.bipush X0.here hx rfl (hb hby d3_3) ?_
    show Steps p.tables e below (T0.setTop (mkF m 5 #[.val (.int i0)] [(.int (94 : Int32)), (.int (91 : Int32)), (.int i0)])) _
    refine st1 _ ?_
    exact kt
  by_cases hc8 : (own_f4_0 i0 (91 : Int32) (94 : Int32)) = (0 : Int32)
  · have pre3 : ∀ target, Steps p.tables e below (T1.setTop (mkF m 14 #[.val (.int i0)] [(.int (96 : Int32)), (.int i0)])) target → Steps p.tables e below (T0.setTop (mkF m 0 #[.val (.int i0)] [])) target := by
      intro target kt
      refine pre2 target ?_
      show Steps p.tables e below (T1.setTop (mkF m 8 #[.val (.int i0)] [(.int (own_f4_0 i0 (91 : Int32) (94 : Int32)))])) _
      refine XS.ifNo X1.here hx rfl (hb hby d3_8) rfl ((if0 _ _).trans (teq hc8).2) ?_
      show Steps p.tables e below (T1.setTop (mkF m 11 #[.val (.int i0)] [])) _
      refine XS.iloadN X1.here hx rfl (hb hby d3_11) rfl ?_
      show Steps p.tables e below (T1.setTop (mkF m 12 #[.val (.int i0)] [(.int i0)])) _
      refine XS.bipush X1.here hx rfl (hb hby d3_12) ?_
      exact kt
    by_cases hc14 : i0 = (96 : Int32)
    · refine ⟨T1, X1, e1, fun fs hr => ?_⟩
      have hv : (own_f3_0 i0) = (1 : Int32) := by unfold own_f3_0; rw [if_pos hc8, if_pos hc14]
      rw [hv] at hr
      refine pre3 _ ?_
      show Steps p.tables e below (T1.setTop (mkF m 14 #[.val (.int i0)] [(.int (96 : Int32)), (.int i0)])) _
      refine XS.icmpYes X1.here hx rfl (pc0 := 14) (pc' := 148) rfl (hb hby d3_14) rfl (teq hc14).1 (by decide) (by decide) ?_
      show Steps p.tables e below (T1.setTop (mkF m 148 #[.val (.int i0)] [])) _
      refine XS.iconst X1.here hx rfl (hb hby d3_148) ?_
      show Steps p.tables e below (T1.setTop (mkF m 149 #[.val (.int i0)] [(.int (1 : Int32))])) _
      refine XS.goto X1.here hx rfl (pc0 := 149) (pc' := 153) rfl (hb hby d3_149) (by decide) (by decide) ?_
      show Steps p.tables e below (T1.setTop (mkF m 153 #[.val (.int i0)] [(.int (1 : Int32))])) _
      exact retN X1 hx (t := .boolean) hret (by simp) (hb hby d3_153) hr
    · obtain ⟨_, _, ⟨T4, L4, k4, n4⟩, -, X4, ⟨Lc4, hQ4, l4, y4, z4⟩, st4⟩ := Jvm.LawKit.callS X1 hx (y := (⟨"com/example/saho/saho/text/XmlCharsIsNcNameStartCharPinLaw", "in", "(III)Z"⟩ : MethodName)) hown (mvT hZ (hw _ (List.mem_of_getElem? (i := 23) rfl))) (mvT hZ (hw _ (List.mem_of_getElem? (i := 24) rfl))) (mvT hZ (hw _ (List.mem_of_getElem? (i := 18) rfl))) (mvT hZ (hw _ (List.mem_of_getElem? (i := 25) rfl))) (by decide) (backOf (W := 0) (rm4 l Z a0_ hw [] i0 (123 : Int32) (191 : Int32)  h0 0 (Nat.zero_le _) ) hZ (hw _ (List.mem_of_getElem? (i := 25) rfl)) (hw _ (List.mem_of_getElem? (i := 18) rfl)) (by decide) (by decide)) (g := (mkF m 23 #[.val (.int i0)] [(.int (191 : Int32)), (.int (123 : Int32)), (.int i0)])) rfl (by rw [hml]; rfl) (argsL := [(.int i0), (.int (123 : Int32)), (.int (191 : Int32))]) (rest := []) (lenOf pd_3_0 rfl) rfl (by show 2 * 0 + _ ≤ _; exact Nat.le_of_eq rfl) (hb hby d3_23) (fun _ _ => ⟨rfl, e1, hcl, hsl⟩)
      dsimp only [Pt.U, Pt.locs, Pt.cells, Pt.slots] at X4 l4 y4 z4 st4 hQ4
      subst l4 y4 z4
      obtain ⟨rfl, rfl, e4⟩ := hQ4
      rw [List.append_nil] at X4
      have pre5 : ∀ target, Steps p.tables e below (T4.setTop (mkF m 26 #[.val (.int i0)] [(.int (own_f4_0 i0 (123 : Int32) (191 : Int32)))])) target → Steps p.tables e below (T0.setTop (mkF m 0 #[.val (.int i0)] [])) target := by
        intro target kt
        refine pre3 target ?_
        show Steps p.tables e below (T1.setTop (mkF m 14 #[.val (.int i0)] [(.int (96 : Int32)), (.int i0)])) _
        refine XS.icmpNo X1.here hx rfl (hb hby d3_14) rfl (feq hc14).1 ?_
        show Steps p.tables e below (T1.setTop (mkF m 17 #[.val (.int i0)] [])) _
        refine XS.iloadN X1.here hx rfl (hb hby d3_17) rfl ?_
        show Steps p.tables e below (T1.setTop (mkF m 18 #[.val (.int i0)] [(.int i0)])) _
        refine XS.bipush X1.here hx rfl (hb hby d3_18) ?_
        show Steps p.tables e below (T1.setTop (mkF m 20 #[.val (.int i0)] [(.int (123 : Int32)), (.int i0)])) _
        refine XS.sipush X1.here hx rfl (hb hby d3_20) ?_
        show Steps p.tables e below (T1.setTop (mkF m 23 #[.val (.int i0)] [(.int (191 : Int32)), (.int (123 : Int32)), (.int i0)])) _
        refine st4 _ ?_
        exact kt
      by_cases hc26 : (own_f4_0 i0 (123 : Int32) (191 : Int32)) = (0 : Int32)
      · have pre6 : ∀ target, Steps p.tables e below (T4.setTop (mkF m 33 #[.val (.int i0)] [(.int (215 : Int32)), (.int i0)])) target → Steps p.tables e below (T0.setTop (mkF m 0 #[.val (.int i0)] [])) target := by
          intro target kt
          refine pre5 target ?_
          show Steps p.tables e below (T4.setTop (mkF m 26 #[.val (.int i0)] [(.int (own_f4_0 i0 (123 : Int32) (191 : Int32)))])) _
          refine XS.ifNo X4.here hx rfl (hb hby d3_26) rfl ((if0 _ _).trans (teq hc26).2) ?_
          show Steps p.tables e below (T4.setTop (mkF m 29 #[.val (.int i0)] [])) _
          refine XS.iloadN X4.here hx rfl (hb hby d3_29) rfl ?_
          show Steps p.tables e below (T4.setTop (mkF m 30 #[.val (.int i0)] [(.int i0)])) _
          refine XS.sipush X4.here hx rfl (hb hby d3_30) ?_
          exact kt
        by_cases hc33 : i0 = (215 : Int32)
        · refine ⟨T4, X4, e4, fun fs hr => ?_⟩
          have hv : (own_f3_0 i0) = (1 : Int32) := by unfold own_f3_0; rw [if_pos hc8, if_neg hc14, if_pos hc26, if_pos hc33]
          rw [hv] at hr
          refine pre6 _ ?_
          show Steps p.tables e below (T4.setTop (mkF m 33 #[.val (.int i0)] [(.int (215 : Int32)), (.int i0)])) _
          refine XS.icmpYes X4.here hx rfl (pc0 := 33) (pc' := 148) rfl (hb hby d3_33) rfl (teq hc33).1 (by decide) (by decide) ?_
          show Steps p.tables e below (T4.setTop (mkF m 148 #[.val (.int i0)] [])) _
          refine XS.iconst X4.here hx rfl (hb hby d3_148) ?_
          show Steps p.tables e below (T4.setTop (mkF m 149 #[.val (.int i0)] [(.int (1 : Int32))])) _
          refine XS.goto X4.here hx rfl (pc0 := 149) (pc' := 153) rfl (hb hby d3_149) (by decide) (by decide) ?_
          show Steps p.tables e below (T4.setTop (mkF m 153 #[.val (.int i0)] [(.int (1 : Int32))])) _
          exact retN X4 hx (t := .boolean) hret (by simp) (hb hby d3_153) hr
        · have pre7 : ∀ target, Steps p.tables e below (T4.setTop (mkF m 40 #[.val (.int i0)] [(.int (247 : Int32)), (.int i0)])) target → Steps p.tables e below (T0.setTop (mkF m 0 #[.val (.int i0)] [])) target := by
            intro target kt
            refine pre6 target ?_
            show Steps p.tables e below (T4.setTop (mkF m 33 #[.val (.int i0)] [(.int (215 : Int32)), (.int i0)])) _
            refine XS.icmpNo X4.here hx rfl (hb hby d3_33) rfl (feq hc33).1 ?_
            show Steps p.tables e below (T4.setTop (mkF m 36 #[.val (.int i0)] [])) _
            refine XS.iloadN X4.here hx rfl (hb hby d3_36) rfl ?_
            show Steps p.tables e below (T4.setTop (mkF m 37 #[.val (.int i0)] [(.int i0)])) _
            refine XS.sipush X4.here hx rfl (hb hby d3_37) ?_
            exact kt
          by_cases hc40 : i0 = (247 : Int32)
          · refine ⟨T4, X4, e4, fun fs hr => ?_⟩
            have hv : (own_f3_0 i0) = (1 : Int32) := by unfold own_f3_0; rw [if_pos hc8, if_neg hc14, if_pos hc26, if_neg hc33, if_pos hc40]
            rw [hv] at hr
            refine pre7 _ ?_
            show Steps p.tables e below (T4.setTop (mkF m 40 #[.val (.int i0)] [(.int (247 : Int32)), (.int i0)])) _
            refine XS.icmpYes X4.here hx rfl (pc0 := 40) (pc' := 148) rfl (hb hby d3_40) rfl (teq hc40).1 (by decide) (by decide) ?_
            show Steps p.tables e below (T4.setTop (mkF m 148 #[.val (.int i0)] [])) _
            refine XS.iconst X4.here hx rfl (hb hby d3_148) ?_
            show Steps p.tables e below (T4.setTop (mkF m 149 #[.val (.int i0)] [(.int (1 : Int32))])) _
            refine XS.goto X4.here hx rfl (pc0 := 149) (pc' := 153) rfl (hb hby d3_149) (by decide) (by decide) ?_
            show Steps p.tables e below (T4.setTop (mkF m 153 #[.val (.int i0)] [(.int (1 : Int32))])) _
            exact retN X4 hx (t := .boolean) hret (by simp) (hb hby d3_153) hr
          · obtain ⟨_, _, ⟨T8, L8, k8, n8⟩, -, X8, ⟨Lc8, hQ8, l8, y8, z8⟩, st8⟩ := Jvm.LawKit.callS X4 hx (y := (⟨"com/example/saho/saho/text/XmlCharsIsNcNameStartCharPinLaw", "in", "(III)Z"⟩ : MethodName)) hown (mvT hZ (hw _ (List.mem_of_getElem? (i := 23) rfl))) (mvT hZ (hw _ (List.mem_of_getElem? (i := 24) rfl))) (mvT hZ (hw _ (List.mem_of_getElem? (i := 18) rfl))) (mvT hZ (hw _ (List.mem_of_getElem? (i := 25) rfl))) (by decide) (backOf (W := 0) (rm4 l Z a0_ hw [] i0 (768 : Int32) (879 : Int32)  h0 0 (Nat.zero_le _) ) hZ (hw _ (List.mem_of_getElem? (i := 25) rfl)) (hw _ (List.mem_of_getElem? (i := 18) rfl)) (by decide) (by decide)) (g := (mkF m 50 #[.val (.int i0)] [(.int (879 : Int32)), (.int (768 : Int32)), (.int i0)])) rfl (by rw [hml]; rfl) (argsL := [(.int i0), (.int (768 : Int32)), (.int (879 : Int32))]) (rest := []) (lenOf pd_3_0 rfl) rfl (by show 2 * 0 + _ ≤ _; exact Nat.le_of_eq rfl) (hb hby d3_50) (fun _ _ => ⟨rfl, e4, hcl, hsl⟩)
            dsimp only [Pt.U, Pt.locs, Pt.cells, Pt.slots] at X8 l8 y8 z8 st8 hQ8
            subst l8 y8 z8
            obtain ⟨rfl, rfl, e8⟩ := hQ8
            rw [List.append_nil] at X8
            have pre9 : ∀ target, Steps p.tables e below (T8.setTop (mkF m 53 #[.val (.int i0)] [(.int (own_f4_0 i0 (768 : Int32) (879 : Int32)))])) target → Steps p.tables e below (T0.setTop (mkF m 0 #[.val (.int i0)] [])) target := by
              intro target kt
              refine pre7 target ?_
              show Steps p.tables e below (T4.setTop (mkF m 40 #[.val (.int i0)] [(.int (247 : Int32)), (.int i0)])) _
              refine XS.icmpNo X4.here hx rfl (hb hby d3_40) rfl (feq hc40).1 ?_
              show Steps p.tables e below (T4.setTop (mkF m 43 #[.val (.int i0)] [])) _
              refine XS.iloadN X4.here hx rfl (hb hby d3_43) rfl ?_
              show Steps p.tables e below (T4.setTop (mkF m 44 #[.val (.int i0)] [(.int i0)])) _
              refine XS.sipush X4.here hx rfl (hb hby d3_44) ?_
              show Steps p.tables e below (T4.setTop (mkF m 47 #[.val (.int i0)] [(.int (768 : Int32)), (.int i0)])) _
              refine XS.sipush X4.here hx rfl (hb hby d3_47) ?_
              show Steps p.tables e below (T4.setTop (mkF m 50 #[.val (.int i0)] [(.int (879 : Int32)), (.int (768 : Int32)), (.int i0)])) _
              refine st8 _ ?_
              exact kt
            by_cases hc53 : (own_f4_0 i0 (768 : Int32) (879 : Int32)) = (0 : Int32)
            · have pre10 : ∀ target, Steps p.tables e below (T8.setTop (mkF m 60 #[.val (.int i0)] [(.int (894 : Int32)), (.int i0)])) target → Steps p.tables e below (T0.setTop (mkF m 0 #[.val (.int i0)] [])) target := by
                intro target kt
                refine pre9 target ?_
                show Steps p.tables e below (T8.setTop (mkF m 53 #[.val (.int i0)] [(.int (own_f4_0 i0 (768 : Int32) (879 : Int32)))])) _
                refine XS.ifNo X8.here hx rfl (hb hby d3_53) rfl ((if0 _ _).trans (teq hc53).2) ?_
                show Steps p.tables e below (T8.setTop (mkF m 56 #[.val (.int i0)] [])) _
                refine XS.iloadN X8.here hx rfl (hb hby d3_56) rfl ?_
                show Steps p.tables e below (T8.setTop (mkF m 57 #[.val (.int i0)] [(.int i0)])) _
                refine XS.sipush X8.here hx rfl (hb hby d3_57) ?_
                exact kt
              by_cases hc60 : i0 = (894 : Int32)
              · refine ⟨T8, X8, e8, fun fs hr => ?_⟩
                have hv : (own_f3_0 i0) = (1 : Int32) := by unfold own_f3_0; rw [if_pos hc8, if_neg hc14, if_pos hc26, if_neg hc33, if_neg hc40, if_pos hc53, if_pos hc60]
                rw [hv] at hr
                refine pre10 _ ?_
                show Steps p.tables e below (T8.setTop (mkF m 60 #[.val (.int i0)] [(.int (894 : Int32)), (.int i0)])) _
                refine XS.icmpYes X8.here hx rfl (pc0 := 60) (pc' := 148) rfl (hb hby d3_60) rfl (teq hc60).1 (by decide) (by decide) ?_
                show Steps p.tables e below (T8.setTop (mkF m 148 #[.val (.int i0)] [])) _
                refine XS.iconst X8.here hx rfl (hb hby d3_148) ?_
                show Steps p.tables e below (T8.setTop (mkF m 149 #[.val (.int i0)] [(.int (1 : Int32))])) _
                refine XS.goto X8.here hx rfl (pc0 := 149) (pc' := 153) rfl (hb hby d3_149) (by decide) (by decide) ?_
                show Steps p.tables e below (T8.setTop (mkF m 153 #[.val (.int i0)] [(.int (1 : Int32))])) _
                exact retN X8 hx (t := .boolean) hret (by simp) (hb hby d3_153) hr
              · obtain ⟨_, _, ⟨T11, L11, k11, n11⟩, -, X11, ⟨Lc11, hQ11, l11, y11, z11⟩, st11⟩ := Jvm.LawKit.callS X8 hx (y := (⟨"com/example/saho/saho/text/XmlCharsIsNcNameStartCharPinLaw", "in", "(III)Z"⟩ : MethodName)) hown (mvT hZ (hw _ (List.mem_of_getElem? (i := 23) rfl))) (mvT hZ (hw _ (List.mem_of_getElem? (i := 24) rfl))) (mvT hZ (hw _ (List.mem_of_getElem? (i := 18) rfl))) (mvT hZ (hw _ (List.mem_of_getElem? (i := 25) rfl))) (by decide) (backOf (W := 0) (rm4 l Z a0_ hw [] i0 (8192 : Int32) (8203 : Int32)  h0 0 (Nat.zero_le _) ) hZ (hw _ (List.mem_of_getElem? (i := 25) rfl)) (hw _ (List.mem_of_getElem? (i := 18) rfl)) (by decide) (by decide)) (g := (mkF m 70 #[.val (.int i0)] [(.int (8203 : Int32)), (.int (8192 : Int32)), (.int i0)])) rfl (by rw [hml]; rfl) (argsL := [(.int i0), (.int (8192 : Int32)), (.int (8203 : Int32))]) (rest := []) (lenOf pd_3_0 rfl) rfl (by show 2 * 0 + _ ≤ _; exact Nat.le_of_eq rfl) (hb hby d3_70) (fun _ _ => ⟨rfl, e8, hcl, hsl⟩)
                dsimp only [Pt.U, Pt.locs, Pt.cells, Pt.slots] at X11 l11 y11 z11 st11 hQ11
                subst l11 y11 z11
                obtain ⟨rfl, rfl, e11⟩ := hQ11
                rw [List.append_nil] at X11
                have pre12 : ∀ target, Steps p.tables e below (T11.setTop (mkF m 73 #[.val (.int i0)] [(.int (own_f4_0 i0 (8192 : Int32) (8203 : Int32)))])) target → Steps p.tables e below (T0.setTop (mkF m 0 #[.val (.int i0)] [])) target := by
                  intro target kt
                  refine pre10 target ?_
                  show Steps p.tables e below (T8.setTop (mkF m 60 #[.val (.int i0)] [(.int (894 : Int32)), (.int i0)])) _
                  refine XS.icmpNo X8.here hx rfl (hb hby d3_60) rfl (feq hc60).1 ?_
                  show Steps p.tables e below (T8.setTop (mkF m 63 #[.val (.int i0)] [])) _
                  refine XS.iloadN X8.here hx rfl (hb hby d3_63) rfl ?_
                  show Steps p.tables e below (T8.setTop (mkF m 64 #[.val (.int i0)] [(.int i0)])) _
                  refine XS.sipush X8.here hx rfl (hb hby d3_64) ?_
                  show Steps p.tables e below (T8.setTop (mkF m 67 #[.val (.int i0)] [(.int (8192 : Int32)), (.int i0)])) _
                  refine XS.sipush X8.here hx rfl (hb hby d3_67) ?_
                  show Steps p.tables e below (T8.setTop (mkF m 70 #[.val (.int i0)] [(.int (8203 : Int32)), (.int (8192 : Int32)), (.int i0)])) _
                  refine st11 _ ?_
                  exact kt
                by_cases hc73 : (own_f4_0 i0 (8192 : Int32) (8203 : Int32)) = (0 : Int32)
                · obtain ⟨_, _, ⟨T13, L13, k13, n13⟩, -, X13, ⟨Lc13, hQ13, l13, y13, z13⟩, st13⟩ := Jvm.LawKit.callS X11 hx (y := (⟨"com/example/saho/saho/text/XmlCharsIsNcNameStartCharPinLaw", "in", "(III)Z"⟩ : MethodName)) hown (mvT hZ (hw _ (List.mem_of_getElem? (i := 23) rfl))) (mvT hZ (hw _ (List.mem_of_getElem? (i := 24) rfl))) (mvT hZ (hw _ (List.mem_of_getElem? (i := 18) rfl))) (mvT hZ (hw _ (List.mem_of_getElem? (i := 25) rfl))) (by decide) (backOf (W := 0) (rm4 l Z a0_ hw [] i0 (8206 : Int32) (8303 : Int32)  h0 0 (Nat.zero_le _) ) hZ (hw _ (List.mem_of_getElem? (i := 25) rfl)) (hw _ (List.mem_of_getElem? (i := 18) rfl)) (by decide) (by decide)) (g := (mkF m 83 #[.val (.int i0)] [(.int (8303 : Int32)), (.int (8206 : Int32)), (.int i0)])) rfl (by rw [hml]; rfl) (argsL := [(.int i0), (.int (8206 : Int32)), (.int (8303 : Int32))]) (rest := []) (lenOf pd_3_0 rfl) rfl (by show 2 * 0 + _ ≤ _; exact Nat.le_of_eq rfl) (hb hby d3_83) (fun _ _ => ⟨rfl, e11, hcl, hsl⟩)
                  dsimp only [Pt.U, Pt.locs, Pt.cells, Pt.slots] at X13 l13 y13 z13 st13 hQ13
                  subst l13 y13 z13
                  obtain ⟨rfl, rfl, e13⟩ := hQ13
                  rw [List.append_nil] at X13
                  have pre14 : ∀ target, Steps p.tables e below (T13.setTop (mkF m 86 #[.val (.int i0)] [(.int (own_f4_0 i0 (8206 : Int32) (8303 : Int32)))])) target → Steps p.tables e below (T0.setTop (mkF m 0 #[.val (.int i0)] [])) target := by
                    intro target kt
                    refine pre12 target ?_
                    show Steps p.tables e below (T11.setTop (mkF m 73 #[.val (.int i0)] [(.int (own_f4_0 i0 (8192 : Int32) (8203 : Int32)))])) _
                    refine XS.ifNo X11.here hx rfl (hb hby d3_73) rfl ((if0 _ _).trans (teq hc73).2) ?_
                    show Steps p.tables e below (T11.setTop (mkF m 76 #[.val (.int i0)] [])) _
                    refine XS.iloadN X11.here hx rfl (hb hby d3_76) rfl ?_
                    show Steps p.tables e below (T11.setTop (mkF m 77 #[.val (.int i0)] [(.int i0)])) _
                    refine XS.sipush X11.here hx rfl (hb hby d3_77) ?_
                    show Steps p.tables e below (T11.setTop (mkF m 80 #[.val (.int i0)] [(.int (8206 : Int32)), (.int i0)])) _
                    refine XS.sipush X11.here hx rfl (hb hby d3_80) ?_
                    show Steps p.tables e below (T11.setTop (mkF m 83 #[.val (.int i0)] [(.int (8303 : Int32)), (.int (8206 : Int32)), (.int i0)])) _
                    refine st13 _ ?_
                    exact kt
                  by_cases hc86 : (own_f4_0 i0 (8206 : Int32) (8303 : Int32)) = (0 : Int32)
                  · obtain ⟨_, _, ⟨T15, L15, k15, n15⟩, -, X15, ⟨Lc15, hQ15, l15, y15, z15⟩, st15⟩ := Jvm.LawKit.callS X13 hx (y := (⟨"com/example/saho/saho/text/XmlCharsIsNcNameStartCharPinLaw", "in", "(III)Z"⟩ : MethodName)) hown (mvT hZ (hw _ (List.mem_of_getElem? (i := 23) rfl))) (mvT hZ (hw _ (List.mem_of_getElem? (i := 24) rfl))) (mvT hZ (hw _ (List.mem_of_getElem? (i := 18) rfl))) (mvT hZ (hw _ (List.mem_of_getElem? (i := 25) rfl))) (by decide) (backOf (W := 0) (rm4 l Z a0_ hw [] i0 (8592 : Int32) (11263 : Int32)  h0 0 (Nat.zero_le _) ) hZ (hw _ (List.mem_of_getElem? (i := 25) rfl)) (hw _ (List.mem_of_getElem? (i := 18) rfl)) (by decide) (by decide)) (g := (mkF m 96 #[.val (.int i0)] [(.int (11263 : Int32)), (.int (8592 : Int32)), (.int i0)])) rfl (by rw [hml]; rfl) (argsL := [(.int i0), (.int (8592 : Int32)), (.int (11263 : Int32))]) (rest := []) (lenOf pd_3_0 rfl) rfl (by show 2 * 0 + _ ≤ _; exact Nat.le_of_eq rfl) (hb hby d3_96) (fun _ _ => ⟨rfl, e13, hcl, hsl⟩)
                    dsimp only [Pt.U, Pt.locs, Pt.cells, Pt.slots] at X15 l15 y15 z15 st15 hQ15
                    subst l15 y15 z15
                    obtain ⟨rfl, rfl, e15⟩ := hQ15
                    rw [List.append_nil] at X15
                    have pre16 : ∀ target, Steps p.tables e below (T15.setTop (mkF m 99 #[.val (.int i0)] [(.int (own_f4_0 i0 (8592 : Int32) (11263 : Int32)))])) target → Steps p.tables e below (T0.setTop (mkF m 0 #[.val (.int i0)] [])) target := by
                      intro target kt
                      refine pre14 target ?_
                      show Steps p.tables e below (T13.setTop (mkF m 86 #[.val (.int i0)] [(.int (own_f4_0 i0 (8206 : Int32) (8303 : Int32)))])) _
                      refine XS.ifNo X13.here hx rfl (hb hby d3_86) rfl ((if0 _ _).trans (teq hc86).2) ?_
                      show Steps p.tables e below (T13.setTop (mkF m 89 #[.val (.int i0)] [])) _
                      refine XS.iloadN X13.here hx rfl (hb hby d3_89) rfl ?_
                      show Steps p.tables e below (T13.setTop (mkF m 90 #[.val (.int i0)] [(.int i0)])) _
                      refine XS.sipush X13.here hx rfl (hb hby d3_90) ?_
                      show Steps p.tables e below (T13.setTop (mkF m 93 #[.val (.int i0)] [(.int (8592 : Int32)), (.int i0)])) _
                      refine XS.sipush X13.here hx rfl (hb hby d3_93) ?_
                      show Steps p.tables e below (T13.setTop (mkF m 96 #[.val (.int i0)] [(.int (11263 : Int32)), (.int (8592 : Int32)), (.int i0)])) _
                      refine st15 _ ?_
                      exact kt
                    by_cases hc99 : (own_f4_0 i0 (8592 : Int32) (11263 : Int32)) = (0 : Int32)
                    · obtain ⟨_, _, ⟨T17, L17, k17, n17⟩, -, X17, ⟨Lc17, hQ17, l17, y17, z17⟩, st17⟩ := Jvm.LawKit.callS X15 hx (y := (⟨"com/example/saho/saho/text/XmlCharsIsNcNameStartCharPinLaw", "in", "(III)Z"⟩ : MethodName)) hown (mvT hZ (hw _ (List.mem_of_getElem? (i := 23) rfl))) (mvT hZ (hw _ (List.mem_of_getElem? (i := 24) rfl))) (mvT hZ (hw _ (List.mem_of_getElem? (i := 18) rfl))) (mvT hZ (hw _ (List.mem_of_getElem? (i := 25) rfl))) (by decide) (backOf (W := 0) (rm4 l Z a0_ hw [] i0 (12272 : Int32) (12288 : Int32)  h0 0 (Nat.zero_le _) ) hZ (hw _ (List.mem_of_getElem? (i := 25) rfl)) (hw _ (List.mem_of_getElem? (i := 18) rfl)) (by decide) (by decide)) (g := (mkF m 109 #[.val (.int i0)] [(.int (12288 : Int32)), (.int (12272 : Int32)), (.int i0)])) rfl (by rw [hml]; rfl) (argsL := [(.int i0), (.int (12272 : Int32)), (.int (12288 : Int32))]) (rest := []) (lenOf pd_3_0 rfl) rfl (by show 2 * 0 + _ ≤ _; exact Nat.le_of_eq rfl) (hb hby d3_109) (fun _ _ => ⟨rfl, e15, hcl, hsl⟩)
                      dsimp only [Pt.U, Pt.locs, Pt.cells, Pt.slots] at X17 l17 y17 z17 st17 hQ17
                      subst l17 y17 z17
                      obtain ⟨rfl, rfl, e17⟩ := hQ17
                      rw [List.append_nil] at X17
                      have pre18 : ∀ target, Steps p.tables e below (T17.setTop (mkF m 112 #[.val (.int i0)] [(.int (own_f4_0 i0 (12272 : Int32) (12288 : Int32)))])) target → Steps p.tables e below (T0.setTop (mkF m 0 #[.val (.int i0)] [])) target := by
                        intro target kt
                        refine pre16 target ?_
                        show Steps p.tables e below (T15.setTop (mkF m 99 #[.val (.int i0)] [(.int (own_f4_0 i0 (8592 : Int32) (11263 : Int32)))])) _
                        refine XS.ifNo X15.here hx rfl (hb hby d3_99) rfl ((if0 _ _).trans (teq hc99).2) ?_
                        show Steps p.tables e below (T15.setTop (mkF m 102 #[.val (.int i0)] [])) _
                        refine XS.iloadN X15.here hx rfl (hb hby d3_102) rfl ?_
                        show Steps p.tables e below (T15.setTop (mkF m 103 #[.val (.int i0)] [(.int i0)])) _
                        refine XS.sipush X15.here hx rfl (hb hby d3_103) ?_
                        show Steps p.tables e below (T15.setTop (mkF m 106 #[.val (.int i0)] [(.int (12272 : Int32)), (.int i0)])) _
                        refine XS.sipush X15.here hx rfl (hb hby d3_106) ?_
                        show Steps p.tables e below (T15.setTop (mkF m 109 #[.val (.int i0)] [(.int (12288 : Int32)), (.int (12272 : Int32)), (.int i0)])) _
                        refine st17 _ ?_
                        exact kt
                      by_cases hc112 : (own_f4_0 i0 (12272 : Int32) (12288 : Int32)) = (0 : Int32)
                      · obtain ⟨_, _, ⟨T19, L19, k19, n19⟩, -, X19, ⟨Lc19, hQ19, l19, y19, z19⟩, st19⟩ := Jvm.LawKit.callS X17 hx (y := (⟨"com/example/saho/saho/text/XmlCharsIsNcNameStartCharPinLaw", "in", "(III)Z"⟩ : MethodName)) hown (mvT hZ (hw _ (List.mem_of_getElem? (i := 23) rfl))) (mvT hZ (hw _ (List.mem_of_getElem? (i := 24) rfl))) (mvT hZ (hw _ (List.mem_of_getElem? (i := 18) rfl))) (mvT hZ (hw _ (List.mem_of_getElem? (i := 25) rfl))) (by decide) (backOf (W := 0) (rm4 l Z a0_ hw [] i0 (55296 : Int32) (63743 : Int32)  h0 0 (Nat.zero_le _) ) hZ (hw _ (List.mem_of_getElem? (i := 25) rfl)) (hw _ (List.mem_of_getElem? (i := 18) rfl)) (by decide) (by decide)) (g := (mkF m 120 #[.val (.int i0)] [(.int (63743 : Int32)), (.int (55296 : Int32)), (.int i0)])) rfl (by rw [hml]; rfl) (argsL := [(.int i0), (.int (55296 : Int32)), (.int (63743 : Int32))]) (rest := []) (lenOf pd_3_0 rfl) rfl (by show 2 * 0 + _ ≤ _; exact Nat.le_of_eq rfl) (hb hby d3_120) (fun _ _ => ⟨rfl, e17, hcl, hsl⟩)
                        dsimp only [Pt.U, Pt.locs, Pt.cells, Pt.slots] at X19 l19 y19 z19 st19 hQ19
                        subst l19 y19 z19
                        obtain ⟨rfl, rfl, e19⟩ := hQ19
                        rw [List.append_nil] at X19
                        have pre20 : ∀ target, Steps p.tables e below (T19.setTop (mkF m 123 #[.val (.int i0)] [(.int (own_f4_0 i0 (55296 : Int32) (63743 : Int32)))])) target → Steps p.tables e below (T0.setTop (mkF m 0 #[.val (.int i0)] [])) target := by
                          intro target kt
                          refine pre18 target ?_
                          show Steps p.tables e below (T17.setTop (mkF m 112 #[.val (.int i0)] [(.int (own_f4_0 i0 (12272 : Int32) (12288 : Int32)))])) _
                          refine XS.ifNo X17.here hx rfl (hb hby d3_112) rfl ((if0 _ _).trans (teq hc112).2) ?_
                          show Steps p.tables e below (T17.setTop (mkF m 115 #[.val (.int i0)] [])) _
                          refine XS.iloadN X17.here hx rfl (hb hby d3_115) rfl ?_
                          show Steps p.tables e below (T17.setTop (mkF m 116 #[.val (.int i0)] [(.int i0)])) _
                          refine X17.ldcInt hx hown (mvT hZ (hw _ (List.mem_of_getElem? (i := 26) rfl))) (g := (mkF m 116 #[.val (.int i0)] [(.int i0)])) rfl (hb hby d3_116) _ ?_
                          show Steps p.tables e below (T17.setTop (mkF m 118 #[.val (.int i0)] [(.int (55296 : Int32)), (.int i0)])) _
                          refine X17.ldcInt hx hown (mvT hZ (hw _ (List.mem_of_getElem? (i := 27) rfl))) (g := (mkF m 118 #[.val (.int i0)] [(.int (55296 : Int32)), (.int i0)])) rfl (hb hby d3_118) _ ?_
                          show Steps p.tables e below (T17.setTop (mkF m 120 #[.val (.int i0)] [(.int (63743 : Int32)), (.int (55296 : Int32)), (.int i0)])) _
                          refine st19 _ ?_
                          exact kt
                        by_cases hc123 : (own_f4_0 i0 (55296 : Int32) (63743 : Int32)) = (0 : Int32)
                        · obtain ⟨_, _, ⟨T21, L21, k21, n21⟩, -, X21, ⟨Lc21, hQ21, l21, y21, z21⟩, st21⟩ := Jvm.LawKit.callS X19 hx (y := (⟨"com/example/saho/saho/text/XmlCharsIsNcNameStartCharPinLaw", "in", "(III)Z"⟩ : MethodName)) hown (mvT hZ (hw _ (List.mem_of_getElem? (i := 23) rfl))) (mvT hZ (hw _ (List.mem_of_getElem? (i := 24) rfl))) (mvT hZ (hw _ (List.mem_of_getElem? (i := 18) rfl))) (mvT hZ (hw _ (List.mem_of_getElem? (i := 25) rfl))) (by decide) (backOf (W := 0) (rm4 l Z a0_ hw [] i0 (64976 : Int32) (65007 : Int32)  h0 0 (Nat.zero_le _) ) hZ (hw _ (List.mem_of_getElem? (i := 25) rfl)) (hw _ (List.mem_of_getElem? (i := 18) rfl)) (by decide) (by decide)) (g := (mkF m 131 #[.val (.int i0)] [(.int (65007 : Int32)), (.int (64976 : Int32)), (.int i0)])) rfl (by rw [hml]; rfl) (argsL := [(.int i0), (.int (64976 : Int32)), (.int (65007 : Int32))]) (rest := []) (lenOf pd_3_0 rfl) rfl (by show 2 * 0 + _ ≤ _; exact Nat.le_of_eq rfl) (hb hby d3_131) (fun _ _ => ⟨rfl, e19, hcl, hsl⟩)
                          dsimp only [Pt.U, Pt.locs, Pt.cells, Pt.slots] at X21 l21 y21 z21 st21 hQ21
                          subst l21 y21 z21
                          obtain ⟨rfl, rfl, e21⟩ := hQ21
                          rw [List.append_nil] at X21
                          have pre22 : ∀ target, Steps p.tables e below (T21.setTop (mkF m 134 #[.val (.int i0)] [(.int (own_f4_0 i0 (64976 : Int32) (65007 : Int32)))])) target → Steps p.tables e below (T0.setTop (mkF m 0 #[.val (.int i0)] [])) target := by
                            intro target kt
                            refine pre20 target ?_
                            show Steps p.tables e below (T19.setTop (mkF m 123 #[.val (.int i0)] [(.int (own_f4_0 i0 (55296 : Int32) (63743 : Int32)))])) _
                            refine XS.ifNo X19.here hx rfl (hb hby d3_123) rfl ((if0 _ _).trans (teq hc123).2) ?_
                            show Steps p.tables e below (T19.setTop (mkF m 126 #[.val (.int i0)] [])) _
                            refine XS.iloadN X19.here hx rfl (hb hby d3_126) rfl ?_
                            show Steps p.tables e below (T19.setTop (mkF m 127 #[.val (.int i0)] [(.int i0)])) _
                            refine X19.ldcInt hx hown (mvT hZ (hw _ (List.mem_of_getElem? (i := 28) rfl))) (g := (mkF m 127 #[.val (.int i0)] [(.int i0)])) rfl (hb hby d3_127) _ ?_
                            show Steps p.tables e below (T19.setTop (mkF m 129 #[.val (.int i0)] [(.int (64976 : Int32)), (.int i0)])) _
                            refine X19.ldcInt hx hown (mvT hZ (hw _ (List.mem_of_getElem? (i := 29) rfl))) (g := (mkF m 129 #[.val (.int i0)] [(.int (64976 : Int32)), (.int i0)])) rfl (hb hby d3_129) _ ?_
                            show Steps p.tables e below (T19.setTop (mkF m 131 #[.val (.int i0)] [(.int (65007 : Int32)), (.int (64976 : Int32)), (.int i0)])) _
                            refine st21 _ ?_
                            exact kt
                          by_cases hc134 : (own_f4_0 i0 (64976 : Int32) (65007 : Int32)) = (0 : Int32)
                          · obtain ⟨_, _, ⟨T23, L23, k23, n23⟩, -, X23, ⟨Lc23, hQ23, l23, y23, z23⟩, st23⟩ := Jvm.LawKit.callS X21 hx (y := (⟨"com/example/saho/saho/text/XmlCharsIsNcNameStartCharPinLaw", "in", "(III)Z"⟩ : MethodName)) hown (mvT hZ (hw _ (List.mem_of_getElem? (i := 23) rfl))) (mvT hZ (hw _ (List.mem_of_getElem? (i := 24) rfl))) (mvT hZ (hw _ (List.mem_of_getElem? (i := 18) rfl))) (mvT hZ (hw _ (List.mem_of_getElem? (i := 25) rfl))) (by decide) (backOf (W := 0) (rm4 l Z a0_ hw [] i0 (65534 : Int32) (65535 : Int32)  h0 0 (Nat.zero_le _) ) hZ (hw _ (List.mem_of_getElem? (i := 25) rfl)) (hw _ (List.mem_of_getElem? (i := 18) rfl)) (by decide) (by decide)) (g := (mkF m 142 #[.val (.int i0)] [(.int (65535 : Int32)), (.int (65534 : Int32)), (.int i0)])) rfl (by rw [hml]; rfl) (argsL := [(.int i0), (.int (65534 : Int32)), (.int (65535 : Int32))]) (rest := []) (lenOf pd_3_0 rfl) rfl (by show 2 * 0 + _ ≤ _; exact Nat.le_of_eq rfl) (hb hby d3_142) (fun _ _ => ⟨rfl, e21, hcl, hsl⟩)
                            dsimp only [Pt.U, Pt.locs, Pt.cells, Pt.slots] at X23 l23 y23 z23 st23 hQ23
                            subst l23 y23 z23
                            obtain ⟨rfl, rfl, e23⟩ := hQ23
                            rw [List.append_nil] at X23
                            have pre24 : ∀ target, Steps p.tables e below (T23.setTop (mkF m 145 #[.val (.int i0)] [(.int (own_f4_0 i0 (65534 : Int32) (65535 : Int32)))])) target → Steps p.tables e below (T0.setTop (mkF m 0 #[.val (.int i0)] [])) target := by
                              intro target kt
                              refine pre22 target ?_
                              show Steps p.tables e below (T21.setTop (mkF m 134 #[.val (.int i0)] [(.int (own_f4_0 i0 (64976 : Int32) (65007 : Int32)))])) _
                              refine XS.ifNo X21.here hx rfl (hb hby d3_134) rfl ((if0 _ _).trans (teq hc134).2) ?_
                              show Steps p.tables e below (T21.setTop (mkF m 137 #[.val (.int i0)] [])) _
                              refine XS.iloadN X21.here hx rfl (hb hby d3_137) rfl ?_
                              show Steps p.tables e below (T21.setTop (mkF m 138 #[.val (.int i0)] [(.int i0)])) _
                              refine X21.ldcInt hx hown (mvT hZ (hw _ (List.mem_of_getElem? (i := 30) rfl))) (g := (mkF m 138 #[.val (.int i0)] [(.int i0)])) rfl (hb hby d3_138) _ ?_
                              show Steps p.tables e below (T21.setTop (mkF m 140 #[.val (.int i0)] [(.int (65534 : Int32)), (.int i0)])) _
                              refine X21.ldcInt hx hown (mvT hZ (hw _ (List.mem_of_getElem? (i := 31) rfl))) (g := (mkF m 140 #[.val (.int i0)] [(.int (65534 : Int32)), (.int i0)])) rfl (hb hby d3_140) _ ?_
                              show Steps p.tables e below (T21.setTop (mkF m 142 #[.val (.int i0)] [(.int (65535 : Int32)), (.int (65534 : Int32)), (.int i0)])) _
                              refine st23 _ ?_
                              exact kt
                            by_cases hc145 : (own_f4_0 i0 (65534 : Int32) (65535 : Int32)) = (0 : Int32)
                            · refine ⟨T23, X23, e23, fun fs hr => ?_⟩
                              have hv : (own_f3_0 i0) = (0 : Int32) := by unfold own_f3_0; rw [if_pos hc8, if_neg hc14, if_pos hc26, if_neg hc33, if_neg hc40, if_pos hc53, if_neg hc60, if_pos hc73, if_pos hc86, if_pos hc99, if_pos hc112, if_pos hc123, if_pos hc134, if_pos hc145]
                              rw [hv] at hr
                              refine pre24 _ ?_
                              show Steps p.tables e below (T23.setTop (mkF m 145 #[.val (.int i0)] [(.int (own_f4_0 i0 (65534 : Int32) (65535 : Int32)))])) _
                              refine XS.ifYes X23.here hx rfl (pc0 := 145) (pc' := 152) rfl (hb hby d3_145) rfl ((if0 _ _).trans (teq hc145).1) (by decide) (by decide) ?_
                              show Steps p.tables e below (T23.setTop (mkF m 152 #[.val (.int i0)] [])) _
                              refine XS.iconst X23.here hx rfl (hb hby d3_152) ?_
                              show Steps p.tables e below (T23.setTop (mkF m 153 #[.val (.int i0)] [(.int (0 : Int32))])) _
                              exact retN X23 hx (t := .boolean) hret (by simp) (hb hby d3_153) hr
                            · refine ⟨T23, X23, e23, fun fs hr => ?_⟩
                              have hv : (own_f3_0 i0) = (1 : Int32) := by unfold own_f3_0; rw [if_pos hc8, if_neg hc14, if_pos hc26, if_neg hc33, if_neg hc40, if_pos hc53, if_neg hc60, if_pos hc73, if_pos hc86, if_pos hc99, if_pos hc112, if_pos hc123, if_pos hc134, if_neg hc145]
                              rw [hv] at hr
                              refine pre24 _ ?_
                              show Steps p.tables e below (T23.setTop (mkF m 145 #[.val (.int i0)] [(.int (own_f4_0 i0 (65534 : Int32) (65535 : Int32)))])) _
                              refine XS.ifNo X23.here hx rfl (hb hby d3_145) rfl ((if0 _ _).trans (feq hc145).1) ?_
                              show Steps p.tables e below (T23.setTop (mkF m 148 #[.val (.int i0)] [])) _
                              refine XS.iconst X23.here hx rfl (hb hby d3_148) ?_
                              show Steps p.tables e below (T23.setTop (mkF m 149 #[.val (.int i0)] [(.int (1 : Int32))])) _
                              refine XS.goto X23.here hx rfl (pc0 := 149) (pc' := 153) rfl (hb hby d3_149) (by decide) (by decide) ?_
                              show Steps p.tables e below (T23.setTop (mkF m 153 #[.val (.int i0)] [(.int (1 : Int32))])) _
                              exact retN X23 hx (t := .boolean) hret (by simp) (hb hby d3_153) hr
                          · refine ⟨T21, X21, e21, fun fs hr => ?_⟩
                            have hv : (own_f3_0 i0) = (1 : Int32) := by unfold own_f3_0; rw [if_pos hc8, if_neg hc14, if_pos hc26, if_neg hc33, if_neg hc40, if_pos hc53, if_neg hc60, if_pos hc73, if_pos hc86, if_pos hc99, if_pos hc112, if_pos hc123, if_neg hc134]
                            rw [hv] at hr
                            refine pre22 _ ?_
                            show Steps p.tables e below (T21.setTop (mkF m 134 #[.val (.int i0)] [(.int (own_f4_0 i0 (64976 : Int32) (65007 : Int32)))])) _
                            refine XS.ifYes X21.here hx rfl (pc0 := 134) (pc' := 148) rfl (hb hby d3_134) rfl ((if0 _ _).trans (feq hc134).2) (by decide) (by decide) ?_
                            show Steps p.tables e below (T21.setTop (mkF m 148 #[.val (.int i0)] [])) _
                            refine XS.iconst X21.here hx rfl (hb hby d3_148) ?_
                            show Steps p.tables e below (T21.setTop (mkF m 149 #[.val (.int i0)] [(.int (1 : Int32))])) _
                            refine XS.goto X21.here hx rfl (pc0 := 149) (pc' := 153) rfl (hb hby d3_149) (by decide) (by decide) ?_
                            show Steps p.tables e below (T21.setTop (mkF m 153 #[.val (.int i0)] [(.int (1 : Int32))])) _
                            exact retN X21 hx (t := .boolean) hret (by simp) (hb hby d3_153) hr
                        · refine ⟨T19, X19, e19, fun fs hr => ?_⟩
                          have hv : (own_f3_0 i0) = (1 : Int32) := by unfold own_f3_0; rw [if_pos hc8, if_neg hc14, if_pos hc26, if_neg hc33, if_neg hc40, if_pos hc53, if_neg hc60, if_pos hc73, if_pos hc86, if_pos hc99, if_pos hc112, if_neg hc123]
                          rw [hv] at hr
                          refine pre20 _ ?_
                          show Steps p.tables e below (T19.setTop (mkF m 123 #[.val (.int i0)] [(.int (own_f4_0 i0 (55296 : Int32) (63743 : Int32)))])) _
                          refine XS.ifYes X19.here hx rfl (pc0 := 123) (pc' := 148) rfl (hb hby d3_123) rfl ((if0 _ _).trans (feq hc123).2) (by decide) (by decide) ?_
                          show Steps p.tables e below (T19.setTop (mkF m 148 #[.val (.int i0)] [])) _
                          refine XS.iconst X19.here hx rfl (hb hby d3_148) ?_
                          show Steps p.tables e below (T19.setTop (mkF m 149 #[.val (.int i0)] [(.int (1 : Int32))])) _
                          refine XS.goto X19.here hx rfl (pc0 := 149) (pc' := 153) rfl (hb hby d3_149) (by decide) (by decide) ?_
                          show Steps p.tables e below (T19.setTop (mkF m 153 #[.val (.int i0)] [(.int (1 : Int32))])) _
                          exact retN X19 hx (t := .boolean) hret (by simp) (hb hby d3_153) hr
                      · refine ⟨T17, X17, e17, fun fs hr => ?_⟩
                        have hv : (own_f3_0 i0) = (1 : Int32) := by unfold own_f3_0; rw [if_pos hc8, if_neg hc14, if_pos hc26, if_neg hc33, if_neg hc40, if_pos hc53, if_neg hc60, if_pos hc73, if_pos hc86, if_pos hc99, if_neg hc112]
                        rw [hv] at hr
                        refine pre18 _ ?_
                        show Steps p.tables e below (T17.setTop (mkF m 112 #[.val (.int i0)] [(.int (own_f4_0 i0 (12272 : Int32) (12288 : Int32)))])) _
                        refine XS.ifYes X17.here hx rfl (pc0 := 112) (pc' := 148) rfl (hb hby d3_112) rfl ((if0 _ _).trans (feq hc112).2) (by decide) (by decide) ?_
                        show Steps p.tables e below (T17.setTop (mkF m 148 #[.val (.int i0)] [])) _
                        refine XS.iconst X17.here hx rfl (hb hby d3_148) ?_
                        show Steps p.tables e below (T17.setTop (mkF m 149 #[.val (.int i0)] [(.int (1 : Int32))])) _
                        refine XS.goto X17.here hx rfl (pc0 := 149) (pc' := 153) rfl (hb hby d3_149) (by decide) (by decide) ?_
                        show Steps p.tables e below (T17.setTop (mkF m 153 #[.val (.int i0)] [(.int (1 : Int32))])) _
                        exact retN X17 hx (t := .boolean) hret (by simp) (hb hby d3_153) hr
                    · refine ⟨T15, X15, e15, fun fs hr => ?_⟩
                      have hv : (own_f3_0 i0) = (1 : Int32) := by unfold own_f3_0; rw [if_pos hc8, if_neg hc14, if_pos hc26, if_neg hc33, if_neg hc40, if_pos hc53, if_neg hc60, if_pos hc73, if_pos hc86, if_neg hc99]
                      rw [hv] at hr
                      refine pre16 _ ?_
                      show Steps p.tables e below (T15.setTop (mkF m 99 #[.val (.int i0)] [(.int (own_f4_0 i0 (8592 : Int32) (11263 : Int32)))])) _
                      refine XS.ifYes X15.here hx rfl (pc0 := 99) (pc' := 148) rfl (hb hby d3_99) rfl ((if0 _ _).trans (feq hc99).2) (by decide) (by decide) ?_
                      show Steps p.tables e below (T15.setTop (mkF m 148 #[.val (.int i0)] [])) _
                      refine XS.iconst X15.here hx rfl (hb hby d3_148) ?_
                      show Steps p.tables e below (T15.setTop (mkF m 149 #[.val (.int i0)] [(.int (1 : Int32))])) _
                      refine XS.goto X15.here hx rfl (pc0 := 149) (pc' := 153) rfl (hb hby d3_149) (by decide) (by decide) ?_
                      show Steps p.tables e below (T15.setTop (mkF m 153 #[.val (.int i0)] [(.int (1 : Int32))])) _
                      exact retN X15 hx (t := .boolean) hret (by simp) (hb hby d3_153) hr
                  · refine ⟨T13, X13, e13, fun fs hr => ?_⟩
                    have hv : (own_f3_0 i0) = (1 : Int32) := by unfold own_f3_0; rw [if_pos hc8, if_neg hc14, if_pos hc26, if_neg hc33, if_neg hc40, if_pos hc53, if_neg hc60, if_pos hc73, if_neg hc86]
                    rw [hv] at hr
                    refine pre14 _ ?_
                    show Steps p.tables e below (T13.setTop (mkF m 86 #[.val (.int i0)] [(.int (own_f4_0 i0 (8206 : Int32) (8303 : Int32)))])) _
                    refine XS.ifYes X13.here hx rfl (pc0 := 86) (pc' := 148) rfl (hb hby d3_86) rfl ((if0 _ _).trans (feq hc86).2) (by decide) (by decide) ?_
                    show Steps p.tables e below (T13.setTop (mkF m 148 #[.val (.int i0)] [])) _
                    refine XS.iconst X13.here hx rfl (hb hby d3_148) ?_
                    show Steps p.tables e below (T13.setTop (mkF m 149 #[.val (.int i0)] [(.int (1 : Int32))])) _
                    refine XS.goto X13.here hx rfl (pc0 := 149) (pc' := 153) rfl (hb hby d3_149) (by decide) (by decide) ?_
                    show Steps p.tables e below (T13.setTop (mkF m 153 #[.val (.int i0)] [(.int (1 : Int32))])) _
                    exact retN X13 hx (t := .boolean) hret (by simp) (hb hby d3_153) hr
                · refine ⟨T11, X11, e11, fun fs hr => ?_⟩
                  have hv : (own_f3_0 i0) = (1 : Int32) := by unfold own_f3_0; rw [if_pos hc8, if_neg hc14, if_pos hc26, if_neg hc33, if_neg hc40, if_pos hc53, if_neg hc60, if_neg hc73]
                  rw [hv] at hr
                  refine pre12 _ ?_
                  show Steps p.tables e below (T11.setTop (mkF m 73 #[.val (.int i0)] [(.int (own_f4_0 i0 (8192 : Int32) (8203 : Int32)))])) _
                  refine XS.ifYes X11.here hx rfl (pc0 := 73) (pc' := 148) rfl (hb hby d3_73) rfl ((if0 _ _).trans (feq hc73).2) (by decide) (by decide) ?_
                  show Steps p.tables e below (T11.setTop (mkF m 148 #[.val (.int i0)] [])) _
                  refine XS.iconst X11.here hx rfl (hb hby d3_148) ?_
                  show Steps p.tables e below (T11.setTop (mkF m 149 #[.val (.int i0)] [(.int (1 : Int32))])) _
                  refine XS.goto X11.here hx rfl (pc0 := 149) (pc' := 153) rfl (hb hby d3_149) (by decide) (by decide) ?_
                  show Steps p.tables e below (T11.setTop (mkF m 153 #[.val (.int i0)] [(.int (1 : Int32))])) _
                  exact retN X11 hx (t := .boolean) hret (by simp) (hb hby d3_153) hr
            · refine ⟨T8, X8, e8, fun fs hr => ?_⟩
              have hv : (own_f3_0 i0) = (1 : Int32) := by unfold own_f3_0; rw [if_pos hc8, if_neg hc14, if_pos hc26, if_neg hc33, if_neg hc40, if_neg hc53]
              rw [hv] at hr
              refine pre9 _ ?_
              show Steps p.tables e below (T8.setTop (mkF m 53 #[.val (.int i0)] [(.int (own_f4_0 i0 (768 : Int32) (879 : Int32)))])) _
              refine XS.ifYes X8.here hx rfl (pc0 := 53) (pc' := 148) rfl (hb hby d3_53) rfl ((if0 _ _).trans (feq hc53).2) (by decide) (by decide) ?_
              show Steps p.tables e below (T8.setTop (mkF m 148 #[.val (.int i0)] [])) _
              refine XS.iconst X8.here hx rfl (hb hby d3_148) ?_
              show Steps p.tables e below (T8.setTop (mkF m 149 #[.val (.int i0)] [(.int (1 : Int32))])) _
              refine XS.goto X8.here hx rfl (pc0 := 149) (pc' := 153) rfl (hb hby d3_149) (by decide) (by decide) ?_
              show Steps p.tables e below (T8.setTop (mkF m 153 #[.val (.int i0)] [(.int (1 : Int32))])) _
              exact retN X8 hx (t := .boolean) hret (by simp) (hb hby d3_153) hr
      · refine ⟨T4, X4, e4, fun fs hr => ?_⟩
        have hv : (own_f3_0 i0) = (1 : Int32) := by unfold own_f3_0; rw [if_pos hc8, if_neg hc14, if_neg hc26]
        rw [hv] at hr
        refine pre5 _ ?_
        show Steps p.tables e below (T4.setTop (mkF m 26 #[.val (.int i0)] [(.int (own_f4_0 i0 (123 : Int32) (191 : Int32)))])) _
        refine XS.ifYes X4.here hx rfl (pc0 := 26) (pc' := 148) rfl (hb hby d3_26) rfl ((if0 _ _).trans (feq hc26).2) (by decide) (by decide) ?_
        show Steps p.tables e below (T4.setTop (mkF m 148 #[.val (.int i0)] [])) _
        refine XS.iconst X4.here hx rfl (hb hby d3_148) ?_
        show Steps p.tables e below (T4.setTop (mkF m 149 #[.val (.int i0)] [(.int (1 : Int32))])) _
        refine XS.goto X4.here hx rfl (pc0 := 149) (pc' := 153) rfl (hb hby d3_149) (by decide) (by decide) ?_
        show Steps p.tables e below (T4.setTop (mkF m 153 #[.val (.int i0)] [(.int (1 : Int32))])) _
        exact retN X4 hx (t := .boolean) hret (by simp) (hb hby d3_153) hr
  · refine ⟨T1, X1, e1, fun fs hr => ?_⟩
    have hv : (own_f3_0 i0) = (1 : Int32) := by unfold own_f3_0; rw [if_neg hc8]
    rw [hv] at hr
    refine pre2 _ ?_
    show Steps p.tables e below (T1.setTop (mkF m 8 #[.val (.int i0)] [(.int (own_f4_0 i0 (91 : Int32) (94 : Int32)))])) _
    refine XS.ifYes X1.here hx rfl (pc0 := 8) (pc' := 148) rfl (hb hby d3_8) rfl ((if0 _ _).trans (feq hc8).2) (by decide) (by decide) ?_
    show Steps p.tables e below (T1.setTop (mkF m 148 #[.val (.int i0)] [])) _
    refine XS.iconst X1.here hx rfl (hb hby d3_148) ?_
    show Steps p.tables e below (T1.setTop (mkF m 149 #[.val (.int i0)] [(.int (1 : Int32))])) _
    refine XS.goto X1.here hx rfl (pc0 := 149) (pc' := 153) rfl (hb hby d3_149) (by decide) (by decide) ?_
    show Steps p.tables e below (T1.setTop (mkF m 153 #[.val (.int i0)] [(.int (1 : Int32))])) _
    exact retN X1 hx (t := .boolean) hret (by simp) (hb hby d3_153) hr
def Q3 (Z : State) (i0 : Int32) (h0 : Heap) (n0 : Nat) (v : Option Value) (h : Heap) (L : List Loc) : Prop := v = some (.int (own_f3_0 i0)) ∧ L = [] ∧ h = h0
set_option maxRecDepth 65536 in
set_option maxHeartbeats 40000000 in
theorem rm3 (l : Launch) (Z : State) (a0_ : Array Value) (hw : ∀ d ∈ tables_1, d.before a0_ Z = true) (ws : List Jvm.Cond) (i0 : Int32) (h0 : Heap) (n0 : Nat) (Z0 : n0 ≤ h0.size)  :
    MetFree l (⟨"com/example/saho/saho/text/XmlCharsIsNcNameStartCharPinLaw", "gap", "(I)Z"⟩ : MethodName) (head1 (Jvm.Cond.code (⟨"com/example/saho/saho/text/XmlCharsIsNcNameStartCharPinLaw", "gap", "(I)Z"⟩ : MethodName) method_3_code 1 (some .boolean) :: ws) ({ frames := 1, cells := 0, slots := 0, locals := 14 } : Room)) (fun a U => a = #[(.int i0)] ∧ Z.Warmed39 U.vm ∧ U.heap = h0) (fun _ _ _ _ _ => True) (fun _ U o U' => ∃ v L, o = .returned v ∧ Q3 Z i0 h0 n0 v U'.heap L ∧ FrameEnd U o U' L ({ frames := 1, cells := 0, slots := 0, locals := 14 } : Room).cells ({ frames := 1, cells := 0, slots := 0, locals := 14 } : Room).slots) := by
  refine MetFree.of_bodySF (plainFor_of_name pn_3) hisR ?_
  intro p e s m args below meth c s₁ Bd hml0 hP hK
  obtain ⟨rfl, hZ, hh⟩ := hP
  have hx := Bd.exec
  have hby := Bd.bytes
  have hml : c.maxLocals = 1 := hml0
  have hown : s.vm.findClass "com/example/saho/saho/text/XmlCharsIsNcNameStartCharPinLaw" = some m.cls := findClass_of_methodNamed Bd.named
  have X0 : Stand p l e ({ frames := 1, cells := 0, slots := 0, locals := 14 } : Room) s m #[(.int i0)] below meth c s₁ [] 0 0 := Stand.of_body Bd
  have e0 : s₁.heap = h0 := by rw [← hh, Bd.state]; rfl
  obtain ⟨T', X', e', st'⟩ := own_b3_0 hx hZ hw hby hml hown Bd.returns  i0 X0 e0 (by decide) (by decide) 
  obtain ⟨fs, hr, hrun, hended, hW, hsame⟩ := X'.leave (v := some (.int (own_f3_0 i0))) (fun h => by rw [Bd.returns] at h; cases h)
  refine ⟨_, _, castTop (ef_3 m i0) (st' fs hr), hrun, hended, _, _, rfl, ?_, ⟨_, rfl⟩, hW, hsame.mono (by decide) (by decide)⟩
  exact ⟨rfl, rfl, e'⟩
theorem d2_0 : decode method_4_code 0 = .ok (.iload_n 0, 1) := by decide +kernel
theorem d2_1 : decode method_4_code 1 = .ok (.bipush 65, 2) := by decide +kernel
theorem d2_3 : decode method_4_code 3 = .ok (.if_icmp .ge 5, 3) := by decide +kernel
theorem d2_6 : decode method_4_code 6 = .ok (.iconst 0, 1) := by decide +kernel
theorem d2_7 : decode method_4_code 7 = .ok (.ireturn, 1) := by decide +kernel
theorem d2_8 : decode method_4_code 8 = .ok (.iload_n 0, 1) := by decide +kernel
theorem d2_9 : decode method_4_code 9 = .ok (.ldc 19, 2) := by decide +kernel
theorem d2_11 : decode method_4_code 11 = .ok (.if_icmp .le 5, 3) := by decide +kernel
theorem d2_14 : decode method_4_code 14 = .ok (.iconst 0, 1) := by decide +kernel
theorem d2_15 : decode method_4_code 15 = .ok (.ireturn, 1) := by decide +kernel
theorem d2_16 : decode method_4_code 16 = .ok (.iload_n 0, 1) := by decide +kernel
theorem d2_17 : decode method_4_code 17 = .ok (.invokestatic 20, 3) := by decide +kernel
theorem d2_20 : decode method_4_code 20 = .ok (.ifCond .ne 7, 3) := by decide +kernel
theorem d2_23 : decode method_4_code 23 = .ok (.iconst 1, 1) := by decide +kernel
theorem d2_24 : decode method_4_code 24 = .ok (.goto 4, 3) := by decide +kernel
theorem d2_27 : decode method_4_code 27 = .ok (.iconst 0, 1) := by decide +kernel
theorem d2_28 : decode method_4_code 28 = .ok (.ireturn, 1) := by decide +kernel
theorem pn_2 : plainName "com/example/saho/saho/text/XmlCharsIsNcNameStartCharPinLaw" = true := by first | (simp [plainName, overriddenIn]; done) | decide +kernel
theorem pd_2_0 : parseMethodDescriptor "(I)Z" = some ⟨[.int], some .boolean⟩ := by decide +kernel
theorem ef_2 (m : MethodId) (i0 : Int32) : entryFrame m #[(.int i0)] 1 = mkF m 0 #[.val (.int i0)] [] := by first | (simp [entryFrame, mkF, argsToLocals, Value.category]; done) | rfl
def own_f2_0 (i0 : Int32) : Int32 :=
  (if i0 < (65 : Int32) then (0 : Int32) else (if (983039 : Int32) < i0 then (0 : Int32) else (if (own_f3_0 i0) = (0 : Int32) then (1 : Int32) else (0 : Int32))))
set_option maxRecDepth 65536 in
set_option maxHeartbeats 40000000 in
theorem own_b2_0 {p : Program} {l : Launch} {e : Env} {s : State} {m : MethodId} {args : Array Value} {below : List Frame} {meth : Method} {c : Code} {Z : State} {a0_ : Array Value} (hx : p.tables.exec = Jvm.exec) (hZ : Z.Warmed39 s.vm) (hw : ∀ d ∈ tables_1, d.before a0_ Z = true) (hby : c.code = method_4_code) (hml : c.maxLocals = 1) (hown : s.vm.findClass "com/example/saho/saho/text/XmlCharsIsNcNameStartCharPinLaw" = some m.cls) (hret : meth.sig.returnType = some .boolean) {T0 : State} {locs : List Loc} {cells slots : Nat} {h0 : Heap} (i0 : Int32)
    (X0 : Stand p l e ({ frames := 2, cells := 0, slots := 0, locals := 26 } : Room) s m args below meth c T0 locs cells slots) (e0 : T0.heap = h0) (hcl : cells ≤ ({ frames := 2, cells := 0, slots := 0, locals := 26 } : Room).cells) (hsl : slots ≤ ({ frames := 2, cells := 0, slots := 0, locals := 26 } : Room).slots)  :
    ∃ T', Stand p l e ({ frames := 2, cells := 0, slots := 0, locals := 26 } : Room) s m args below meth c T' locs cells slots ∧ T'.heap = h0 ∧ ∀ fs, (∀ (f : JFrame) (acts : List Action), f.method = m → f.locked = none → f.entered = [] → (doReturn e (T'.setTop f) acts (some (.int (own_f2_0 i0)))).1 = T'.setFrames fs) → Steps p.tables e below (T0.setTop (mkF m 0 #[.val (.int i0)] [])) (T'.setFrames fs) := by
  have pre1 : ∀ target, Steps p.tables e below (T0.setTop (mkF m 3 #[.val (.int i0)] [(.int (65 : Int32)), (.int i0)])) target → Steps p.tables e below (T0.setTop (mkF m 0 #[.val (.int i0)] [])) target := by
    intro target kt
    show Steps p.tables e below (T0.setTop (mkF m 0 #[.val (.int i0)] [])) _
    refine XS.iloadN X0.here hx rfl (hb hby d2_0) rfl ?_
    show Steps p.tables e below (T0.setTop (mkF m 1 #[.val (.int i0)] [(.int i0)])) _
    refine XS.bipush X0.here hx rfl (hb hby d2_1) ?_
    exact kt
  by_cases hc3 : i0 < (65 : Int32)
  · refine ⟨T0, X0, e0, fun fs hr => ?_⟩
    have hv : (own_f2_0 i0) = (0 : Int32) := by unfold own_f2_0; rw [if_pos hc3]
    rw [hv] at hr
    refine pre1 _ ?_
    show Steps p.tables e below (T0.setTop (mkF m 3 #[.val (.int i0)] [(.int (65 : Int32)), (.int i0)])) _
    refine XS.icmpNo X0.here hx rfl (hb hby d2_3) rfl (tlt hc3).2.1 ?_
    show Steps p.tables e below (T0.setTop (mkF m 6 #[.val (.int i0)] [])) _
    refine XS.iconst X0.here hx rfl (hb hby d2_6) ?_
    show Steps p.tables e below (T0.setTop (mkF m 7 #[.val (.int i0)] [(.int (0 : Int32))])) _
    exact retN X0 hx (t := .boolean) hret (by simp) (hb hby d2_7) hr
  · have pre2 : ∀ target, Steps p.tables e below (T0.setTop (mkF m 11 #[.val (.int i0)] [(.int (983039 : Int32)), (.int i0)])) target → Steps p.tables e below (T0.setTop (mkF m 0 #[.val (.int i0)] [])) target := by
      intro target kt
      refine pre1 target ?_
      show Steps p.tables e below (T0.setTop (mkF m 3 #[.val (.int i0)] [(.int (65 : Int32)), (.int i0)])) _
      refine XS.icmpYes X0.here hx rfl (pc0 := 3) (pc' := 8) rfl (hb hby d2_3) rfl (flt hc3).2.1 (by decide) (by decide) ?_
      show Steps p.tables e below (T0.setTop (mkF m 8 #[.val (.int i0)] [])) _
      refine XS.iloadN X0.here hx rfl (hb hby d2_8) rfl ?_
      show Steps p.tables e below (T0.setTop (mkF m 9 #[.val (.int i0)] [(.int i0)])) _
      refine X0.ldcInt hx hown (mvT hZ (hw _ (List.mem_of_getElem? (i := 7) rfl))) (g := (mkF m 9 #[.val (.int i0)] [(.int i0)])) rfl (hb hby d2_9) _ ?_
      exact kt
    by_cases hc11 : (983039 : Int32) < i0
    · refine ⟨T0, X0, e0, fun fs hr => ?_⟩
      have hv : (own_f2_0 i0) = (0 : Int32) := by unfold own_f2_0; rw [if_neg hc3, if_pos hc11]
      rw [hv] at hr
      refine pre2 _ ?_
      show Steps p.tables e below (T0.setTop (mkF m 11 #[.val (.int i0)] [(.int (983039 : Int32)), (.int i0)])) _
      refine XS.icmpNo X0.here hx rfl (hb hby d2_11) rfl (tlt hc11).2.2.2 ?_
      show Steps p.tables e below (T0.setTop (mkF m 14 #[.val (.int i0)] [])) _
      refine XS.iconst X0.here hx rfl (hb hby d2_14) ?_
      show Steps p.tables e below (T0.setTop (mkF m 15 #[.val (.int i0)] [(.int (0 : Int32))])) _
      exact retN X0 hx (t := .boolean) hret (by simp) (hb hby d2_15) hr
    · obtain ⟨_, _, ⟨T3, L3, k3, n3⟩, -, X3, ⟨Lc3, hQ3, l3, y3, z3⟩, st3⟩ := Jvm.LawKit.callS X0 hx (y := (⟨"com/example/saho/saho/text/XmlCharsIsNcNameStartCharPinLaw", "gap", "(I)Z"⟩ : MethodName)) hown (mvT hZ (hw _ (List.mem_of_getElem? (i := 20) rfl))) (mvT hZ (hw _ (List.mem_of_getElem? (i := 21) rfl))) (mvT hZ (hw _ (List.mem_of_getElem? (i := 18) rfl))) (mvT hZ (hw _ (List.mem_of_getElem? (i := 22) rfl))) (by decide) (backOf (W := 0) (rm3 l Z a0_ hw [] i0  h0 0 (Nat.zero_le _) ) hZ (hw _ (List.mem_of_getElem? (i := 22) rfl)) (hw _ (List.mem_of_getElem? (i := 18) rfl)) (by decide) (by decide)) (g := (mkF m 17 #[.val (.int i0)] [(.int i0)])) rfl (by rw [hml]; rfl) (argsL := [(.int i0)]) (rest := []) (lenOf pd_2_0 rfl) rfl (by show 2 * 0 + _ ≤ _; exact Nat.le_of_eq rfl) (hb hby d2_17) (fun _ _ => ⟨rfl, e0, hcl, hsl⟩)
      dsimp only [Pt.U, Pt.locs, Pt.cells, Pt.slots] at X3 l3 y3 z3 st3 hQ3
      subst l3 y3 z3
      obtain ⟨rfl, rfl, e3⟩ := hQ3
      rw [List.append_nil] at X3
      have pre4 : ∀ target, Steps p.tables e below (T3.setTop (mkF m 20 #[.val (.int i0)] [(.int (own_f3_0 i0))])) target → Steps p.tables e below (T0.setTop (mkF m 0 #[.val (.int i0)] [])) target := by
        intro target kt
        refine pre2 target ?_
        show Steps p.tables e below (T0.setTop (mkF m 11 #[.val (.int i0)] [(.int (983039 : Int32)), (.int i0)])) _
        refine XS.icmpYes X0.here hx rfl (pc0 := 11) (pc' := 16) rfl (hb hby d2_11) rfl (flt hc11).2.2.2 (by decide) (by decide) ?_
        show Steps p.tables e below (T0.setTop (mkF m 16 #[.val (.int i0)] [])) _
        refine XS.iloadN X0.here hx rfl (hb hby d2_16) rfl ?_
        show Steps p.tables e below (T0.setTop (mkF m 17 #[.val (.int i0)] [(.int i0)])) _
        refine st3 _ ?_
        exact kt
      by_cases hc20 : (own_f3_0 i0) = (0 : Int32)
      · refine ⟨T3, X3, e3, fun fs hr => ?_⟩
        have hv : (own_f2_0 i0) = (1 : Int32) := by unfold own_f2_0; rw [if_neg hc3, if_neg hc11, if_pos hc20]
        rw [hv] at hr
        refine pre4 _ ?_
        show Steps p.tables e below (T3.setTop (mkF m 20 #[.val (.int i0)] [(.int (own_f3_0 i0))])) _
        refine XS.ifNo X3.here hx rfl (hb hby d2_20) rfl ((if0 _ _).trans (teq hc20).2) ?_
        show Steps p.tables e below (T3.setTop (mkF m 23 #[.val (.int i0)] [])) _
        refine XS.iconst X3.here hx rfl (hb hby d2_23) ?_
        show Steps p.tables e below (T3.setTop (mkF m 24 #[.val (.int i0)] [(.int (1 : Int32))])) _
        refine XS.goto X3.here hx rfl (pc0 := 24) (pc' := 28) rfl (hb hby d2_24) (by decide) (by decide) ?_
        show Steps p.tables e below (T3.setTop (mkF m 28 #[.val (.int i0)] [(.int (1 : Int32))])) _
        exact retN X3 hx (t := .boolean) hret (by simp) (hb hby d2_28) hr
      · refine ⟨T3, X3, e3, fun fs hr => ?_⟩
        have hv : (own_f2_0 i0) = (0 : Int32) := by unfold own_f2_0; rw [if_neg hc3, if_neg hc11, if_neg hc20]
        rw [hv] at hr
        refine pre4 _ ?_
        show Steps p.tables e below (T3.setTop (mkF m 20 #[.val (.int i0)] [(.int (own_f3_0 i0))])) _
        refine XS.ifYes X3.here hx rfl (pc0 := 20) (pc' := 27) rfl (hb hby d2_20) rfl ((if0 _ _).trans (feq hc20).2) (by decide) (by decide) ?_
        show Steps p.tables e below (T3.setTop (mkF m 27 #[.val (.int i0)] [])) _
        refine XS.iconst X3.here hx rfl (hb hby d2_27) ?_
        show Steps p.tables e below (T3.setTop (mkF m 28 #[.val (.int i0)] [(.int (0 : Int32))])) _
        exact retN X3 hx (t := .boolean) hret (by simp) (hb hby d2_28) hr
def Q2 (Z : State) (i0 : Int32) (h0 : Heap) (n0 : Nat) (v : Option Value) (h : Heap) (L : List Loc) : Prop := v = some (.int (own_f2_0 i0)) ∧ L = [] ∧ h = h0
set_option maxRecDepth 65536 in
set_option maxHeartbeats 40000000 in
theorem rm2 (l : Launch) (Z : State) (a0_ : Array Value) (hw : ∀ d ∈ tables_1, d.before a0_ Z = true) (ws : List Jvm.Cond) (i0 : Int32) (h0 : Heap) (n0 : Nat) (Z0 : n0 ≤ h0.size)  :
    MetFree l (⟨"com/example/saho/saho/text/XmlCharsIsNcNameStartCharPinLaw", "ref", "(I)Z"⟩ : MethodName) (head1 (Jvm.Cond.code (⟨"com/example/saho/saho/text/XmlCharsIsNcNameStartCharPinLaw", "ref", "(I)Z"⟩ : MethodName) method_4_code 1 (some .boolean) :: ws) ({ frames := 2, cells := 0, slots := 0, locals := 26 } : Room)) (fun a U => a = #[(.int i0)] ∧ Z.Warmed39 U.vm ∧ U.heap = h0) (fun _ _ _ _ _ => True) (fun _ U o U' => ∃ v L, o = .returned v ∧ Q2 Z i0 h0 n0 v U'.heap L ∧ FrameEnd U o U' L ({ frames := 2, cells := 0, slots := 0, locals := 26 } : Room).cells ({ frames := 2, cells := 0, slots := 0, locals := 26 } : Room).slots) := by
  refine MetFree.of_bodySF (plainFor_of_name pn_2) hisR ?_
  intro p e s m args below meth c s₁ Bd hml0 hP hK
  obtain ⟨rfl, hZ, hh⟩ := hP
  have hx := Bd.exec
  have hby := Bd.bytes
  have hml : c.maxLocals = 1 := hml0
  have hown : s.vm.findClass "com/example/saho/saho/text/XmlCharsIsNcNameStartCharPinLaw" = some m.cls := findClass_of_methodNamed Bd.named
  have X0 : Stand p l e ({ frames := 2, cells := 0, slots := 0, locals := 26 } : Room) s m #[(.int i0)] below meth c s₁ [] 0 0 := Stand.of_body Bd
  have e0 : s₁.heap = h0 := by rw [← hh, Bd.state]; rfl
  obtain ⟨T', X', e', st'⟩ := own_b2_0 hx hZ hw hby hml hown Bd.returns  i0 X0 e0 (by decide) (by decide) 
  obtain ⟨fs, hr, hrun, hended, hW, hsame⟩ := X'.leave (v := some (.int (own_f2_0 i0))) (fun h => by rw [Bd.returns] at h; cases h)
  refine ⟨_, _, castTop (ef_2 m i0) (st' fs hr), hrun, hended, _, _, rfl, ?_, ⟨_, rfl⟩, hW, hsame.mono (by decide) (by decide)⟩
  exact ⟨rfl, rfl, e'⟩
theorem pn_0 : plainName "com/example/saho/saho/text/XmlCharsIsNcNameStartCharPinLaw" = true := by first | (simp [plainName, overriddenIn]; done) | decide +kernel
theorem pd_0_0 : parseMethodDescriptor "(I)Z" = some ⟨[.int], some .boolean⟩ := by decide +kernel
theorem ef_0 (m : MethodId) (i0 : Int32) (i1 : Int32) (i2 : Int32) : entryFrame m #[(.int i0), (.int i1), (.int i2)] maxLocals = mkF m 0 #[.val (.int i0), .val (.int i1), .val (.int i2), .unset, .unset, .unset, .unset, .unset, .unset] [] := by first | (simp [entryFrame, mkF, argsToLocals, Value.category, maxLocals]; done) | rfl
def own_f0_260 (i0 : Int32) (i1 : Int32) (i2 : Int32) (i4 : Int32) (i5 : Int32) (i6 : Int32) (i7 : Int32) (u0 : Int32) : Int32 :=
  (if i7 = (0 : Int32) then (0 : Int32) else (if u0 = (0 : Int32) then (0 : Int32) else (1 : Int32)))
def own_f0_240 (i0 : Int32) (i1 : Int32) (i2 : Int32) (i4 : Int32) (i5 : Int32) (i6 : Int32) (u0 : Int32) : Int32 :=
  (if (own_f1_0 i6) = (own_f2_0 i6) then (own_f0_260 i0 i1 i2 i4 i5 i6 u0 (1 : Int32)) else (own_f0_260 i0 i1 i2 i4 i5 i6 u0 (0 : Int32)))
def own_f0_195 (i0 : Int32) (i1 : Int32) (i2 : Int32) (A_b0 : Nat → Int32) : Int32 :=
  (if (own_f1_0 i0) = (own_f2_0 i0) then (own_f0_240 i0 i1 i2 ((i1 &&& (2147483647 : Int32)) - ((i1 &&& (2147483647 : Int32)) / (30 : Int32)) * (30 : Int32)) (((i2 &&& (2147483647 : Int32)) - ((i2 &&& (2147483647 : Int32)) / (3 : Int32)) * (3 : Int32)) - (1 : Int32)) ((A_b0 ((i1 &&& (2147483647 : Int32)) - ((i1 &&& (2147483647 : Int32)) / (30 : Int32)) * (30 : Int32)).toNatClampNeg) + (((i2 &&& (2147483647 : Int32)) - ((i2 &&& (2147483647 : Int32)) / (3 : Int32)) * (3 : Int32)) - (1 : Int32))) (1 : Int32)) else (own_f0_240 i0 i1 i2 ((i1 &&& (2147483647 : Int32)) - ((i1 &&& (2147483647 : Int32)) / (30 : Int32)) * (30 : Int32)) (((i2 &&& (2147483647 : Int32)) - ((i2 &&& (2147483647 : Int32)) / (3 : Int32)) * (3 : Int32)) - (1 : Int32)) ((A_b0 ((i1 &&& (2147483647 : Int32)) - ((i1 &&& (2147483647 : Int32)) / (30 : Int32)) * (30 : Int32)).toNatClampNeg) + (((i2 &&& (2147483647 : Int32)) - ((i2 &&& (2147483647 : Int32)) / (3 : Int32)) * (3 : Int32)) - (1 : Int32))) (0 : Int32)))
def own_f0_165 (i0 : Int32) (i1 : Int32) (i2 : Int32) (A_b0 : Nat → Int32) : Int32 :=
  (own_f0_195 i0 i1 i2 (own_up (own_up (own_up (own_up (own_up A_b0 (25 : Int32).toNatClampNeg (64975 : Int32)) (26 : Int32).toNatClampNeg (65008 : Int32)) (27 : Int32).toNatClampNeg (65533 : Int32)) (28 : Int32).toNatClampNeg (65536 : Int32)) (29 : Int32).toNatClampNeg (983039 : Int32)))
def own_f0_132 (i0 : Int32) (i1 : Int32) (i2 : Int32) (A_b0 : Nat → Int32) : Int32 :=
  (own_f0_165 i0 i1 i2 (own_up (own_up (own_up (own_up (own_up A_b0 (20 : Int32).toNatClampNeg (11264 : Int32)) (21 : Int32).toNatClampNeg (12271 : Int32)) (22 : Int32).toNatClampNeg (12289 : Int32)) (23 : Int32).toNatClampNeg (55295 : Int32)) (24 : Int32).toNatClampNeg (63744 : Int32)))
def own_f0_97 (i0 : Int32) (i1 : Int32) (i2 : Int32) (A_b0 : Nat → Int32) : Int32 :=
  (own_f0_132 i0 i1 i2 (own_up (own_up (own_up (own_up (own_up A_b0 (15 : Int32).toNatClampNeg (8191 : Int32)) (16 : Int32).toNatClampNeg (8204 : Int32)) (17 : Int32).toNatClampNeg (8205 : Int32)) (18 : Int32).toNatClampNeg (8304 : Int32)) (19 : Int32).toNatClampNeg (8591 : Int32)))
def own_f0_62 (i0 : Int32) (i1 : Int32) (i2 : Int32) (A_b0 : Nat → Int32) : Int32 :=
  (own_f0_97 i0 i1 i2 (own_up (own_up (own_up (own_up (own_up A_b0 (10 : Int32).toNatClampNeg (248 : Int32)) (11 : Int32).toNatClampNeg (767 : Int32)) (12 : Int32).toNatClampNeg (880 : Int32)) (13 : Int32).toNatClampNeg (893 : Int32)) (14 : Int32).toNatClampNeg (895 : Int32)))
def own_f0_29 (i0 : Int32) (i1 : Int32) (i2 : Int32) (A_b0 : Nat → Int32) : Int32 :=
  (own_f0_62 i0 i1 i2 (own_up (own_up (own_up (own_up (own_up A_b0 (5 : Int32).toNatClampNeg (122 : Int32)) (6 : Int32).toNatClampNeg (192 : Int32)) (7 : Int32).toNatClampNeg (214 : Int32)) (8 : Int32).toNatClampNeg (216 : Int32)) (9 : Int32).toNatClampNeg (246 : Int32)))
def own_f0_0 (i0 : Int32) (i1 : Int32) (i2 : Int32) : Int32 :=
  (own_f0_29 i0 i1 i2 (own_up (own_up (own_up (own_up (own_up (fun _ => 0) (0 : Int32).toNatClampNeg (58 : Int32)) (1 : Int32).toNatClampNeg (65 : Int32)) (2 : Int32).toNatClampNeg (90 : Int32)) (3 : Int32).toNatClampNeg (95 : Int32)) (4 : Int32).toNatClampNeg (97 : Int32)))
set_option maxRecDepth 65536 in
set_option maxHeartbeats 40000000 in
theorem own_b0_260 {p : Program} {l : Launch} {e : Env} {s : State} {m : MethodId} {args : Array Value} {below : List Frame} {meth : Method} {c : Code} {Z : State} {a0_ : Array Value} {n0 : Nat} (hx : p.tables.exec = Jvm.exec) (hZ : Z.Warmed39 s.vm) (hw : ∀ d ∈ tables_1, d.before a0_ Z = true) (hby : c.code = code) (hml : c.maxLocals = 9) (hown : s.vm.findClass "com/example/saho/saho/text/XmlCharsIsNcNameStartCharPinLaw" = some m.cls) (hret : meth.sig.returnType = some .boolean) {T0 : State} {locs : List Loc} {h0 : Heap} (i0 : Int32) (i1 : Int32) (i2 : Int32) (a3 : Addr) (i4 : Int32) (i5 : Int32) (i6 : Int32) (i7 : Int32) (u0 : Int32)
    (X0 : Stand p l e room_1 s m args below meth c T0 locs 1 30) (e0 : T0.heap = h0) (N0 : Fr n0 locs) (Z0 : n0 ≤ h0.size) (g_a3 : n0 ≤ a3) :
    ∃ T' locs' cells' slots', Stand p l e room_1 s m args below meth c T' locs' cells' slots' ∧ Fr n0 locs' ∧ cells' ≤ room_1.cells ∧ slots' ≤ room_1.slots ∧ ∀ fs, (∀ (f : JFrame) (acts : List Action), f.method = m → f.locked = none → f.entered = [] → (doReturn e (T'.setTop f) acts (some (.int (own_f0_260 i0 i1 i2 i4 i5 i6 i7 u0)))).1 = T'.setFrames fs) → Steps p.tables e below (T0.setTop (mkF m 260 #[.val (.int i0), .val (.int i1), .val (.int i2), .val (.ref a3), .val (.int i4), .val (.int i5), .val (.int i6), .val (.int i7), .unset] [(.int u0)])) (T'.setFrames fs) := by
  have pre1 : ∀ target, Steps p.tables e below (T0.setTop (mkF m 264 #[.val (.int i0), .val (.int i1), .val (.int i2), .val (.ref a3), .val (.int i4), .val (.int i5), .val (.int i6), .val (.int i7), .val (.int u0)] [(.int i7)])) target → Steps p.tables e below (T0.setTop (mkF m 260 #[.val (.int i0), .val (.int i1), .val (.int i2), .val (.ref a3), .val (.int i4), .val (.int i5), .val (.int i6), .val (.int i7), .unset] [(.int u0)])) target := by
    intro target kt
    show Steps p.tables e below (T0.setTop (mkF m 260 #[.val (.int i0), .val (.int i1), .val (.int i2), .val (.ref a3), .val (.int i4), .val (.int i5), .val (.int i6), .val (.int i7), .unset] [(.int u0)])) _
    refine XS.istore X0.here hx rfl (hb hby at_260) rfl (l' := #[.val (.int i0), .val (.int i1), .val (.int i2), .val (.ref a3), .val (.int i4), .val (.int i5), .val (.int i6), .val (.int i7), .val (.int u0)]) rfl ?_
    show Steps p.tables e below (T0.setTop (mkF m 262 #[.val (.int i0), .val (.int i1), .val (.int i2), .val (.ref a3), .val (.int i4), .val (.int i5), .val (.int i6), .val (.int i7), .val (.int u0)] [])) _
    refine XS.iload X0.here hx rfl (hb hby at_262) rfl ?_
    exact kt
  by_cases hc264 : i7 = (0 : Int32)
  · refine ⟨T0, _, _, _, X0, N0, (by decide), (by decide), fun fs hr => ?_⟩
    have hv : (own_f0_260 i0 i1 i2 i4 i5 i6 i7 u0) = (0 : Int32) := by unfold own_f0_260; rw [if_pos hc264]
    rw [hv] at hr
    refine pre1 _ ?_
    show Steps p.tables e below (T0.setTop (mkF m 264 #[.val (.int i0), .val (.int i1), .val (.int i2), .val (.ref a3), .val (.int i4), .val (.int i5), .val (.int i6), .val (.int i7), .val (.int u0)] [(.int i7)])) _
    refine XS.ifYes X0.here hx rfl (pc0 := 264) (pc' := 276) rfl (hb hby at_264) rfl ((if0 _ _).trans (teq hc264).1) (by decide) (by decide) ?_
    show Steps p.tables e below (T0.setTop (mkF m 276 #[.val (.int i0), .val (.int i1), .val (.int i2), .val (.ref a3), .val (.int i4), .val (.int i5), .val (.int i6), .val (.int i7), .val (.int u0)] [])) _
    refine XS.iconst X0.here hx rfl (hb hby at_276) ?_
    show Steps p.tables e below (T0.setTop (mkF m 277 #[.val (.int i0), .val (.int i1), .val (.int i2), .val (.ref a3), .val (.int i4), .val (.int i5), .val (.int i6), .val (.int i7), .val (.int u0)] [(.int (0 : Int32))])) _
    exact retN X0 hx (t := .boolean) hret (by simp) (hb hby at_277) hr
  · have pre2 : ∀ target, Steps p.tables e below (T0.setTop (mkF m 269 #[.val (.int i0), .val (.int i1), .val (.int i2), .val (.ref a3), .val (.int i4), .val (.int i5), .val (.int i6), .val (.int i7), .val (.int u0)] [(.int u0)])) target → Steps p.tables e below (T0.setTop (mkF m 260 #[.val (.int i0), .val (.int i1), .val (.int i2), .val (.ref a3), .val (.int i4), .val (.int i5), .val (.int i6), .val (.int i7), .unset] [(.int u0)])) target := by
      intro target kt
      refine pre1 target ?_
      show Steps p.tables e below (T0.setTop (mkF m 264 #[.val (.int i0), .val (.int i1), .val (.int i2), .val (.ref a3), .val (.int i4), .val (.int i5), .val (.int i6), .val (.int i7), .val (.int u0)] [(.int i7)])) _
      refine XS.ifNo X0.here hx rfl (hb hby at_264) rfl ((if0 _ _).trans (feq hc264).1) ?_
      show Steps p.tables e below (T0.setTop (mkF m 267 #[.val (.int i0), .val (.int i1), .val (.int i2), .val (.ref a3), .val (.int i4), .val (.int i5), .val (.int i6), .val (.int i7), .val (.int u0)] [])) _
      refine XS.iload X0.here hx rfl (hb hby at_267) rfl ?_
      exact kt
    by_cases hc269 : u0 = (0 : Int32)
    · refine ⟨T0, _, _, _, X0, N0, (by decide), (by decide), fun fs hr => ?_⟩
      have hv : (own_f0_260 i0 i1 i2 i4 i5 i6 i7 u0) = (0 : Int32) := by unfold own_f0_260; rw [if_neg hc264, if_pos hc269]
      rw [hv] at hr
      refine pre2 _ ?_
      show Steps p.tables e below (T0.setTop (mkF m 269 #[.val (.int i0), .val (.int i1), .val (.int i2), .val (.ref a3), .val (.int i4), .val (.int i5), .val (.int i6), .val (.int i7), .val (.int u0)] [(.int u0)])) _
      refine XS.ifYes X0.here hx rfl (pc0 := 269) (pc' := 276) rfl (hb hby at_269) rfl ((if0 _ _).trans (teq hc269).1) (by decide) (by decide) ?_
      show Steps p.tables e below (T0.setTop (mkF m 276 #[.val (.int i0), .val (.int i1), .val (.int i2), .val (.ref a3), .val (.int i4), .val (.int i5), .val (.int i6), .val (.int i7), .val (.int u0)] [])) _
      refine XS.iconst X0.here hx rfl (hb hby at_276) ?_
      show Steps p.tables e below (T0.setTop (mkF m 277 #[.val (.int i0), .val (.int i1), .val (.int i2), .val (.ref a3), .val (.int i4), .val (.int i5), .val (.int i6), .val (.int i7), .val (.int u0)] [(.int (0 : Int32))])) _
      exact retN X0 hx (t := .boolean) hret (by simp) (hb hby at_277) hr
    · refine ⟨T0, _, _, _, X0, N0, (by decide), (by decide), fun fs hr => ?_⟩
      have hv : (own_f0_260 i0 i1 i2 i4 i5 i6 i7 u0) = (1 : Int32) := by unfold own_f0_260; rw [if_neg hc264, if_neg hc269]
      rw [hv] at hr
      refine pre2 _ ?_
      show Steps p.tables e below (T0.setTop (mkF m 269 #[.val (.int i0), .val (.int i1), .val (.int i2), .val (.ref a3), .val (.int i4), .val (.int i5), .val (.int i6), .val (.int i7), .val (.int u0)] [(.int u0)])) _
      refine XS.ifNo X0.here hx rfl (hb hby at_269) rfl ((if0 _ _).trans (feq hc269).1) ?_
      show Steps p.tables e below (T0.setTop (mkF m 272 #[.val (.int i0), .val (.int i1), .val (.int i2), .val (.ref a3), .val (.int i4), .val (.int i5), .val (.int i6), .val (.int i7), .val (.int u0)] [])) _
      refine XS.iconst X0.here hx rfl (hb hby at_272) ?_
      show Steps p.tables e below (T0.setTop (mkF m 273 #[.val (.int i0), .val (.int i1), .val (.int i2), .val (.ref a3), .val (.int i4), .val (.int i5), .val (.int i6), .val (.int i7), .val (.int u0)] [(.int (1 : Int32))])) _
      refine XS.goto X0.here hx rfl (pc0 := 273) (pc' := 277) rfl (hb hby at_273) (by decide) (by decide) ?_
      show Steps p.tables e below (T0.setTop (mkF m 277 #[.val (.int i0), .val (.int i1), .val (.int i2), .val (.ref a3), .val (.int i4), .val (.int i5), .val (.int i6), .val (.int i7), .val (.int u0)] [(.int (1 : Int32))])) _
      exact retN X0 hx (t := .boolean) hret (by simp) (hb hby at_277) hr
set_option maxRecDepth 65536 in
set_option maxHeartbeats 40000000 in
theorem own_b0_240 {p : Program} {l : Launch} {e : Env} {s : State} {m : MethodId} {args : Array Value} {below : List Frame} {meth : Method} {c : Code} {Z : State} {a0_ : Array Value} {n0 : Nat} (hx : p.tables.exec = Jvm.exec) (hZ : Z.Warmed39 s.vm) (hw : ∀ d ∈ tables_1, d.before a0_ Z = true) (hby : c.code = code) (hml : c.maxLocals = 9) (hown : s.vm.findClass "com/example/saho/saho/text/XmlCharsIsNcNameStartCharPinLaw" = some m.cls) (hret : meth.sig.returnType = some .boolean) {T0 : State} {locs : List Loc} {h0 : Heap} (i0 : Int32) (i1 : Int32) (i2 : Int32) (a3 : Addr) (i4 : Int32) (i5 : Int32) (i6 : Int32) (u0 : Int32)
    (X0 : Stand p l e room_1 s m args below meth c T0 locs 1 30) (e0 : T0.heap = h0) (N0 : Fr n0 locs) (Z0 : n0 ≤ h0.size) (g_a3 : n0 ≤ a3) :
    ∃ T' locs' cells' slots', Stand p l e room_1 s m args below meth c T' locs' cells' slots' ∧ Fr n0 locs' ∧ cells' ≤ room_1.cells ∧ slots' ≤ room_1.slots ∧ ∀ fs, (∀ (f : JFrame) (acts : List Action), f.method = m → f.locked = none → f.entered = [] → (doReturn e (T'.setTop f) acts (some (.int (own_f0_240 i0 i1 i2 i4 i5 i6 u0)))).1 = T'.setFrames fs) → Steps p.tables e below (T0.setTop (mkF m 240 #[.val (.int i0), .val (.int i1), .val (.int i2), .val (.ref a3), .val (.int i4), .val (.int i5), .val (.int i6), .unset, .unset] [(.int u0)])) (T'.setFrames fs) := by
  obtain ⟨_, _, ⟨T1, L1, k1, n1⟩, -, X1, ⟨Lc1, hQ1, l1, y1, z1⟩, st1⟩ := Jvm.LawKit.callS X0 hx (y := (⟨"com/example/saho/saho/text/XmlChars", "isNcNameStartChar", "(I)Z"⟩ : MethodName)) hown (mvT hZ (hw _ (List.mem_of_getElem? (i := 9) rfl))) (mvT hZ (hw _ (List.mem_of_getElem? (i := 10) rfl))) (mvT hZ (hw _ (List.mem_of_getElem? (i := 11) rfl))) (mvT hZ (hw _ (List.mem_of_getElem? (i := 12) rfl))) (by decide) (backOf (W := 0) (rm1 l Z a0_ hw [] i6  h0 n0 Z0 ) hZ (hw _ (List.mem_of_getElem? (i := 12) rfl)) (hw _ (List.mem_of_getElem? (i := 11) rfl)) (by decide) (by decide)) (g := (mkF m 244 #[.val (.int i0), .val (.int i1), .val (.int i2), .val (.ref a3), .val (.int i4), .val (.int i5), .val (.int i6), .val (.int u0), .unset] [(.int i6)])) rfl (by rw [hml]; rfl) (argsL := [(.int i6)]) (rest := []) (lenOf pd_0_0 rfl) rfl (by show 2 * 0 + _ ≤ _; exact Nat.le_of_eq rfl) (hb hby at_244) (fun _ _ => ⟨rfl, e0, (by decide : 1 + 0 ≤ room_1.cells), (by decide : 30 + 0 ≤ room_1.slots)⟩)
  dsimp only [Pt.U, Pt.locs, Pt.cells, Pt.slots] at X1 l1 y1 z1 st1 hQ1
  subst l1 y1 z1
  obtain ⟨rfl, rfl, e1⟩ := hQ1
  rw [List.append_nil] at X1
  obtain ⟨_, _, ⟨T2, L2, k2, n2⟩, -, X2, ⟨Lc2, hQ2, l2, y2, z2⟩, st2⟩ := Jvm.LawKit.callS X1 hx (y := (⟨"com/example/saho/saho/text/XmlCharsIsNcNameStartCharPinLaw", "ref", "(I)Z"⟩ : MethodName)) hown (mvT hZ (hw _ (List.mem_of_getElem? (i := 16) rfl))) (mvT hZ (hw _ (List.mem_of_getElem? (i := 17) rfl))) (mvT hZ (hw _ (List.mem_of_getElem? (i := 18) rfl))) (mvT hZ (hw _ (List.mem_of_getElem? (i := 19) rfl))) (by decide) (backOf (W := 1) (rm2 l Z a0_ hw [] i6  h0 n0 Z0 ) hZ (hw _ (List.mem_of_getElem? (i := 19) rfl)) (hw _ (List.mem_of_getElem? (i := 18) rfl)) (by decide) (by decide)) (g := (mkF m 249 #[.val (.int i0), .val (.int i1), .val (.int i2), .val (.ref a3), .val (.int i4), .val (.int i5), .val (.int i6), .val (.int u0), .unset] [(.int i6), (.int (own_f1_0 i6))])) rfl (by rw [hml]; rfl) (argsL := [(.int i6)]) (rest := [(.int (own_f1_0 i6))]) (lenOf pd_0_0 rfl) rfl (by show 2 * 0 + _ ≤ _; exact Nat.le_of_eq rfl) (hb hby at_249) (fun _ _ => ⟨rfl, e1, (by decide : 1 + 0 ≤ room_1.cells), (by decide : 30 + 0 ≤ room_1.slots)⟩)
  dsimp only [Pt.U, Pt.locs, Pt.cells, Pt.slots] at X2 l2 y2 z2 st2 hQ2
  subst l2 y2 z2
  obtain ⟨rfl, rfl, e2⟩ := hQ2
  rw [List.append_nil] at X2
  have pre3 : ∀ target, Steps p.tables e below (T2.setTop (mkF m 252 #[.val (.int i0), .val (.int i1), .val (.int i2), .val (.ref a3), .val (.int i4), .val (.int i5), .val (.int i6), .val (.int u0), .unset] [(.int (own_f2_0 i6)), (.int (own_f1_0 i6))])) target → Steps p.tables e below (T0.setTop (mkF m 240 #[.val (.int i0), .val (.int i1), .val (.int i2), .val (.ref a3), .val (.int i4), .val (.int i5), .val (.int i6), .unset, .unset] [(.int u0)])) target := by
    intro target kt
    show Steps p.tables e below (T0.setTop (mkF m 240 #[.val (.int i0), .val (.int i1), .val (.int i2), .val (.ref a3), .val (.int i4), .val (.int i5), .val (.int i6), .unset, .unset] [(.int u0)])) _
    refine XS.istore X0.here hx rfl (hb hby at_240) rfl (l' := #[.val (.int i0), .val (.int i1), .val (.int i2), .val (.ref a3), .val (.int i4), .val (.int i5), .val (.int i6), .val (.int u0), .unset]) rfl ?_
    show Steps p.tables e below (T0.setTop (mkF m 242 #[.val (.int i0), .val (.int i1), .val (.int i2), .val (.ref a3), .val (.int i4), .val (.int i5), .val (.int i6), .val (.int u0), .unset] [])) _
    refine XS.iload X0.here hx rfl (hb hby at_242) rfl ?_
    show Steps p.tables e below (T0.setTop (mkF m 244 #[.val (.int i0), .val (.int i1), .val (.int i2), .val (.ref a3), .val (.int i4), .val (.int i5), .val (.int i6), .val (.int u0), .unset] [(.int i6)])) _
    refine st1 _ ?_
    show Steps p.tables e below (T1.setTop (mkF m 247 #[.val (.int i0), .val (.int i1), .val (.int i2), .val (.ref a3), .val (.int i4), .val (.int i5), .val (.int i6), .val (.int u0), .unset] [(.int (own_f1_0 i6))])) _
    refine XS.iload X1.here hx rfl (hb hby at_247) rfl ?_
    show Steps p.tables e below (T1.setTop (mkF m 249 #[.val (.int i0), .val (.int i1), .val (.int i2), .val (.ref a3), .val (.int i4), .val (.int i5), .val (.int i6), .val (.int u0), .unset] [(.int i6), (.int (own_f1_0 i6))])) _
    refine st2 _ ?_
    exact kt
  by_cases hc252 : (own_f1_0 i6) = (own_f2_0 i6)
  · have pre4 : ∀ target, Steps p.tables e below (T2.setTop (mkF m 260 #[.val (.int i0), .val (.int i1), .val (.int i2), .val (.ref a3), .val (.int i4), .val (.int i5), .val (.int i6), .val (.int u0), .unset] [(.int (1 : Int32))])) target → Steps p.tables e below (T0.setTop (mkF m 240 #[.val (.int i0), .val (.int i1), .val (.int i2), .val (.ref a3), .val (.int i4), .val (.int i5), .val (.int i6), .unset, .unset] [(.int u0)])) target := by
      intro target kt
      refine pre3 target ?_
      show Steps p.tables e below (T2.setTop (mkF m 252 #[.val (.int i0), .val (.int i1), .val (.int i2), .val (.ref a3), .val (.int i4), .val (.int i5), .val (.int i6), .val (.int u0), .unset] [(.int (own_f2_0 i6)), (.int (own_f1_0 i6))])) _
      refine XS.icmpNo X2.here hx rfl (hb hby at_252) rfl (teq hc252).2 ?_
      show Steps p.tables e below (T2.setTop (mkF m 255 #[.val (.int i0), .val (.int i1), .val (.int i2), .val (.ref a3), .val (.int i4), .val (.int i5), .val (.int i6), .val (.int u0), .unset] [])) _
      refine XS.iconst X2.here hx rfl (hb hby at_255) ?_
      show Steps p.tables e below (T2.setTop (mkF m 256 #[.val (.int i0), .val (.int i1), .val (.int i2), .val (.ref a3), .val (.int i4), .val (.int i5), .val (.int i6), .val (.int u0), .unset] [(.int (1 : Int32))])) _
      refine XS.goto X2.here hx rfl (pc0 := 256) (pc' := 260) rfl (hb hby at_256) (by decide) (by decide) ?_
      exact kt
    obtain ⟨T5, L5, k5, n5, X5, N5, hk5', hn5, st5⟩ := own_b0_260 hx hZ hw hby hml hown hret i0 i1 i2 a3 i4 i5 i6 u0 (1 : Int32)  X2 e2 N0 Z0 g_a3 
    have hv : (own_f0_240 i0 i1 i2 i4 i5 i6 u0) = (own_f0_260 i0 i1 i2 i4 i5 i6 u0 (1 : Int32)) := by unfold own_f0_240; rw [if_pos hc252]
    exact ⟨T5, L5, k5, n5, X5, N5, hk5', hn5, fun fs hr => pre4 _ (st5 fs (by rw [hv] at hr; exact hr))⟩
  · have pre6 : ∀ target, Steps p.tables e below (T2.setTop (mkF m 260 #[.val (.int i0), .val (.int i1), .val (.int i2), .val (.ref a3), .val (.int i4), .val (.int i5), .val (.int i6), .val (.int u0), .unset] [(.int (0 : Int32))])) target → Steps p.tables e below (T0.setTop (mkF m 240 #[.val (.int i0), .val (.int i1), .val (.int i2), .val (.ref a3), .val (.int i4), .val (.int i5), .val (.int i6), .unset, .unset] [(.int u0)])) target := by
      intro target kt
      refine pre3 target ?_
      show Steps p.tables e below (T2.setTop (mkF m 252 #[.val (.int i0), .val (.int i1), .val (.int i2), .val (.ref a3), .val (.int i4), .val (.int i5), .val (.int i6), .val (.int u0), .unset] [(.int (own_f2_0 i6)), (.int (own_f1_0 i6))])) _
      refine XS.icmpYes X2.here hx rfl (pc0 := 252) (pc' := 259) rfl (hb hby at_252) rfl (feq hc252).2 (by decide) (by decide) ?_
      show Steps p.tables e below (T2.setTop (mkF m 259 #[.val (.int i0), .val (.int i1), .val (.int i2), .val (.ref a3), .val (.int i4), .val (.int i5), .val (.int i6), .val (.int u0), .unset] [])) _
      refine XS.iconst X2.here hx rfl (hb hby at_259) ?_
      exact kt
    obtain ⟨T7, L7, k7, n7, X7, N7, hk7', hn7, st7⟩ := own_b0_260 hx hZ hw hby hml hown hret i0 i1 i2 a3 i4 i5 i6 u0 (0 : Int32)  X2 e2 N0 Z0 g_a3 
    have hv : (own_f0_240 i0 i1 i2 i4 i5 i6 u0) = (own_f0_260 i0 i1 i2 i4 i5 i6 u0 (0 : Int32)) := by unfold own_f0_240; rw [if_neg hc252]
    exact ⟨T7, L7, k7, n7, X7, N7, hk7', hn7, fun fs hr => pre6 _ (st7 fs (by rw [hv] at hr; exact hr))⟩
set_option maxRecDepth 65536 in
set_option maxHeartbeats 40000000 in
theorem own_b0_195 {p : Program} {l : Launch} {e : Env} {s : State} {m : MethodId} {args : Array Value} {below : List Frame} {meth : Method} {c : Code} {Z : State} {a0_ : Array Value} {n0 : Nat} (hx : p.tables.exec = Jvm.exec) (hZ : Z.Warmed39 s.vm) (hw : ∀ d ∈ tables_1, d.before a0_ Z = true) (hby : c.code = code) (hml : c.maxLocals = 9) (hown : s.vm.findClass "com/example/saho/saho/text/XmlCharsIsNcNameStartCharPinLaw" = some m.cls) (hret : meth.sig.returnType = some .boolean) {T0 : State} {locs : List Loc} {h0 : Heap} (i0 : Int32) (i1 : Int32) (i2 : Int32) (b0 : Addr) (A_b0 : Nat → Int32)
    (X0 : Stand p l e room_1 s m args below meth c T0 locs 1 30) (e0 : T0.heap = h0) (N0 : Fr n0 locs) (Z0 : n0 ≤ h0.size) (g_b0 : n0 ≤ b0) (V_b0 : own_Ar Z h0 b0 .int (30 : Int32) A_b0) :
    ∃ T' locs' cells' slots', Stand p l e room_1 s m args below meth c T' locs' cells' slots' ∧ Fr n0 locs' ∧ cells' ≤ room_1.cells ∧ slots' ≤ room_1.slots ∧ ∀ fs, (∀ (f : JFrame) (acts : List Action), f.method = m → f.locked = none → f.entered = [] → (doReturn e (T'.setTop f) acts (some (.int (own_f0_195 i0 i1 i2 A_b0)))).1 = T'.setFrames fs) → Steps p.tables e below (T0.setTop (mkF m 195 #[.val (.int i0), .val (.int i1), .val (.int i2), .unset, .unset, .unset, .unset, .unset, .unset] [(.ref b0)])) (T'.setFrames fs) := by
  have hix218 : ¬ ((i1 &&& (2147483647 : Int32)) - ((i1 &&& (2147483647 : Int32)) / (30 : Int32)) * (30 : Int32)) < 0 ∧ ((i1 &&& (2147483647 : Int32)) - ((i1 &&& (2147483647 : Int32)) / (30 : Int32)) * (30 : Int32)) < (30 : Int32) := by exact own_ix _
  obtain ⟨_, _, ⟨T1, L1, k1, n1⟩, -, X1, ⟨Lc1, hQ1, l1, y1, z1⟩, st1⟩ := Jvm.LawKit.callS X0 hx (y := (⟨"com/example/saho/saho/text/XmlChars", "isNcNameStartChar", "(I)Z"⟩ : MethodName)) hown (mvT hZ (hw _ (List.mem_of_getElem? (i := 9) rfl))) (mvT hZ (hw _ (List.mem_of_getElem? (i := 10) rfl))) (mvT hZ (hw _ (List.mem_of_getElem? (i := 11) rfl))) (mvT hZ (hw _ (List.mem_of_getElem? (i := 12) rfl))) (by decide) (backOf (W := 0) (rm1 l Z a0_ hw [] i0  h0 n0 Z0 ) hZ (hw _ (List.mem_of_getElem? (i := 12) rfl)) (hw _ (List.mem_of_getElem? (i := 11) rfl)) (by decide) (by decide)) (g := (mkF m 225 #[.val (.int i0), .val (.int i1), .val (.int i2), .val (.ref b0), .val (.int ((i1 &&& (2147483647 : Int32)) - ((i1 &&& (2147483647 : Int32)) / (30 : Int32)) * (30 : Int32))), .val (.int (((i2 &&& (2147483647 : Int32)) - ((i2 &&& (2147483647 : Int32)) / (3 : Int32)) * (3 : Int32)) - (1 : Int32))), .val (.int ((A_b0 ((i1 &&& (2147483647 : Int32)) - ((i1 &&& (2147483647 : Int32)) / (30 : Int32)) * (30 : Int32)).toNatClampNeg) + (((i2 &&& (2147483647 : Int32)) - ((i2 &&& (2147483647 : Int32)) / (3 : Int32)) * (3 : Int32)) - (1 : Int32)))), .unset, .unset] [(.int i0)])) rfl (by rw [hml]; rfl) (argsL := [(.int i0)]) (rest := []) (lenOf pd_0_0 rfl) rfl (by show 2 * 0 + _ ≤ _; exact Nat.le_of_eq rfl) (hb hby at_225) (fun _ _ => ⟨rfl, e0, (by decide : 1 + 0 ≤ room_1.cells), (by decide : 30 + 0 ≤ room_1.slots)⟩)
  dsimp only [Pt.U, Pt.locs, Pt.cells, Pt.slots] at X1 l1 y1 z1 st1 hQ1
  subst l1 y1 z1
  obtain ⟨rfl, rfl, e1⟩ := hQ1
  rw [List.append_nil] at X1
  obtain ⟨_, _, ⟨T2, L2, k2, n2⟩, -, X2, ⟨Lc2, hQ2, l2, y2, z2⟩, st2⟩ := Jvm.LawKit.callS X1 hx (y := (⟨"com/example/saho/saho/text/XmlCharsIsNcNameStartCharPinLaw", "ref", "(I)Z"⟩ : MethodName)) hown (mvT hZ (hw _ (List.mem_of_getElem? (i := 16) rfl))) (mvT hZ (hw _ (List.mem_of_getElem? (i := 17) rfl))) (mvT hZ (hw _ (List.mem_of_getElem? (i := 18) rfl))) (mvT hZ (hw _ (List.mem_of_getElem? (i := 19) rfl))) (by decide) (backOf (W := 1) (rm2 l Z a0_ hw [] i0  h0 n0 Z0 ) hZ (hw _ (List.mem_of_getElem? (i := 19) rfl)) (hw _ (List.mem_of_getElem? (i := 18) rfl)) (by decide) (by decide)) (g := (mkF m 229 #[.val (.int i0), .val (.int i1), .val (.int i2), .val (.ref b0), .val (.int ((i1 &&& (2147483647 : Int32)) - ((i1 &&& (2147483647 : Int32)) / (30 : Int32)) * (30 : Int32))), .val (.int (((i2 &&& (2147483647 : Int32)) - ((i2 &&& (2147483647 : Int32)) / (3 : Int32)) * (3 : Int32)) - (1 : Int32))), .val (.int ((A_b0 ((i1 &&& (2147483647 : Int32)) - ((i1 &&& (2147483647 : Int32)) / (30 : Int32)) * (30 : Int32)).toNatClampNeg) + (((i2 &&& (2147483647 : Int32)) - ((i2 &&& (2147483647 : Int32)) / (3 : Int32)) * (3 : Int32)) - (1 : Int32)))), .unset, .unset] [(.int i0), (.int (own_f1_0 i0))])) rfl (by rw [hml]; rfl) (argsL := [(.int i0)]) (rest := [(.int (own_f1_0 i0))]) (lenOf pd_0_0 rfl) rfl (by show 2 * 0 + _ ≤ _; exact Nat.le_of_eq rfl) (hb hby at_229) (fun _ _ => ⟨rfl, e1, (by decide : 1 + 0 ≤ room_1.cells), (by decide : 30 + 0 ≤ room_1.slots)⟩)
  dsimp only [Pt.U, Pt.locs, Pt.cells, Pt.slots] at X2 l2 y2 z2 st2 hQ2
  subst l2 y2 z2
  obtain ⟨rfl, rfl, e2⟩ := hQ2
  rw [List.append_nil] at X2
  have pre3 : ∀ target, Steps p.tables e below (T2.setTop (mkF m 232 #[.val (.int i0), .val (.int i1), .val (.int i2), .val (.ref b0), .val (.int ((i1 &&& (2147483647 : Int32)) - ((i1 &&& (2147483647 : Int32)) / (30 : Int32)) * (30 : Int32))), .val (.int (((i2 &&& (2147483647 : Int32)) - ((i2 &&& (2147483647 : Int32)) / (3 : Int32)) * (3 : Int32)) - (1 : Int32))), .val (.int ((A_b0 ((i1 &&& (2147483647 : Int32)) - ((i1 &&& (2147483647 : Int32)) / (30 : Int32)) * (30 : Int32)).toNatClampNeg) + (((i2 &&& (2147483647 : Int32)) - ((i2 &&& (2147483647 : Int32)) / (3 : Int32)) * (3 : Int32)) - (1 : Int32)))), .unset, .unset] [(.int (own_f2_0 i0)), (.int (own_f1_0 i0))])) target → Steps p.tables e below (T0.setTop (mkF m 195 #[.val (.int i0), .val (.int i1), .val (.int i2), .unset, .unset, .unset, .unset, .unset, .unset] [(.ref b0)])) target := by
    intro target kt
    show Steps p.tables e below (T0.setTop (mkF m 195 #[.val (.int i0), .val (.int i1), .val (.int i2), .unset, .unset, .unset, .unset, .unset, .unset] [(.ref b0)])) _
    refine XS.astoreN X0.here hx rfl (hb hby at_195) rfl rfl (l' := #[.val (.int i0), .val (.int i1), .val (.int i2), .val (.ref b0), .unset, .unset, .unset, .unset, .unset]) rfl ?_
    show Steps p.tables e below (T0.setTop (mkF m 196 #[.val (.int i0), .val (.int i1), .val (.int i2), .val (.ref b0), .unset, .unset, .unset, .unset, .unset] [])) _
    refine XS.iloadN X0.here hx rfl (hb hby at_196) rfl ?_
    show Steps p.tables e below (T0.setTop (mkF m 197 #[.val (.int i0), .val (.int i1), .val (.int i2), .val (.ref b0), .unset, .unset, .unset, .unset, .unset] [(.int i1)])) _
    refine X0.ldcInt hx hown (mvT hZ (hw _ (List.mem_of_getElem? (i := 8) rfl))) (g := (mkF m 197 #[.val (.int i0), .val (.int i1), .val (.int i2), .val (.ref b0), .unset, .unset, .unset, .unset, .unset] [(.int i1)])) rfl (hb hby at_197) _ ?_
    show Steps p.tables e below (T0.setTop (mkF m 199 #[.val (.int i0), .val (.int i1), .val (.int i2), .val (.ref b0), .unset, .unset, .unset, .unset, .unset] [(.int (2147483647 : Int32)), (.int i1)])) _
    refine XS.iand X0.here hx rfl (hb hby at_199) rfl ?_
    show Steps p.tables e below (T0.setTop (mkF m 200 #[.val (.int i0), .val (.int i1), .val (.int i2), .val (.ref b0), .unset, .unset, .unset, .unset, .unset] [(.int (i1 &&& (2147483647 : Int32)))])) _
    refine XS.aloadN X0.here hx rfl (hb hby at_200) rfl rfl ?_
    show Steps p.tables e below (T0.setTop (mkF m 201 #[.val (.int i0), .val (.int i1), .val (.int i2), .val (.ref b0), .unset, .unset, .unset, .unset, .unset] [(.ref b0), (.int (i1 &&& (2147483647 : Int32)))])) _
    refine own_alen X0 hx hZ e0 V_b0 (g := (mkF m 201 #[.val (.int i0), .val (.int i1), .val (.int i2), .val (.ref b0), .unset, .unset, .unset, .unset, .unset] [(.ref b0), (.int (i1 &&& (2147483647 : Int32)))])) rfl rfl (hb hby at_201) _ ?_
    show Steps p.tables e below (T0.setTop (mkF m 202 #[.val (.int i0), .val (.int i1), .val (.int i2), .val (.ref b0), .unset, .unset, .unset, .unset, .unset] [(.int (30 : Int32)), (.int (i1 &&& (2147483647 : Int32)))])) _
    refine XS.irem X0.here hx rfl (hb hby at_202) rfl (by decide) ?_
    show Steps p.tables e below (T0.setTop (mkF m 203 #[.val (.int i0), .val (.int i1), .val (.int i2), .val (.ref b0), .unset, .unset, .unset, .unset, .unset] [(.int ((i1 &&& (2147483647 : Int32)) - ((i1 &&& (2147483647 : Int32)) / (30 : Int32)) * (30 : Int32)))])) _
    refine XS.istore X0.here hx rfl (hb hby at_203) rfl (l' := #[.val (.int i0), .val (.int i1), .val (.int i2), .val (.ref b0), .val (.int ((i1 &&& (2147483647 : Int32)) - ((i1 &&& (2147483647 : Int32)) / (30 : Int32)) * (30 : Int32))), .unset, .unset, .unset, .unset]) rfl ?_
    show Steps p.tables e below (T0.setTop (mkF m 205 #[.val (.int i0), .val (.int i1), .val (.int i2), .val (.ref b0), .val (.int ((i1 &&& (2147483647 : Int32)) - ((i1 &&& (2147483647 : Int32)) / (30 : Int32)) * (30 : Int32))), .unset, .unset, .unset, .unset] [])) _
    refine XS.iloadN X0.here hx rfl (hb hby at_205) rfl ?_
    show Steps p.tables e below (T0.setTop (mkF m 206 #[.val (.int i0), .val (.int i1), .val (.int i2), .val (.ref b0), .val (.int ((i1 &&& (2147483647 : Int32)) - ((i1 &&& (2147483647 : Int32)) / (30 : Int32)) * (30 : Int32))), .unset, .unset, .unset, .unset] [(.int i2)])) _
    refine X0.ldcInt hx hown (mvT hZ (hw _ (List.mem_of_getElem? (i := 8) rfl))) (g := (mkF m 206 #[.val (.int i0), .val (.int i1), .val (.int i2), .val (.ref b0), .val (.int ((i1 &&& (2147483647 : Int32)) - ((i1 &&& (2147483647 : Int32)) / (30 : Int32)) * (30 : Int32))), .unset, .unset, .unset, .unset] [(.int i2)])) rfl (hb hby at_206) _ ?_
    show Steps p.tables e below (T0.setTop (mkF m 208 #[.val (.int i0), .val (.int i1), .val (.int i2), .val (.ref b0), .val (.int ((i1 &&& (2147483647 : Int32)) - ((i1 &&& (2147483647 : Int32)) / (30 : Int32)) * (30 : Int32))), .unset, .unset, .unset, .unset] [(.int (2147483647 : Int32)), (.int i2)])) _
    refine XS.iand X0.here hx rfl (hb hby at_208) rfl ?_
    show Steps p.tables e below (T0.setTop (mkF m 209 #[.val (.int i0), .val (.int i1), .val (.int i2), .val (.ref b0), .val (.int ((i1 &&& (2147483647 : Int32)) - ((i1 &&& (2147483647 : Int32)) / (30 : Int32)) * (30 : Int32))), .unset, .unset, .unset, .unset] [(.int (i2 &&& (2147483647 : Int32)))])) _
    refine XS.iconst X0.here hx rfl (hb hby at_209) ?_
    show Steps p.tables e below (T0.setTop (mkF m 210 #[.val (.int i0), .val (.int i1), .val (.int i2), .val (.ref b0), .val (.int ((i1 &&& (2147483647 : Int32)) - ((i1 &&& (2147483647 : Int32)) / (30 : Int32)) * (30 : Int32))), .unset, .unset, .unset, .unset] [(.int (3 : Int32)), (.int (i2 &&& (2147483647 : Int32)))])) _
    refine XS.irem X0.here hx rfl (hb hby at_210) rfl (by decide) ?_
    show Steps p.tables e below (T0.setTop (mkF m 211 #[.val (.int i0), .val (.int i1), .val (.int i2), .val (.ref b0), .val (.int ((i1 &&& (2147483647 : Int32)) - ((i1 &&& (2147483647 : Int32)) / (30 : Int32)) * (30 : Int32))), .unset, .unset, .unset, .unset] [(.int ((i2 &&& (2147483647 : Int32)) - ((i2 &&& (2147483647 : Int32)) / (3 : Int32)) * (3 : Int32)))])) _
    refine XS.iconst X0.here hx rfl (hb hby at_211) ?_
    show Steps p.tables e below (T0.setTop (mkF m 212 #[.val (.int i0), .val (.int i1), .val (.int i2), .val (.ref b0), .val (.int ((i1 &&& (2147483647 : Int32)) - ((i1 &&& (2147483647 : Int32)) / (30 : Int32)) * (30 : Int32))), .unset, .unset, .unset, .unset] [(.int (1 : Int32)), (.int ((i2 &&& (2147483647 : Int32)) - ((i2 &&& (2147483647 : Int32)) / (3 : Int32)) * (3 : Int32)))])) _
    refine XS.isub X0.here hx rfl (hb hby at_212) rfl ?_
    show Steps p.tables e below (T0.setTop (mkF m 213 #[.val (.int i0), .val (.int i1), .val (.int i2), .val (.ref b0), .val (.int ((i1 &&& (2147483647 : Int32)) - ((i1 &&& (2147483647 : Int32)) / (30 : Int32)) * (30 : Int32))), .unset, .unset, .unset, .unset] [(.int (((i2 &&& (2147483647 : Int32)) - ((i2 &&& (2147483647 : Int32)) / (3 : Int32)) * (3 : Int32)) - (1 : Int32)))])) _
    refine XS.istore X0.here hx rfl (hb hby at_213) rfl (l' := #[.val (.int i0), .val (.int i1), .val (.int i2), .val (.ref b0), .val (.int ((i1 &&& (2147483647 : Int32)) - ((i1 &&& (2147483647 : Int32)) / (30 : Int32)) * (30 : Int32))), .val (.int (((i2 &&& (2147483647 : Int32)) - ((i2 &&& (2147483647 : Int32)) / (3 : Int32)) * (3 : Int32)) - (1 : Int32))), .unset, .unset, .unset]) rfl ?_
    show Steps p.tables e below (T0.setTop (mkF m 215 #[.val (.int i0), .val (.int i1), .val (.int i2), .val (.ref b0), .val (.int ((i1 &&& (2147483647 : Int32)) - ((i1 &&& (2147483647 : Int32)) / (30 : Int32)) * (30 : Int32))), .val (.int (((i2 &&& (2147483647 : Int32)) - ((i2 &&& (2147483647 : Int32)) / (3 : Int32)) * (3 : Int32)) - (1 : Int32))), .unset, .unset, .unset] [])) _
    refine XS.aloadN X0.here hx rfl (hb hby at_215) rfl rfl ?_
    show Steps p.tables e below (T0.setTop (mkF m 216 #[.val (.int i0), .val (.int i1), .val (.int i2), .val (.ref b0), .val (.int ((i1 &&& (2147483647 : Int32)) - ((i1 &&& (2147483647 : Int32)) / (30 : Int32)) * (30 : Int32))), .val (.int (((i2 &&& (2147483647 : Int32)) - ((i2 &&& (2147483647 : Int32)) / (3 : Int32)) * (3 : Int32)) - (1 : Int32))), .unset, .unset, .unset] [(.ref b0)])) _
    refine XS.iload X0.here hx rfl (hb hby at_216) rfl ?_
    show Steps p.tables e below (T0.setTop (mkF m 218 #[.val (.int i0), .val (.int i1), .val (.int i2), .val (.ref b0), .val (.int ((i1 &&& (2147483647 : Int32)) - ((i1 &&& (2147483647 : Int32)) / (30 : Int32)) * (30 : Int32))), .val (.int (((i2 &&& (2147483647 : Int32)) - ((i2 &&& (2147483647 : Int32)) / (3 : Int32)) * (3 : Int32)) - (1 : Int32))), .unset, .unset, .unset] [(.int ((i1 &&& (2147483647 : Int32)) - ((i1 &&& (2147483647 : Int32)) / (30 : Int32)) * (30 : Int32))), (.ref b0)])) _
    refine own_ldI X0 hx hZ e0 V_b0 hix218 (g := (mkF m 218 #[.val (.int i0), .val (.int i1), .val (.int i2), .val (.ref b0), .val (.int ((i1 &&& (2147483647 : Int32)) - ((i1 &&& (2147483647 : Int32)) / (30 : Int32)) * (30 : Int32))), .val (.int (((i2 &&& (2147483647 : Int32)) - ((i2 &&& (2147483647 : Int32)) / (3 : Int32)) * (3 : Int32)) - (1 : Int32))), .unset, .unset, .unset] [(.int ((i1 &&& (2147483647 : Int32)) - ((i1 &&& (2147483647 : Int32)) / (30 : Int32)) * (30 : Int32))), (.ref b0)])) rfl rfl (hb hby at_218) _ ?_
    show Steps p.tables e below (T0.setTop (mkF m 219 #[.val (.int i0), .val (.int i1), .val (.int i2), .val (.ref b0), .val (.int ((i1 &&& (2147483647 : Int32)) - ((i1 &&& (2147483647 : Int32)) / (30 : Int32)) * (30 : Int32))), .val (.int (((i2 &&& (2147483647 : Int32)) - ((i2 &&& (2147483647 : Int32)) / (3 : Int32)) * (3 : Int32)) - (1 : Int32))), .unset, .unset, .unset] [(.int (A_b0 ((i1 &&& (2147483647 : Int32)) - ((i1 &&& (2147483647 : Int32)) / (30 : Int32)) * (30 : Int32)).toNatClampNeg))])) _
    refine XS.iload X0.here hx rfl (hb hby at_219) rfl ?_
    show Steps p.tables e below (T0.setTop (mkF m 221 #[.val (.int i0), .val (.int i1), .val (.int i2), .val (.ref b0), .val (.int ((i1 &&& (2147483647 : Int32)) - ((i1 &&& (2147483647 : Int32)) / (30 : Int32)) * (30 : Int32))), .val (.int (((i2 &&& (2147483647 : Int32)) - ((i2 &&& (2147483647 : Int32)) / (3 : Int32)) * (3 : Int32)) - (1 : Int32))), .unset, .unset, .unset] [(.int (((i2 &&& (2147483647 : Int32)) - ((i2 &&& (2147483647 : Int32)) / (3 : Int32)) * (3 : Int32)) - (1 : Int32))), (.int (A_b0 ((i1 &&& (2147483647 : Int32)) - ((i1 &&& (2147483647 : Int32)) / (30 : Int32)) * (30 : Int32)).toNatClampNeg))])) _
    refine XS.iadd X0.here hx rfl (hb hby at_221) rfl ?_
    show Steps p.tables e below (T0.setTop (mkF m 222 #[.val (.int i0), .val (.int i1), .val (.int i2), .val (.ref b0), .val (.int ((i1 &&& (2147483647 : Int32)) - ((i1 &&& (2147483647 : Int32)) / (30 : Int32)) * (30 : Int32))), .val (.int (((i2 &&& (2147483647 : Int32)) - ((i2 &&& (2147483647 : Int32)) / (3 : Int32)) * (3 : Int32)) - (1 : Int32))), .unset, .unset, .unset] [(.int ((A_b0 ((i1 &&& (2147483647 : Int32)) - ((i1 &&& (2147483647 : Int32)) / (30 : Int32)) * (30 : Int32)).toNatClampNeg) + (((i2 &&& (2147483647 : Int32)) - ((i2 &&& (2147483647 : Int32)) / (3 : Int32)) * (3 : Int32)) - (1 : Int32))))])) _
    refine XS.istore X0.here hx rfl (hb hby at_222) rfl (l' := #[.val (.int i0), .val (.int i1), .val (.int i2), .val (.ref b0), .val (.int ((i1 &&& (2147483647 : Int32)) - ((i1 &&& (2147483647 : Int32)) / (30 : Int32)) * (30 : Int32))), .val (.int (((i2 &&& (2147483647 : Int32)) - ((i2 &&& (2147483647 : Int32)) / (3 : Int32)) * (3 : Int32)) - (1 : Int32))), .val (.int ((A_b0 ((i1 &&& (2147483647 : Int32)) - ((i1 &&& (2147483647 : Int32)) / (30 : Int32)) * (30 : Int32)).toNatClampNeg) + (((i2 &&& (2147483647 : Int32)) - ((i2 &&& (2147483647 : Int32)) / (3 : Int32)) * (3 : Int32)) - (1 : Int32)))), .unset, .unset]) rfl ?_
    show Steps p.tables e below (T0.setTop (mkF m 224 #[.val (.int i0), .val (.int i1), .val (.int i2), .val (.ref b0), .val (.int ((i1 &&& (2147483647 : Int32)) - ((i1 &&& (2147483647 : Int32)) / (30 : Int32)) * (30 : Int32))), .val (.int (((i2 &&& (2147483647 : Int32)) - ((i2 &&& (2147483647 : Int32)) / (3 : Int32)) * (3 : Int32)) - (1 : Int32))), .val (.int ((A_b0 ((i1 &&& (2147483647 : Int32)) - ((i1 &&& (2147483647 : Int32)) / (30 : Int32)) * (30 : Int32)).toNatClampNeg) + (((i2 &&& (2147483647 : Int32)) - ((i2 &&& (2147483647 : Int32)) / (3 : Int32)) * (3 : Int32)) - (1 : Int32)))), .unset, .unset] [])) _
    refine XS.iloadN X0.here hx rfl (hb hby at_224) rfl ?_
    show Steps p.tables e below (T0.setTop (mkF m 225 #[.val (.int i0), .val (.int i1), .val (.int i2), .val (.ref b0), .val (.int ((i1 &&& (2147483647 : Int32)) - ((i1 &&& (2147483647 : Int32)) / (30 : Int32)) * (30 : Int32))), .val (.int (((i2 &&& (2147483647 : Int32)) - ((i2 &&& (2147483647 : Int32)) / (3 : Int32)) * (3 : Int32)) - (1 : Int32))), .val (.int ((A_b0 ((i1 &&& (2147483647 : Int32)) - ((i1 &&& (2147483647 : Int32)) / (30 : Int32)) * (30 : Int32)).toNatClampNeg) + (((i2 &&& (2147483647 : Int32)) - ((i2 &&& (2147483647 : Int32)) / (3 : Int32)) * (3 : Int32)) - (1 : Int32)))), .unset, .unset] [(.int i0)])) _
    refine st1 _ ?_
    show Steps p.tables e below (T1.setTop (mkF m 228 #[.val (.int i0), .val (.int i1), .val (.int i2), .val (.ref b0), .val (.int ((i1 &&& (2147483647 : Int32)) - ((i1 &&& (2147483647 : Int32)) / (30 : Int32)) * (30 : Int32))), .val (.int (((i2 &&& (2147483647 : Int32)) - ((i2 &&& (2147483647 : Int32)) / (3 : Int32)) * (3 : Int32)) - (1 : Int32))), .val (.int ((A_b0 ((i1 &&& (2147483647 : Int32)) - ((i1 &&& (2147483647 : Int32)) / (30 : Int32)) * (30 : Int32)).toNatClampNeg) + (((i2 &&& (2147483647 : Int32)) - ((i2 &&& (2147483647 : Int32)) / (3 : Int32)) * (3 : Int32)) - (1 : Int32)))), .unset, .unset] [(.int (own_f1_0 i0))])) _
    refine XS.iloadN X1.here hx rfl (hb hby at_228) rfl ?_
    show Steps p.tables e below (T1.setTop (mkF m 229 #[.val (.int i0), .val (.int i1), .val (.int i2), .val (.ref b0), .val (.int ((i1 &&& (2147483647 : Int32)) - ((i1 &&& (2147483647 : Int32)) / (30 : Int32)) * (30 : Int32))), .val (.int (((i2 &&& (2147483647 : Int32)) - ((i2 &&& (2147483647 : Int32)) / (3 : Int32)) * (3 : Int32)) - (1 : Int32))), .val (.int ((A_b0 ((i1 &&& (2147483647 : Int32)) - ((i1 &&& (2147483647 : Int32)) / (30 : Int32)) * (30 : Int32)).toNatClampNeg) + (((i2 &&& (2147483647 : Int32)) - ((i2 &&& (2147483647 : Int32)) / (3 : Int32)) * (3 : Int32)) - (1 : Int32)))), .unset, .unset] [(.int i0), (.int (own_f1_0 i0))])) _
    refine st2 _ ?_
    exact kt
  by_cases hc232 : (own_f1_0 i0) = (own_f2_0 i0)
  · have pre4 : ∀ target, Steps p.tables e below (T2.setTop (mkF m 240 #[.val (.int i0), .val (.int i1), .val (.int i2), .val (.ref b0), .val (.int ((i1 &&& (2147483647 : Int32)) - ((i1 &&& (2147483647 : Int32)) / (30 : Int32)) * (30 : Int32))), .val (.int (((i2 &&& (2147483647 : Int32)) - ((i2 &&& (2147483647 : Int32)) / (3 : Int32)) * (3 : Int32)) - (1 : Int32))), .val (.int ((A_b0 ((i1 &&& (2147483647 : Int32)) - ((i1 &&& (2147483647 : Int32)) / (30 : Int32)) * (30 : Int32)).toNatClampNeg) + (((i2 &&& (2147483647 : Int32)) - ((i2 &&& (2147483647 : Int32)) / (3 : Int32)) * (3 : Int32)) - (1 : Int32)))), .unset, .unset] [(.int (1 : Int32))])) target → Steps p.tables e below (T0.setTop (mkF m 195 #[.val (.int i0), .val (.int i1), .val (.int i2), .unset, .unset, .unset, .unset, .unset, .unset] [(.ref b0)])) target := by
      intro target kt
      refine pre3 target ?_
      show Steps p.tables e below (T2.setTop (mkF m 232 #[.val (.int i0), .val (.int i1), .val (.int i2), .val (.ref b0), .val (.int ((i1 &&& (2147483647 : Int32)) - ((i1 &&& (2147483647 : Int32)) / (30 : Int32)) * (30 : Int32))), .val (.int (((i2 &&& (2147483647 : Int32)) - ((i2 &&& (2147483647 : Int32)) / (3 : Int32)) * (3 : Int32)) - (1 : Int32))), .val (.int ((A_b0 ((i1 &&& (2147483647 : Int32)) - ((i1 &&& (2147483647 : Int32)) / (30 : Int32)) * (30 : Int32)).toNatClampNeg) + (((i2 &&& (2147483647 : Int32)) - ((i2 &&& (2147483647 : Int32)) / (3 : Int32)) * (3 : Int32)) - (1 : Int32)))), .unset, .unset] [(.int (own_f2_0 i0)), (.int (own_f1_0 i0))])) _
      refine XS.icmpNo X2.here hx rfl (hb hby at_232) rfl (teq hc232).2 ?_
      show Steps p.tables e below (T2.setTop (mkF m 235 #[.val (.int i0), .val (.int i1), .val (.int i2), .val (.ref b0), .val (.int ((i1 &&& (2147483647 : Int32)) - ((i1 &&& (2147483647 : Int32)) / (30 : Int32)) * (30 : Int32))), .val (.int (((i2 &&& (2147483647 : Int32)) - ((i2 &&& (2147483647 : Int32)) / (3 : Int32)) * (3 : Int32)) - (1 : Int32))), .val (.int ((A_b0 ((i1 &&& (2147483647 : Int32)) - ((i1 &&& (2147483647 : Int32)) / (30 : Int32)) * (30 : Int32)).toNatClampNeg) + (((i2 &&& (2147483647 : Int32)) - ((i2 &&& (2147483647 : Int32)) / (3 : Int32)) * (3 : Int32)) - (1 : Int32)))), .unset, .unset] [])) _
      refine XS.iconst X2.here hx rfl (hb hby at_235) ?_
      show Steps p.tables e below (T2.setTop (mkF m 236 #[.val (.int i0), .val (.int i1), .val (.int i2), .val (.ref b0), .val (.int ((i1 &&& (2147483647 : Int32)) - ((i1 &&& (2147483647 : Int32)) / (30 : Int32)) * (30 : Int32))), .val (.int (((i2 &&& (2147483647 : Int32)) - ((i2 &&& (2147483647 : Int32)) / (3 : Int32)) * (3 : Int32)) - (1 : Int32))), .val (.int ((A_b0 ((i1 &&& (2147483647 : Int32)) - ((i1 &&& (2147483647 : Int32)) / (30 : Int32)) * (30 : Int32)).toNatClampNeg) + (((i2 &&& (2147483647 : Int32)) - ((i2 &&& (2147483647 : Int32)) / (3 : Int32)) * (3 : Int32)) - (1 : Int32)))), .unset, .unset] [(.int (1 : Int32))])) _
      refine XS.goto X2.here hx rfl (pc0 := 236) (pc' := 240) rfl (hb hby at_236) (by decide) (by decide) ?_
      exact kt
    obtain ⟨T5, L5, k5, n5, X5, N5, hk5', hn5, st5⟩ := own_b0_240 hx hZ hw hby hml hown hret i0 i1 i2 b0 ((i1 &&& (2147483647 : Int32)) - ((i1 &&& (2147483647 : Int32)) / (30 : Int32)) * (30 : Int32)) (((i2 &&& (2147483647 : Int32)) - ((i2 &&& (2147483647 : Int32)) / (3 : Int32)) * (3 : Int32)) - (1 : Int32)) ((A_b0 ((i1 &&& (2147483647 : Int32)) - ((i1 &&& (2147483647 : Int32)) / (30 : Int32)) * (30 : Int32)).toNatClampNeg) + (((i2 &&& (2147483647 : Int32)) - ((i2 &&& (2147483647 : Int32)) / (3 : Int32)) * (3 : Int32)) - (1 : Int32))) (1 : Int32)  X2 e2 N0 Z0 g_b0 
    have hv : (own_f0_195 i0 i1 i2 A_b0) = (own_f0_240 i0 i1 i2 ((i1 &&& (2147483647 : Int32)) - ((i1 &&& (2147483647 : Int32)) / (30 : Int32)) * (30 : Int32)) (((i2 &&& (2147483647 : Int32)) - ((i2 &&& (2147483647 : Int32)) / (3 : Int32)) * (3 : Int32)) - (1 : Int32)) ((A_b0 ((i1 &&& (2147483647 : Int32)) - ((i1 &&& (2147483647 : Int32)) / (30 : Int32)) * (30 : Int32)).toNatClampNeg) + (((i2 &&& (2147483647 : Int32)) - ((i2 &&& (2147483647 : Int32)) / (3 : Int32)) * (3 : Int32)) - (1 : Int32))) (1 : Int32)) := by unfold own_f0_195; rw [if_pos hc232]
    exact ⟨T5, L5, k5, n5, X5, N5, hk5', hn5, fun fs hr => pre4 _ (st5 fs (by rw [hv] at hr; exact hr))⟩
  · have pre6 : ∀ target, Steps p.tables e below (T2.setTop (mkF m 240 #[.val (.int i0), .val (.int i1), .val (.int i2), .val (.ref b0), .val (.int ((i1 &&& (2147483647 : Int32)) - ((i1 &&& (2147483647 : Int32)) / (30 : Int32)) * (30 : Int32))), .val (.int (((i2 &&& (2147483647 : Int32)) - ((i2 &&& (2147483647 : Int32)) / (3 : Int32)) * (3 : Int32)) - (1 : Int32))), .val (.int ((A_b0 ((i1 &&& (2147483647 : Int32)) - ((i1 &&& (2147483647 : Int32)) / (30 : Int32)) * (30 : Int32)).toNatClampNeg) + (((i2 &&& (2147483647 : Int32)) - ((i2 &&& (2147483647 : Int32)) / (3 : Int32)) * (3 : Int32)) - (1 : Int32)))), .unset, .unset] [(.int (0 : Int32))])) target → Steps p.tables e below (T0.setTop (mkF m 195 #[.val (.int i0), .val (.int i1), .val (.int i2), .unset, .unset, .unset, .unset, .unset, .unset] [(.ref b0)])) target := by
      intro target kt
      refine pre3 target ?_
      show Steps p.tables e below (T2.setTop (mkF m 232 #[.val (.int i0), .val (.int i1), .val (.int i2), .val (.ref b0), .val (.int ((i1 &&& (2147483647 : Int32)) - ((i1 &&& (2147483647 : Int32)) / (30 : Int32)) * (30 : Int32))), .val (.int (((i2 &&& (2147483647 : Int32)) - ((i2 &&& (2147483647 : Int32)) / (3 : Int32)) * (3 : Int32)) - (1 : Int32))), .val (.int ((A_b0 ((i1 &&& (2147483647 : Int32)) - ((i1 &&& (2147483647 : Int32)) / (30 : Int32)) * (30 : Int32)).toNatClampNeg) + (((i2 &&& (2147483647 : Int32)) - ((i2 &&& (2147483647 : Int32)) / (3 : Int32)) * (3 : Int32)) - (1 : Int32)))), .unset, .unset] [(.int (own_f2_0 i0)), (.int (own_f1_0 i0))])) _
      refine XS.icmpYes X2.here hx rfl (pc0 := 232) (pc' := 239) rfl (hb hby at_232) rfl (feq hc232).2 (by decide) (by decide) ?_
      show Steps p.tables e below (T2.setTop (mkF m 239 #[.val (.int i0), .val (.int i1), .val (.int i2), .val (.ref b0), .val (.int ((i1 &&& (2147483647 : Int32)) - ((i1 &&& (2147483647 : Int32)) / (30 : Int32)) * (30 : Int32))), .val (.int (((i2 &&& (2147483647 : Int32)) - ((i2 &&& (2147483647 : Int32)) / (3 : Int32)) * (3 : Int32)) - (1 : Int32))), .val (.int ((A_b0 ((i1 &&& (2147483647 : Int32)) - ((i1 &&& (2147483647 : Int32)) / (30 : Int32)) * (30 : Int32)).toNatClampNeg) + (((i2 &&& (2147483647 : Int32)) - ((i2 &&& (2147483647 : Int32)) / (3 : Int32)) * (3 : Int32)) - (1 : Int32)))), .unset, .unset] [])) _
      refine XS.iconst X2.here hx rfl (hb hby at_239) ?_
      exact kt
    obtain ⟨T7, L7, k7, n7, X7, N7, hk7', hn7, st7⟩ := own_b0_240 hx hZ hw hby hml hown hret i0 i1 i2 b0 ((i1 &&& (2147483647 : Int32)) - ((i1 &&& (2147483647 : Int32)) / (30 : Int32)) * (30 : Int32)) (((i2 &&& (2147483647 : Int32)) - ((i2 &&& (2147483647 : Int32)) / (3 : Int32)) * (3 : Int32)) - (1 : Int32)) ((A_b0 ((i1 &&& (2147483647 : Int32)) - ((i1 &&& (2147483647 : Int32)) / (30 : Int32)) * (30 : Int32)).toNatClampNeg) + (((i2 &&& (2147483647 : Int32)) - ((i2 &&& (2147483647 : Int32)) / (3 : Int32)) * (3 : Int32)) - (1 : Int32))) (0 : Int32)  X2 e2 N0 Z0 g_b0 
    have hv : (own_f0_195 i0 i1 i2 A_b0) = (own_f0_240 i0 i1 i2 ((i1 &&& (2147483647 : Int32)) - ((i1 &&& (2147483647 : Int32)) / (30 : Int32)) * (30 : Int32)) (((i2 &&& (2147483647 : Int32)) - ((i2 &&& (2147483647 : Int32)) / (3 : Int32)) * (3 : Int32)) - (1 : Int32)) ((A_b0 ((i1 &&& (2147483647 : Int32)) - ((i1 &&& (2147483647 : Int32)) / (30 : Int32)) * (30 : Int32)).toNatClampNeg) + (((i2 &&& (2147483647 : Int32)) - ((i2 &&& (2147483647 : Int32)) / (3 : Int32)) * (3 : Int32)) - (1 : Int32))) (0 : Int32)) := by unfold own_f0_195; rw [if_neg hc232]
    exact ⟨T7, L7, k7, n7, X7, N7, hk7', hn7, fun fs hr => pre6 _ (st7 fs (by rw [hv] at hr; exact hr))⟩
set_option maxRecDepth 65536 in
set_option maxHeartbeats 40000000 in
theorem own_b0_165 {p : Program} {l : Launch} {e : Env} {s : State} {m : MethodId} {args : Array Value} {below : List Frame} {meth : Method} {c : Code} {Z : State} {a0_ : Array Value} {n0 : Nat} (hx : p.tables.exec = Jvm.exec) (hZ : Z.Warmed39 s.vm) (hw : ∀ d ∈ tables_1, d.before a0_ Z = true) (hby : c.code = code) (hml : c.maxLocals = 9) (hown : s.vm.findClass "com/example/saho/saho/text/XmlCharsIsNcNameStartCharPinLaw" = some m.cls) (hret : meth.sig.returnType = some .boolean) {T0 : State} {locs : List Loc} {h0 : Heap} (i0 : Int32) (i1 : Int32) (i2 : Int32) (b0 : Addr) (A_b0 : Nat → Int32)
    (X0 : Stand p l e room_1 s m args below meth c T0 locs 1 30) (e0 : T0.heap = h0) (N0 : Fr n0 locs) (Z0 : n0 ≤ h0.size) (g_b0 : n0 ≤ b0) (V_b0 : own_Ar Z h0 b0 .int (30 : Int32) A_b0) :
    ∃ T' locs' cells' slots', Stand p l e room_1 s m args below meth c T' locs' cells' slots' ∧ Fr n0 locs' ∧ cells' ≤ room_1.cells ∧ slots' ≤ room_1.slots ∧ ∀ fs, (∀ (f : JFrame) (acts : List Action), f.method = m → f.locked = none → f.entered = [] → (doReturn e (T'.setTop f) acts (some (.int (own_f0_165 i0 i1 i2 A_b0)))).1 = T'.setFrames fs) → Steps p.tables e below (T0.setTop (mkF m 165 #[.val (.int i0), .val (.int i1), .val (.int i2), .unset, .unset, .unset, .unset, .unset, .unset] [(.ref b0)])) (T'.setFrames fs) := by
  obtain ⟨T1, h1, X1, e1, W1, V1, st1⟩ := own_stI X0 hx hZ e0 V_b0 ⟨by decide +kernel, by decide +kernel⟩ (g := (mkF m 170 #[.val (.int i0), .val (.int i1), .val (.int i2), .unset, .unset, .unset, .unset, .unset, .unset] [(.int (64975 : Int32)), (.int (25 : Int32)), (.ref b0), (.ref b0)])) rfl rfl (hb hby at_170)
  have N1 := Fr.snoc X1 N0 g_b0
  have Z1 : n0 ≤ h1.size := Nat.le_trans Z0 (Keep.of_wr W1).1
  have V_b0_k1 := V1
  obtain ⟨T2, h2, X2, e2, W2, V2, st2⟩ := own_stI X1 hx hZ e1 V_b0_k1 ⟨by decide +kernel, by decide +kernel⟩ (g := (mkF m 176 #[.val (.int i0), .val (.int i1), .val (.int i2), .unset, .unset, .unset, .unset, .unset, .unset] [(.int (65008 : Int32)), (.int (26 : Int32)), (.ref b0), (.ref b0)])) rfl rfl (hb hby at_176)
  have N2 := Fr.snoc X2 N1 g_b0
  have Z2 : n0 ≤ h2.size := Nat.le_trans Z1 (Keep.of_wr W2).1
  have V_b0_k2 := V2
  obtain ⟨T3, h3, X3, e3, W3, V3, st3⟩ := own_stI X2 hx hZ e2 V_b0_k2 ⟨by decide +kernel, by decide +kernel⟩ (g := (mkF m 182 #[.val (.int i0), .val (.int i1), .val (.int i2), .unset, .unset, .unset, .unset, .unset, .unset] [(.int (65533 : Int32)), (.int (27 : Int32)), (.ref b0), (.ref b0)])) rfl rfl (hb hby at_182)
  have N3 := Fr.snoc X3 N2 g_b0
  have Z3 : n0 ≤ h3.size := Nat.le_trans Z2 (Keep.of_wr W3).1
  have V_b0_k3 := V3
  obtain ⟨T4, h4, X4, e4, W4, V4, st4⟩ := own_stI X3 hx hZ e3 V_b0_k3 ⟨by decide +kernel, by decide +kernel⟩ (g := (mkF m 188 #[.val (.int i0), .val (.int i1), .val (.int i2), .unset, .unset, .unset, .unset, .unset, .unset] [(.int (65536 : Int32)), (.int (28 : Int32)), (.ref b0), (.ref b0)])) rfl rfl (hb hby at_188)
  have N4 := Fr.snoc X4 N3 g_b0
  have Z4 : n0 ≤ h4.size := Nat.le_trans Z3 (Keep.of_wr W4).1
  have V_b0_k4 := V4
  obtain ⟨T5, h5, X5, e5, W5, V5, st5⟩ := own_stI X4 hx hZ e4 V_b0_k4 ⟨by decide +kernel, by decide +kernel⟩ (g := (mkF m 194 #[.val (.int i0), .val (.int i1), .val (.int i2), .unset, .unset, .unset, .unset, .unset, .unset] [(.int (983039 : Int32)), (.int (29 : Int32)), (.ref b0), (.ref b0)])) rfl rfl (hb hby at_194)
  have N5 := Fr.snoc X5 N4 g_b0
  have Z5 : n0 ≤ h5.size := Nat.le_trans Z4 (Keep.of_wr W5).1
  have V_b0_k5 := V5
  have pre6 : ∀ target, Steps p.tables e below (T5.setTop (mkF m 195 #[.val (.int i0), .val (.int i1), .val (.int i2), .unset, .unset, .unset, .unset, .unset, .unset] [(.ref b0)])) target → Steps p.tables e below (T0.setTop (mkF m 165 #[.val (.int i0), .val (.int i1), .val (.int i2), .unset, .unset, .unset, .unset, .unset, .unset] [(.ref b0)])) target := by
    intro target kt
    show Steps p.tables e below (T0.setTop (mkF m 165 #[.val (.int i0), .val (.int i1), .val (.int i2), .unset, .unset, .unset, .unset, .unset, .unset] [(.ref b0)])) _
    refine XS.dup X0.here hx rfl (hb hby at_165) rfl rfl ?_
    show Steps p.tables e below (T0.setTop (mkF m 166 #[.val (.int i0), .val (.int i1), .val (.int i2), .unset, .unset, .unset, .unset, .unset, .unset] [(.ref b0), (.ref b0)])) _
    refine XS.bipush X0.here hx rfl (hb hby at_166) ?_
    show Steps p.tables e below (T0.setTop (mkF m 168 #[.val (.int i0), .val (.int i1), .val (.int i2), .unset, .unset, .unset, .unset, .unset, .unset] [(.int (25 : Int32)), (.ref b0), (.ref b0)])) _
    refine X0.ldcInt hx hown (mvT hZ (hw _ (List.mem_of_getElem? (i := 3) rfl))) (g := (mkF m 168 #[.val (.int i0), .val (.int i1), .val (.int i2), .unset, .unset, .unset, .unset, .unset, .unset] [(.int (25 : Int32)), (.ref b0), (.ref b0)])) rfl (hb hby at_168) _ ?_
    show Steps p.tables e below (T0.setTop (mkF m 170 #[.val (.int i0), .val (.int i1), .val (.int i2), .unset, .unset, .unset, .unset, .unset, .unset] [(.int (64975 : Int32)), (.int (25 : Int32)), (.ref b0), (.ref b0)])) _
    refine st1 _ ?_
    show Steps p.tables e below (T1.setTop (mkF m 171 #[.val (.int i0), .val (.int i1), .val (.int i2), .unset, .unset, .unset, .unset, .unset, .unset] [(.ref b0)])) _
    refine XS.dup X1.here hx rfl (hb hby at_171) rfl rfl ?_
    show Steps p.tables e below (T1.setTop (mkF m 172 #[.val (.int i0), .val (.int i1), .val (.int i2), .unset, .unset, .unset, .unset, .unset, .unset] [(.ref b0), (.ref b0)])) _
    refine XS.bipush X1.here hx rfl (hb hby at_172) ?_
    show Steps p.tables e below (T1.setTop (mkF m 174 #[.val (.int i0), .val (.int i1), .val (.int i2), .unset, .unset, .unset, .unset, .unset, .unset] [(.int (26 : Int32)), (.ref b0), (.ref b0)])) _
    refine X1.ldcInt hx hown (mvT hZ (hw _ (List.mem_of_getElem? (i := 4) rfl))) (g := (mkF m 174 #[.val (.int i0), .val (.int i1), .val (.int i2), .unset, .unset, .unset, .unset, .unset, .unset] [(.int (26 : Int32)), (.ref b0), (.ref b0)])) rfl (hb hby at_174) _ ?_
    show Steps p.tables e below (T1.setTop (mkF m 176 #[.val (.int i0), .val (.int i1), .val (.int i2), .unset, .unset, .unset, .unset, .unset, .unset] [(.int (65008 : Int32)), (.int (26 : Int32)), (.ref b0), (.ref b0)])) _
    refine st2 _ ?_
    show Steps p.tables e below (T2.setTop (mkF m 177 #[.val (.int i0), .val (.int i1), .val (.int i2), .unset, .unset, .unset, .unset, .unset, .unset] [(.ref b0)])) _
    refine XS.dup X2.here hx rfl (hb hby at_177) rfl rfl ?_
    show Steps p.tables e below (T2.setTop (mkF m 178 #[.val (.int i0), .val (.int i1), .val (.int i2), .unset, .unset, .unset, .unset, .unset, .unset] [(.ref b0), (.ref b0)])) _
    refine XS.bipush X2.here hx rfl (hb hby at_178) ?_
    show Steps p.tables e below (T2.setTop (mkF m 180 #[.val (.int i0), .val (.int i1), .val (.int i2), .unset, .unset, .unset, .unset, .unset, .unset] [(.int (27 : Int32)), (.ref b0), (.ref b0)])) _
    refine X2.ldcInt hx hown (mvT hZ (hw _ (List.mem_of_getElem? (i := 5) rfl))) (g := (mkF m 180 #[.val (.int i0), .val (.int i1), .val (.int i2), .unset, .unset, .unset, .unset, .unset, .unset] [(.int (27 : Int32)), (.ref b0), (.ref b0)])) rfl (hb hby at_180) _ ?_
    show Steps p.tables e below (T2.setTop (mkF m 182 #[.val (.int i0), .val (.int i1), .val (.int i2), .unset, .unset, .unset, .unset, .unset, .unset] [(.int (65533 : Int32)), (.int (27 : Int32)), (.ref b0), (.ref b0)])) _
    refine st3 _ ?_
    show Steps p.tables e below (T3.setTop (mkF m 183 #[.val (.int i0), .val (.int i1), .val (.int i2), .unset, .unset, .unset, .unset, .unset, .unset] [(.ref b0)])) _
    refine XS.dup X3.here hx rfl (hb hby at_183) rfl rfl ?_
    show Steps p.tables e below (T3.setTop (mkF m 184 #[.val (.int i0), .val (.int i1), .val (.int i2), .unset, .unset, .unset, .unset, .unset, .unset] [(.ref b0), (.ref b0)])) _
    refine XS.bipush X3.here hx rfl (hb hby at_184) ?_
    show Steps p.tables e below (T3.setTop (mkF m 186 #[.val (.int i0), .val (.int i1), .val (.int i2), .unset, .unset, .unset, .unset, .unset, .unset] [(.int (28 : Int32)), (.ref b0), (.ref b0)])) _
    refine X3.ldcInt hx hown (mvT hZ (hw _ (List.mem_of_getElem? (i := 6) rfl))) (g := (mkF m 186 #[.val (.int i0), .val (.int i1), .val (.int i2), .unset, .unset, .unset, .unset, .unset, .unset] [(.int (28 : Int32)), (.ref b0), (.ref b0)])) rfl (hb hby at_186) _ ?_
    show Steps p.tables e below (T3.setTop (mkF m 188 #[.val (.int i0), .val (.int i1), .val (.int i2), .unset, .unset, .unset, .unset, .unset, .unset] [(.int (65536 : Int32)), (.int (28 : Int32)), (.ref b0), (.ref b0)])) _
    refine st4 _ ?_
    show Steps p.tables e below (T4.setTop (mkF m 189 #[.val (.int i0), .val (.int i1), .val (.int i2), .unset, .unset, .unset, .unset, .unset, .unset] [(.ref b0)])) _
    refine XS.dup X4.here hx rfl (hb hby at_189) rfl rfl ?_
    show Steps p.tables e below (T4.setTop (mkF m 190 #[.val (.int i0), .val (.int i1), .val (.int i2), .unset, .unset, .unset, .unset, .unset, .unset] [(.ref b0), (.ref b0)])) _
    refine XS.bipush X4.here hx rfl (hb hby at_190) ?_
    show Steps p.tables e below (T4.setTop (mkF m 192 #[.val (.int i0), .val (.int i1), .val (.int i2), .unset, .unset, .unset, .unset, .unset, .unset] [(.int (29 : Int32)), (.ref b0), (.ref b0)])) _
    refine X4.ldcInt hx hown (mvT hZ (hw _ (List.mem_of_getElem? (i := 7) rfl))) (g := (mkF m 192 #[.val (.int i0), .val (.int i1), .val (.int i2), .unset, .unset, .unset, .unset, .unset, .unset] [(.int (29 : Int32)), (.ref b0), (.ref b0)])) rfl (hb hby at_192) _ ?_
    show Steps p.tables e below (T4.setTop (mkF m 194 #[.val (.int i0), .val (.int i1), .val (.int i2), .unset, .unset, .unset, .unset, .unset, .unset] [(.int (983039 : Int32)), (.int (29 : Int32)), (.ref b0), (.ref b0)])) _
    refine st5 _ ?_
    exact kt
  obtain ⟨T7, L7, k7, n7, X7, N7, hk7', hn7, st7⟩ := own_b0_195 hx hZ hw hby hml hown hret i0 i1 i2 b0 (own_up (own_up (own_up (own_up (own_up A_b0 (25 : Int32).toNatClampNeg (64975 : Int32)) (26 : Int32).toNatClampNeg (65008 : Int32)) (27 : Int32).toNatClampNeg (65533 : Int32)) (28 : Int32).toNatClampNeg (65536 : Int32)) (29 : Int32).toNatClampNeg (983039 : Int32)) X5 e5 N5 Z5 g_b0 V_b0_k5 
  have hv : (own_f0_165 i0 i1 i2 A_b0) = (own_f0_195 i0 i1 i2 (own_up (own_up (own_up (own_up (own_up A_b0 (25 : Int32).toNatClampNeg (64975 : Int32)) (26 : Int32).toNatClampNeg (65008 : Int32)) (27 : Int32).toNatClampNeg (65533 : Int32)) (28 : Int32).toNatClampNeg (65536 : Int32)) (29 : Int32).toNatClampNeg (983039 : Int32))) := by unfold own_f0_165; rfl
  exact ⟨T7, L7, k7, n7, X7, N7, hk7', hn7, fun fs hr => pre6 _ (st7 fs (by rw [hv] at hr; exact hr))⟩
set_option maxRecDepth 65536 in
set_option maxHeartbeats 40000000 in
theorem own_b0_132 {p : Program} {l : Launch} {e : Env} {s : State} {m : MethodId} {args : Array Value} {below : List Frame} {meth : Method} {c : Code} {Z : State} {a0_ : Array Value} {n0 : Nat} (hx : p.tables.exec = Jvm.exec) (hZ : Z.Warmed39 s.vm) (hw : ∀ d ∈ tables_1, d.before a0_ Z = true) (hby : c.code = code) (hml : c.maxLocals = 9) (hown : s.vm.findClass "com/example/saho/saho/text/XmlCharsIsNcNameStartCharPinLaw" = some m.cls) (hret : meth.sig.returnType = some .boolean) {T0 : State} {locs : List Loc} {h0 : Heap} (i0 : Int32) (i1 : Int32) (i2 : Int32) (b0 : Addr) (A_b0 : Nat → Int32)
    (X0 : Stand p l e room_1 s m args below meth c T0 locs 1 30) (e0 : T0.heap = h0) (N0 : Fr n0 locs) (Z0 : n0 ≤ h0.size) (g_b0 : n0 ≤ b0) (V_b0 : own_Ar Z h0 b0 .int (30 : Int32) A_b0) :
    ∃ T' locs' cells' slots', Stand p l e room_1 s m args below meth c T' locs' cells' slots' ∧ Fr n0 locs' ∧ cells' ≤ room_1.cells ∧ slots' ≤ room_1.slots ∧ ∀ fs, (∀ (f : JFrame) (acts : List Action), f.method = m → f.locked = none → f.entered = [] → (doReturn e (T'.setTop f) acts (some (.int (own_f0_132 i0 i1 i2 A_b0)))).1 = T'.setFrames fs) → Steps p.tables e below (T0.setTop (mkF m 132 #[.val (.int i0), .val (.int i1), .val (.int i2), .unset, .unset, .unset, .unset, .unset, .unset] [(.ref b0)])) (T'.setFrames fs) := by
  obtain ⟨T1, h1, X1, e1, W1, V1, st1⟩ := own_stI X0 hx hZ e0 V_b0 ⟨by decide +kernel, by decide +kernel⟩ (g := (mkF m 138 #[.val (.int i0), .val (.int i1), .val (.int i2), .unset, .unset, .unset, .unset, .unset, .unset] [(.int (11264 : Int32)), (.int (20 : Int32)), (.ref b0), (.ref b0)])) rfl rfl (hb hby at_138)
  have N1 := Fr.snoc X1 N0 g_b0
  have Z1 : n0 ≤ h1.size := Nat.le_trans Z0 (Keep.of_wr W1).1
  have V_b0_k1 := V1
  obtain ⟨T2, h2, X2, e2, W2, V2, st2⟩ := own_stI X1 hx hZ e1 V_b0_k1 ⟨by decide +kernel, by decide +kernel⟩ (g := (mkF m 145 #[.val (.int i0), .val (.int i1), .val (.int i2), .unset, .unset, .unset, .unset, .unset, .unset] [(.int (12271 : Int32)), (.int (21 : Int32)), (.ref b0), (.ref b0)])) rfl rfl (hb hby at_145)
  have N2 := Fr.snoc X2 N1 g_b0
  have Z2 : n0 ≤ h2.size := Nat.le_trans Z1 (Keep.of_wr W2).1
  have V_b0_k2 := V2
  obtain ⟨T3, h3, X3, e3, W3, V3, st3⟩ := own_stI X2 hx hZ e2 V_b0_k2 ⟨by decide +kernel, by decide +kernel⟩ (g := (mkF m 152 #[.val (.int i0), .val (.int i1), .val (.int i2), .unset, .unset, .unset, .unset, .unset, .unset] [(.int (12289 : Int32)), (.int (22 : Int32)), (.ref b0), (.ref b0)])) rfl rfl (hb hby at_152)
  have N3 := Fr.snoc X3 N2 g_b0
  have Z3 : n0 ≤ h3.size := Nat.le_trans Z2 (Keep.of_wr W3).1
  have V_b0_k3 := V3
  obtain ⟨T4, h4, X4, e4, W4, V4, st4⟩ := own_stI X3 hx hZ e3 V_b0_k3 ⟨by decide +kernel, by decide +kernel⟩ (g := (mkF m 158 #[.val (.int i0), .val (.int i1), .val (.int i2), .unset, .unset, .unset, .unset, .unset, .unset] [(.int (55295 : Int32)), (.int (23 : Int32)), (.ref b0), (.ref b0)])) rfl rfl (hb hby at_158)
  have N4 := Fr.snoc X4 N3 g_b0
  have Z4 : n0 ≤ h4.size := Nat.le_trans Z3 (Keep.of_wr W4).1
  have V_b0_k4 := V4
  obtain ⟨T5, h5, X5, e5, W5, V5, st5⟩ := own_stI X4 hx hZ e4 V_b0_k4 ⟨by decide +kernel, by decide +kernel⟩ (g := (mkF m 164 #[.val (.int i0), .val (.int i1), .val (.int i2), .unset, .unset, .unset, .unset, .unset, .unset] [(.int (63744 : Int32)), (.int (24 : Int32)), (.ref b0), (.ref b0)])) rfl rfl (hb hby at_164)
  have N5 := Fr.snoc X5 N4 g_b0
  have Z5 : n0 ≤ h5.size := Nat.le_trans Z4 (Keep.of_wr W5).1
  have V_b0_k5 := V5
  have pre6 : ∀ target, Steps p.tables e below (T5.setTop (mkF m 165 #[.val (.int i0), .val (.int i1), .val (.int i2), .unset, .unset, .unset, .unset, .unset, .unset] [(.ref b0)])) target → Steps p.tables e below (T0.setTop (mkF m 132 #[.val (.int i0), .val (.int i1), .val (.int i2), .unset, .unset, .unset, .unset, .unset, .unset] [(.ref b0)])) target := by
    intro target kt
    show Steps p.tables e below (T0.setTop (mkF m 132 #[.val (.int i0), .val (.int i1), .val (.int i2), .unset, .unset, .unset, .unset, .unset, .unset] [(.ref b0)])) _
    refine XS.dup X0.here hx rfl (hb hby at_132) rfl rfl ?_
    show Steps p.tables e below (T0.setTop (mkF m 133 #[.val (.int i0), .val (.int i1), .val (.int i2), .unset, .unset, .unset, .unset, .unset, .unset] [(.ref b0), (.ref b0)])) _
    refine XS.bipush X0.here hx rfl (hb hby at_133) ?_
    show Steps p.tables e below (T0.setTop (mkF m 135 #[.val (.int i0), .val (.int i1), .val (.int i2), .unset, .unset, .unset, .unset, .unset, .unset] [(.int (20 : Int32)), (.ref b0), (.ref b0)])) _
    refine XS.sipush X0.here hx rfl (hb hby at_135) ?_
    show Steps p.tables e below (T0.setTop (mkF m 138 #[.val (.int i0), .val (.int i1), .val (.int i2), .unset, .unset, .unset, .unset, .unset, .unset] [(.int (11264 : Int32)), (.int (20 : Int32)), (.ref b0), (.ref b0)])) _
    refine st1 _ ?_
    show Steps p.tables e below (T1.setTop (mkF m 139 #[.val (.int i0), .val (.int i1), .val (.int i2), .unset, .unset, .unset, .unset, .unset, .unset] [(.ref b0)])) _
    refine XS.dup X1.here hx rfl (hb hby at_139) rfl rfl ?_
    show Steps p.tables e below (T1.setTop (mkF m 140 #[.val (.int i0), .val (.int i1), .val (.int i2), .unset, .unset, .unset, .unset, .unset, .unset] [(.ref b0), (.ref b0)])) _
    refine XS.bipush X1.here hx rfl (hb hby at_140) ?_
    show Steps p.tables e below (T1.setTop (mkF m 142 #[.val (.int i0), .val (.int i1), .val (.int i2), .unset, .unset, .unset, .unset, .unset, .unset] [(.int (21 : Int32)), (.ref b0), (.ref b0)])) _
    refine XS.sipush X1.here hx rfl (hb hby at_142) ?_
    show Steps p.tables e below (T1.setTop (mkF m 145 #[.val (.int i0), .val (.int i1), .val (.int i2), .unset, .unset, .unset, .unset, .unset, .unset] [(.int (12271 : Int32)), (.int (21 : Int32)), (.ref b0), (.ref b0)])) _
    refine st2 _ ?_
    show Steps p.tables e below (T2.setTop (mkF m 146 #[.val (.int i0), .val (.int i1), .val (.int i2), .unset, .unset, .unset, .unset, .unset, .unset] [(.ref b0)])) _
    refine XS.dup X2.here hx rfl (hb hby at_146) rfl rfl ?_
    show Steps p.tables e below (T2.setTop (mkF m 147 #[.val (.int i0), .val (.int i1), .val (.int i2), .unset, .unset, .unset, .unset, .unset, .unset] [(.ref b0), (.ref b0)])) _
    refine XS.bipush X2.here hx rfl (hb hby at_147) ?_
    show Steps p.tables e below (T2.setTop (mkF m 149 #[.val (.int i0), .val (.int i1), .val (.int i2), .unset, .unset, .unset, .unset, .unset, .unset] [(.int (22 : Int32)), (.ref b0), (.ref b0)])) _
    refine XS.sipush X2.here hx rfl (hb hby at_149) ?_
    show Steps p.tables e below (T2.setTop (mkF m 152 #[.val (.int i0), .val (.int i1), .val (.int i2), .unset, .unset, .unset, .unset, .unset, .unset] [(.int (12289 : Int32)), (.int (22 : Int32)), (.ref b0), (.ref b0)])) _
    refine st3 _ ?_
    show Steps p.tables e below (T3.setTop (mkF m 153 #[.val (.int i0), .val (.int i1), .val (.int i2), .unset, .unset, .unset, .unset, .unset, .unset] [(.ref b0)])) _
    refine XS.dup X3.here hx rfl (hb hby at_153) rfl rfl ?_
    show Steps p.tables e below (T3.setTop (mkF m 154 #[.val (.int i0), .val (.int i1), .val (.int i2), .unset, .unset, .unset, .unset, .unset, .unset] [(.ref b0), (.ref b0)])) _
    refine XS.bipush X3.here hx rfl (hb hby at_154) ?_
    show Steps p.tables e below (T3.setTop (mkF m 156 #[.val (.int i0), .val (.int i1), .val (.int i2), .unset, .unset, .unset, .unset, .unset, .unset] [(.int (23 : Int32)), (.ref b0), (.ref b0)])) _
    refine X3.ldcInt hx hown (mvT hZ (hw _ (List.mem_of_getElem? (i := 1) rfl))) (g := (mkF m 156 #[.val (.int i0), .val (.int i1), .val (.int i2), .unset, .unset, .unset, .unset, .unset, .unset] [(.int (23 : Int32)), (.ref b0), (.ref b0)])) rfl (hb hby at_156) _ ?_
    show Steps p.tables e below (T3.setTop (mkF m 158 #[.val (.int i0), .val (.int i1), .val (.int i2), .unset, .unset, .unset, .unset, .unset, .unset] [(.int (55295 : Int32)), (.int (23 : Int32)), (.ref b0), (.ref b0)])) _
    refine st4 _ ?_
    show Steps p.tables e below (T4.setTop (mkF m 159 #[.val (.int i0), .val (.int i1), .val (.int i2), .unset, .unset, .unset, .unset, .unset, .unset] [(.ref b0)])) _
    refine XS.dup X4.here hx rfl (hb hby at_159) rfl rfl ?_
    show Steps p.tables e below (T4.setTop (mkF m 160 #[.val (.int i0), .val (.int i1), .val (.int i2), .unset, .unset, .unset, .unset, .unset, .unset] [(.ref b0), (.ref b0)])) _
    refine XS.bipush X4.here hx rfl (hb hby at_160) ?_
    show Steps p.tables e below (T4.setTop (mkF m 162 #[.val (.int i0), .val (.int i1), .val (.int i2), .unset, .unset, .unset, .unset, .unset, .unset] [(.int (24 : Int32)), (.ref b0), (.ref b0)])) _
    refine X4.ldcInt hx hown (mvT hZ (hw _ (List.mem_of_getElem? (i := 2) rfl))) (g := (mkF m 162 #[.val (.int i0), .val (.int i1), .val (.int i2), .unset, .unset, .unset, .unset, .unset, .unset] [(.int (24 : Int32)), (.ref b0), (.ref b0)])) rfl (hb hby at_162) _ ?_
    show Steps p.tables e below (T4.setTop (mkF m 164 #[.val (.int i0), .val (.int i1), .val (.int i2), .unset, .unset, .unset, .unset, .unset, .unset] [(.int (63744 : Int32)), (.int (24 : Int32)), (.ref b0), (.ref b0)])) _
    refine st5 _ ?_
    exact kt
  obtain ⟨T7, L7, k7, n7, X7, N7, hk7', hn7, st7⟩ := own_b0_165 hx hZ hw hby hml hown hret i0 i1 i2 b0 (own_up (own_up (own_up (own_up (own_up A_b0 (20 : Int32).toNatClampNeg (11264 : Int32)) (21 : Int32).toNatClampNeg (12271 : Int32)) (22 : Int32).toNatClampNeg (12289 : Int32)) (23 : Int32).toNatClampNeg (55295 : Int32)) (24 : Int32).toNatClampNeg (63744 : Int32)) X5 e5 N5 Z5 g_b0 V_b0_k5 
  have hv : (own_f0_132 i0 i1 i2 A_b0) = (own_f0_165 i0 i1 i2 (own_up (own_up (own_up (own_up (own_up A_b0 (20 : Int32).toNatClampNeg (11264 : Int32)) (21 : Int32).toNatClampNeg (12271 : Int32)) (22 : Int32).toNatClampNeg (12289 : Int32)) (23 : Int32).toNatClampNeg (55295 : Int32)) (24 : Int32).toNatClampNeg (63744 : Int32))) := by unfold own_f0_132; rfl
  exact ⟨T7, L7, k7, n7, X7, N7, hk7', hn7, fun fs hr => pre6 _ (st7 fs (by rw [hv] at hr; exact hr))⟩
set_option maxRecDepth 65536 in
set_option maxHeartbeats 40000000 in
theorem own_b0_97 {p : Program} {l : Launch} {e : Env} {s : State} {m : MethodId} {args : Array Value} {below : List Frame} {meth : Method} {c : Code} {Z : State} {a0_ : Array Value} {n0 : Nat} (hx : p.tables.exec = Jvm.exec) (hZ : Z.Warmed39 s.vm) (hw : ∀ d ∈ tables_1, d.before a0_ Z = true) (hby : c.code = code) (hml : c.maxLocals = 9) (hown : s.vm.findClass "com/example/saho/saho/text/XmlCharsIsNcNameStartCharPinLaw" = some m.cls) (hret : meth.sig.returnType = some .boolean) {T0 : State} {locs : List Loc} {h0 : Heap} (i0 : Int32) (i1 : Int32) (i2 : Int32) (b0 : Addr) (A_b0 : Nat → Int32)
    (X0 : Stand p l e room_1 s m args below meth c T0 locs 1 30) (e0 : T0.heap = h0) (N0 : Fr n0 locs) (Z0 : n0 ≤ h0.size) (g_b0 : n0 ≤ b0) (V_b0 : own_Ar Z h0 b0 .int (30 : Int32) A_b0) :
    ∃ T' locs' cells' slots', Stand p l e room_1 s m args below meth c T' locs' cells' slots' ∧ Fr n0 locs' ∧ cells' ≤ room_1.cells ∧ slots' ≤ room_1.slots ∧ ∀ fs, (∀ (f : JFrame) (acts : List Action), f.method = m → f.locked = none → f.entered = [] → (doReturn e (T'.setTop f) acts (some (.int (own_f0_97 i0 i1 i2 A_b0)))).1 = T'.setFrames fs) → Steps p.tables e below (T0.setTop (mkF m 97 #[.val (.int i0), .val (.int i1), .val (.int i2), .unset, .unset, .unset, .unset, .unset, .unset] [(.ref b0)])) (T'.setFrames fs) := by
  obtain ⟨T1, h1, X1, e1, W1, V1, st1⟩ := own_stI X0 hx hZ e0 V_b0 ⟨by decide +kernel, by decide +kernel⟩ (g := (mkF m 103 #[.val (.int i0), .val (.int i1), .val (.int i2), .unset, .unset, .unset, .unset, .unset, .unset] [(.int (8191 : Int32)), (.int (15 : Int32)), (.ref b0), (.ref b0)])) rfl rfl (hb hby at_103)
  have N1 := Fr.snoc X1 N0 g_b0
  have Z1 : n0 ≤ h1.size := Nat.le_trans Z0 (Keep.of_wr W1).1
  have V_b0_k1 := V1
  obtain ⟨T2, h2, X2, e2, W2, V2, st2⟩ := own_stI X1 hx hZ e1 V_b0_k1 ⟨by decide +kernel, by decide +kernel⟩ (g := (mkF m 110 #[.val (.int i0), .val (.int i1), .val (.int i2), .unset, .unset, .unset, .unset, .unset, .unset] [(.int (8204 : Int32)), (.int (16 : Int32)), (.ref b0), (.ref b0)])) rfl rfl (hb hby at_110)
  have N2 := Fr.snoc X2 N1 g_b0
  have Z2 : n0 ≤ h2.size := Nat.le_trans Z1 (Keep.of_wr W2).1
  have V_b0_k2 := V2
  obtain ⟨T3, h3, X3, e3, W3, V3, st3⟩ := own_stI X2 hx hZ e2 V_b0_k2 ⟨by decide +kernel, by decide +kernel⟩ (g := (mkF m 117 #[.val (.int i0), .val (.int i1), .val (.int i2), .unset, .unset, .unset, .unset, .unset, .unset] [(.int (8205 : Int32)), (.int (17 : Int32)), (.ref b0), (.ref b0)])) rfl rfl (hb hby at_117)
  have N3 := Fr.snoc X3 N2 g_b0
  have Z3 : n0 ≤ h3.size := Nat.le_trans Z2 (Keep.of_wr W3).1
  have V_b0_k3 := V3
  obtain ⟨T4, h4, X4, e4, W4, V4, st4⟩ := own_stI X3 hx hZ e3 V_b0_k3 ⟨by decide +kernel, by decide +kernel⟩ (g := (mkF m 124 #[.val (.int i0), .val (.int i1), .val (.int i2), .unset, .unset, .unset, .unset, .unset, .unset] [(.int (8304 : Int32)), (.int (18 : Int32)), (.ref b0), (.ref b0)])) rfl rfl (hb hby at_124)
  have N4 := Fr.snoc X4 N3 g_b0
  have Z4 : n0 ≤ h4.size := Nat.le_trans Z3 (Keep.of_wr W4).1
  have V_b0_k4 := V4
  obtain ⟨T5, h5, X5, e5, W5, V5, st5⟩ := own_stI X4 hx hZ e4 V_b0_k4 ⟨by decide +kernel, by decide +kernel⟩ (g := (mkF m 131 #[.val (.int i0), .val (.int i1), .val (.int i2), .unset, .unset, .unset, .unset, .unset, .unset] [(.int (8591 : Int32)), (.int (19 : Int32)), (.ref b0), (.ref b0)])) rfl rfl (hb hby at_131)
  have N5 := Fr.snoc X5 N4 g_b0
  have Z5 : n0 ≤ h5.size := Nat.le_trans Z4 (Keep.of_wr W5).1
  have V_b0_k5 := V5
  have pre6 : ∀ target, Steps p.tables e below (T5.setTop (mkF m 132 #[.val (.int i0), .val (.int i1), .val (.int i2), .unset, .unset, .unset, .unset, .unset, .unset] [(.ref b0)])) target → Steps p.tables e below (T0.setTop (mkF m 97 #[.val (.int i0), .val (.int i1), .val (.int i2), .unset, .unset, .unset, .unset, .unset, .unset] [(.ref b0)])) target := by
    intro target kt
    show Steps p.tables e below (T0.setTop (mkF m 97 #[.val (.int i0), .val (.int i1), .val (.int i2), .unset, .unset, .unset, .unset, .unset, .unset] [(.ref b0)])) _
    refine XS.dup X0.here hx rfl (hb hby at_97) rfl rfl ?_
    show Steps p.tables e below (T0.setTop (mkF m 98 #[.val (.int i0), .val (.int i1), .val (.int i2), .unset, .unset, .unset, .unset, .unset, .unset] [(.ref b0), (.ref b0)])) _
    refine XS.bipush X0.here hx rfl (hb hby at_98) ?_
    show Steps p.tables e below (T0.setTop (mkF m 100 #[.val (.int i0), .val (.int i1), .val (.int i2), .unset, .unset, .unset, .unset, .unset, .unset] [(.int (15 : Int32)), (.ref b0), (.ref b0)])) _
    refine XS.sipush X0.here hx rfl (hb hby at_100) ?_
    show Steps p.tables e below (T0.setTop (mkF m 103 #[.val (.int i0), .val (.int i1), .val (.int i2), .unset, .unset, .unset, .unset, .unset, .unset] [(.int (8191 : Int32)), (.int (15 : Int32)), (.ref b0), (.ref b0)])) _
    refine st1 _ ?_
    show Steps p.tables e below (T1.setTop (mkF m 104 #[.val (.int i0), .val (.int i1), .val (.int i2), .unset, .unset, .unset, .unset, .unset, .unset] [(.ref b0)])) _
    refine XS.dup X1.here hx rfl (hb hby at_104) rfl rfl ?_
    show Steps p.tables e below (T1.setTop (mkF m 105 #[.val (.int i0), .val (.int i1), .val (.int i2), .unset, .unset, .unset, .unset, .unset, .unset] [(.ref b0), (.ref b0)])) _
    refine XS.bipush X1.here hx rfl (hb hby at_105) ?_
    show Steps p.tables e below (T1.setTop (mkF m 107 #[.val (.int i0), .val (.int i1), .val (.int i2), .unset, .unset, .unset, .unset, .unset, .unset] [(.int (16 : Int32)), (.ref b0), (.ref b0)])) _
    refine XS.sipush X1.here hx rfl (hb hby at_107) ?_
    show Steps p.tables e below (T1.setTop (mkF m 110 #[.val (.int i0), .val (.int i1), .val (.int i2), .unset, .unset, .unset, .unset, .unset, .unset] [(.int (8204 : Int32)), (.int (16 : Int32)), (.ref b0), (.ref b0)])) _
    refine st2 _ ?_
    show Steps p.tables e below (T2.setTop (mkF m 111 #[.val (.int i0), .val (.int i1), .val (.int i2), .unset, .unset, .unset, .unset, .unset, .unset] [(.ref b0)])) _
    refine XS.dup X2.here hx rfl (hb hby at_111) rfl rfl ?_
    show Steps p.tables e below (T2.setTop (mkF m 112 #[.val (.int i0), .val (.int i1), .val (.int i2), .unset, .unset, .unset, .unset, .unset, .unset] [(.ref b0), (.ref b0)])) _
    refine XS.bipush X2.here hx rfl (hb hby at_112) ?_
    show Steps p.tables e below (T2.setTop (mkF m 114 #[.val (.int i0), .val (.int i1), .val (.int i2), .unset, .unset, .unset, .unset, .unset, .unset] [(.int (17 : Int32)), (.ref b0), (.ref b0)])) _
    refine XS.sipush X2.here hx rfl (hb hby at_114) ?_
    show Steps p.tables e below (T2.setTop (mkF m 117 #[.val (.int i0), .val (.int i1), .val (.int i2), .unset, .unset, .unset, .unset, .unset, .unset] [(.int (8205 : Int32)), (.int (17 : Int32)), (.ref b0), (.ref b0)])) _
    refine st3 _ ?_
    show Steps p.tables e below (T3.setTop (mkF m 118 #[.val (.int i0), .val (.int i1), .val (.int i2), .unset, .unset, .unset, .unset, .unset, .unset] [(.ref b0)])) _
    refine XS.dup X3.here hx rfl (hb hby at_118) rfl rfl ?_
    show Steps p.tables e below (T3.setTop (mkF m 119 #[.val (.int i0), .val (.int i1), .val (.int i2), .unset, .unset, .unset, .unset, .unset, .unset] [(.ref b0), (.ref b0)])) _
    refine XS.bipush X3.here hx rfl (hb hby at_119) ?_
    show Steps p.tables e below (T3.setTop (mkF m 121 #[.val (.int i0), .val (.int i1), .val (.int i2), .unset, .unset, .unset, .unset, .unset, .unset] [(.int (18 : Int32)), (.ref b0), (.ref b0)])) _
    refine XS.sipush X3.here hx rfl (hb hby at_121) ?_
    show Steps p.tables e below (T3.setTop (mkF m 124 #[.val (.int i0), .val (.int i1), .val (.int i2), .unset, .unset, .unset, .unset, .unset, .unset] [(.int (8304 : Int32)), (.int (18 : Int32)), (.ref b0), (.ref b0)])) _
    refine st4 _ ?_
    show Steps p.tables e below (T4.setTop (mkF m 125 #[.val (.int i0), .val (.int i1), .val (.int i2), .unset, .unset, .unset, .unset, .unset, .unset] [(.ref b0)])) _
    refine XS.dup X4.here hx rfl (hb hby at_125) rfl rfl ?_
    show Steps p.tables e below (T4.setTop (mkF m 126 #[.val (.int i0), .val (.int i1), .val (.int i2), .unset, .unset, .unset, .unset, .unset, .unset] [(.ref b0), (.ref b0)])) _
    refine XS.bipush X4.here hx rfl (hb hby at_126) ?_
    show Steps p.tables e below (T4.setTop (mkF m 128 #[.val (.int i0), .val (.int i1), .val (.int i2), .unset, .unset, .unset, .unset, .unset, .unset] [(.int (19 : Int32)), (.ref b0), (.ref b0)])) _
    refine XS.sipush X4.here hx rfl (hb hby at_128) ?_
    show Steps p.tables e below (T4.setTop (mkF m 131 #[.val (.int i0), .val (.int i1), .val (.int i2), .unset, .unset, .unset, .unset, .unset, .unset] [(.int (8591 : Int32)), (.int (19 : Int32)), (.ref b0), (.ref b0)])) _
    refine st5 _ ?_
    exact kt
  obtain ⟨T7, L7, k7, n7, X7, N7, hk7', hn7, st7⟩ := own_b0_132 hx hZ hw hby hml hown hret i0 i1 i2 b0 (own_up (own_up (own_up (own_up (own_up A_b0 (15 : Int32).toNatClampNeg (8191 : Int32)) (16 : Int32).toNatClampNeg (8204 : Int32)) (17 : Int32).toNatClampNeg (8205 : Int32)) (18 : Int32).toNatClampNeg (8304 : Int32)) (19 : Int32).toNatClampNeg (8591 : Int32)) X5 e5 N5 Z5 g_b0 V_b0_k5 
  have hv : (own_f0_97 i0 i1 i2 A_b0) = (own_f0_132 i0 i1 i2 (own_up (own_up (own_up (own_up (own_up A_b0 (15 : Int32).toNatClampNeg (8191 : Int32)) (16 : Int32).toNatClampNeg (8204 : Int32)) (17 : Int32).toNatClampNeg (8205 : Int32)) (18 : Int32).toNatClampNeg (8304 : Int32)) (19 : Int32).toNatClampNeg (8591 : Int32))) := by unfold own_f0_97; rfl
  exact ⟨T7, L7, k7, n7, X7, N7, hk7', hn7, fun fs hr => pre6 _ (st7 fs (by rw [hv] at hr; exact hr))⟩
set_option maxRecDepth 65536 in
set_option maxHeartbeats 40000000 in
theorem own_b0_62 {p : Program} {l : Launch} {e : Env} {s : State} {m : MethodId} {args : Array Value} {below : List Frame} {meth : Method} {c : Code} {Z : State} {a0_ : Array Value} {n0 : Nat} (hx : p.tables.exec = Jvm.exec) (hZ : Z.Warmed39 s.vm) (hw : ∀ d ∈ tables_1, d.before a0_ Z = true) (hby : c.code = code) (hml : c.maxLocals = 9) (hown : s.vm.findClass "com/example/saho/saho/text/XmlCharsIsNcNameStartCharPinLaw" = some m.cls) (hret : meth.sig.returnType = some .boolean) {T0 : State} {locs : List Loc} {h0 : Heap} (i0 : Int32) (i1 : Int32) (i2 : Int32) (b0 : Addr) (A_b0 : Nat → Int32)
    (X0 : Stand p l e room_1 s m args below meth c T0 locs 1 30) (e0 : T0.heap = h0) (N0 : Fr n0 locs) (Z0 : n0 ≤ h0.size) (g_b0 : n0 ≤ b0) (V_b0 : own_Ar Z h0 b0 .int (30 : Int32) A_b0) :
    ∃ T' locs' cells' slots', Stand p l e room_1 s m args below meth c T' locs' cells' slots' ∧ Fr n0 locs' ∧ cells' ≤ room_1.cells ∧ slots' ≤ room_1.slots ∧ ∀ fs, (∀ (f : JFrame) (acts : List Action), f.method = m → f.locked = none → f.entered = [] → (doReturn e (T'.setTop f) acts (some (.int (own_f0_62 i0 i1 i2 A_b0)))).1 = T'.setFrames fs) → Steps p.tables e below (T0.setTop (mkF m 62 #[.val (.int i0), .val (.int i1), .val (.int i2), .unset, .unset, .unset, .unset, .unset, .unset] [(.ref b0)])) (T'.setFrames fs) := by
  obtain ⟨T1, h1, X1, e1, W1, V1, st1⟩ := own_stI X0 hx hZ e0 V_b0 ⟨by decide +kernel, by decide +kernel⟩ (g := (mkF m 68 #[.val (.int i0), .val (.int i1), .val (.int i2), .unset, .unset, .unset, .unset, .unset, .unset] [(.int (248 : Int32)), (.int (10 : Int32)), (.ref b0), (.ref b0)])) rfl rfl (hb hby at_68)
  have N1 := Fr.snoc X1 N0 g_b0
  have Z1 : n0 ≤ h1.size := Nat.le_trans Z0 (Keep.of_wr W1).1
  have V_b0_k1 := V1
  obtain ⟨T2, h2, X2, e2, W2, V2, st2⟩ := own_stI X1 hx hZ e1 V_b0_k1 ⟨by decide +kernel, by decide +kernel⟩ (g := (mkF m 75 #[.val (.int i0), .val (.int i1), .val (.int i2), .unset, .unset, .unset, .unset, .unset, .unset] [(.int (767 : Int32)), (.int (11 : Int32)), (.ref b0), (.ref b0)])) rfl rfl (hb hby at_75)
  have N2 := Fr.snoc X2 N1 g_b0
  have Z2 : n0 ≤ h2.size := Nat.le_trans Z1 (Keep.of_wr W2).1
  have V_b0_k2 := V2
  obtain ⟨T3, h3, X3, e3, W3, V3, st3⟩ := own_stI X2 hx hZ e2 V_b0_k2 ⟨by decide +kernel, by decide +kernel⟩ (g := (mkF m 82 #[.val (.int i0), .val (.int i1), .val (.int i2), .unset, .unset, .unset, .unset, .unset, .unset] [(.int (880 : Int32)), (.int (12 : Int32)), (.ref b0), (.ref b0)])) rfl rfl (hb hby at_82)
  have N3 := Fr.snoc X3 N2 g_b0
  have Z3 : n0 ≤ h3.size := Nat.le_trans Z2 (Keep.of_wr W3).1
  have V_b0_k3 := V3
  obtain ⟨T4, h4, X4, e4, W4, V4, st4⟩ := own_stI X3 hx hZ e3 V_b0_k3 ⟨by decide +kernel, by decide +kernel⟩ (g := (mkF m 89 #[.val (.int i0), .val (.int i1), .val (.int i2), .unset, .unset, .unset, .unset, .unset, .unset] [(.int (893 : Int32)), (.int (13 : Int32)), (.ref b0), (.ref b0)])) rfl rfl (hb hby at_89)
  have N4 := Fr.snoc X4 N3 g_b0
  have Z4 : n0 ≤ h4.size := Nat.le_trans Z3 (Keep.of_wr W4).1
  have V_b0_k4 := V4
  obtain ⟨T5, h5, X5, e5, W5, V5, st5⟩ := own_stI X4 hx hZ e4 V_b0_k4 ⟨by decide +kernel, by decide +kernel⟩ (g := (mkF m 96 #[.val (.int i0), .val (.int i1), .val (.int i2), .unset, .unset, .unset, .unset, .unset, .unset] [(.int (895 : Int32)), (.int (14 : Int32)), (.ref b0), (.ref b0)])) rfl rfl (hb hby at_96)
  have N5 := Fr.snoc X5 N4 g_b0
  have Z5 : n0 ≤ h5.size := Nat.le_trans Z4 (Keep.of_wr W5).1
  have V_b0_k5 := V5
  have pre6 : ∀ target, Steps p.tables e below (T5.setTop (mkF m 97 #[.val (.int i0), .val (.int i1), .val (.int i2), .unset, .unset, .unset, .unset, .unset, .unset] [(.ref b0)])) target → Steps p.tables e below (T0.setTop (mkF m 62 #[.val (.int i0), .val (.int i1), .val (.int i2), .unset, .unset, .unset, .unset, .unset, .unset] [(.ref b0)])) target := by
    intro target kt
    show Steps p.tables e below (T0.setTop (mkF m 62 #[.val (.int i0), .val (.int i1), .val (.int i2), .unset, .unset, .unset, .unset, .unset, .unset] [(.ref b0)])) _
    refine XS.dup X0.here hx rfl (hb hby at_62) rfl rfl ?_
    show Steps p.tables e below (T0.setTop (mkF m 63 #[.val (.int i0), .val (.int i1), .val (.int i2), .unset, .unset, .unset, .unset, .unset, .unset] [(.ref b0), (.ref b0)])) _
    refine XS.bipush X0.here hx rfl (hb hby at_63) ?_
    show Steps p.tables e below (T0.setTop (mkF m 65 #[.val (.int i0), .val (.int i1), .val (.int i2), .unset, .unset, .unset, .unset, .unset, .unset] [(.int (10 : Int32)), (.ref b0), (.ref b0)])) _
    refine XS.sipush X0.here hx rfl (hb hby at_65) ?_
    show Steps p.tables e below (T0.setTop (mkF m 68 #[.val (.int i0), .val (.int i1), .val (.int i2), .unset, .unset, .unset, .unset, .unset, .unset] [(.int (248 : Int32)), (.int (10 : Int32)), (.ref b0), (.ref b0)])) _
    refine st1 _ ?_
    show Steps p.tables e below (T1.setTop (mkF m 69 #[.val (.int i0), .val (.int i1), .val (.int i2), .unset, .unset, .unset, .unset, .unset, .unset] [(.ref b0)])) _
    refine XS.dup X1.here hx rfl (hb hby at_69) rfl rfl ?_
    show Steps p.tables e below (T1.setTop (mkF m 70 #[.val (.int i0), .val (.int i1), .val (.int i2), .unset, .unset, .unset, .unset, .unset, .unset] [(.ref b0), (.ref b0)])) _
    refine XS.bipush X1.here hx rfl (hb hby at_70) ?_
    show Steps p.tables e below (T1.setTop (mkF m 72 #[.val (.int i0), .val (.int i1), .val (.int i2), .unset, .unset, .unset, .unset, .unset, .unset] [(.int (11 : Int32)), (.ref b0), (.ref b0)])) _
    refine XS.sipush X1.here hx rfl (hb hby at_72) ?_
    show Steps p.tables e below (T1.setTop (mkF m 75 #[.val (.int i0), .val (.int i1), .val (.int i2), .unset, .unset, .unset, .unset, .unset, .unset] [(.int (767 : Int32)), (.int (11 : Int32)), (.ref b0), (.ref b0)])) _
    refine st2 _ ?_
    show Steps p.tables e below (T2.setTop (mkF m 76 #[.val (.int i0), .val (.int i1), .val (.int i2), .unset, .unset, .unset, .unset, .unset, .unset] [(.ref b0)])) _
    refine XS.dup X2.here hx rfl (hb hby at_76) rfl rfl ?_
    show Steps p.tables e below (T2.setTop (mkF m 77 #[.val (.int i0), .val (.int i1), .val (.int i2), .unset, .unset, .unset, .unset, .unset, .unset] [(.ref b0), (.ref b0)])) _
    refine XS.bipush X2.here hx rfl (hb hby at_77) ?_
    show Steps p.tables e below (T2.setTop (mkF m 79 #[.val (.int i0), .val (.int i1), .val (.int i2), .unset, .unset, .unset, .unset, .unset, .unset] [(.int (12 : Int32)), (.ref b0), (.ref b0)])) _
    refine XS.sipush X2.here hx rfl (hb hby at_79) ?_
    show Steps p.tables e below (T2.setTop (mkF m 82 #[.val (.int i0), .val (.int i1), .val (.int i2), .unset, .unset, .unset, .unset, .unset, .unset] [(.int (880 : Int32)), (.int (12 : Int32)), (.ref b0), (.ref b0)])) _
    refine st3 _ ?_
    show Steps p.tables e below (T3.setTop (mkF m 83 #[.val (.int i0), .val (.int i1), .val (.int i2), .unset, .unset, .unset, .unset, .unset, .unset] [(.ref b0)])) _
    refine XS.dup X3.here hx rfl (hb hby at_83) rfl rfl ?_
    show Steps p.tables e below (T3.setTop (mkF m 84 #[.val (.int i0), .val (.int i1), .val (.int i2), .unset, .unset, .unset, .unset, .unset, .unset] [(.ref b0), (.ref b0)])) _
    refine XS.bipush X3.here hx rfl (hb hby at_84) ?_
    show Steps p.tables e below (T3.setTop (mkF m 86 #[.val (.int i0), .val (.int i1), .val (.int i2), .unset, .unset, .unset, .unset, .unset, .unset] [(.int (13 : Int32)), (.ref b0), (.ref b0)])) _
    refine XS.sipush X3.here hx rfl (hb hby at_86) ?_
    show Steps p.tables e below (T3.setTop (mkF m 89 #[.val (.int i0), .val (.int i1), .val (.int i2), .unset, .unset, .unset, .unset, .unset, .unset] [(.int (893 : Int32)), (.int (13 : Int32)), (.ref b0), (.ref b0)])) _
    refine st4 _ ?_
    show Steps p.tables e below (T4.setTop (mkF m 90 #[.val (.int i0), .val (.int i1), .val (.int i2), .unset, .unset, .unset, .unset, .unset, .unset] [(.ref b0)])) _
    refine XS.dup X4.here hx rfl (hb hby at_90) rfl rfl ?_
    show Steps p.tables e below (T4.setTop (mkF m 91 #[.val (.int i0), .val (.int i1), .val (.int i2), .unset, .unset, .unset, .unset, .unset, .unset] [(.ref b0), (.ref b0)])) _
    refine XS.bipush X4.here hx rfl (hb hby at_91) ?_
    show Steps p.tables e below (T4.setTop (mkF m 93 #[.val (.int i0), .val (.int i1), .val (.int i2), .unset, .unset, .unset, .unset, .unset, .unset] [(.int (14 : Int32)), (.ref b0), (.ref b0)])) _
    refine XS.sipush X4.here hx rfl (hb hby at_93) ?_
    show Steps p.tables e below (T4.setTop (mkF m 96 #[.val (.int i0), .val (.int i1), .val (.int i2), .unset, .unset, .unset, .unset, .unset, .unset] [(.int (895 : Int32)), (.int (14 : Int32)), (.ref b0), (.ref b0)])) _
    refine st5 _ ?_
    exact kt
  obtain ⟨T7, L7, k7, n7, X7, N7, hk7', hn7, st7⟩ := own_b0_97 hx hZ hw hby hml hown hret i0 i1 i2 b0 (own_up (own_up (own_up (own_up (own_up A_b0 (10 : Int32).toNatClampNeg (248 : Int32)) (11 : Int32).toNatClampNeg (767 : Int32)) (12 : Int32).toNatClampNeg (880 : Int32)) (13 : Int32).toNatClampNeg (893 : Int32)) (14 : Int32).toNatClampNeg (895 : Int32)) X5 e5 N5 Z5 g_b0 V_b0_k5 
  have hv : (own_f0_62 i0 i1 i2 A_b0) = (own_f0_97 i0 i1 i2 (own_up (own_up (own_up (own_up (own_up A_b0 (10 : Int32).toNatClampNeg (248 : Int32)) (11 : Int32).toNatClampNeg (767 : Int32)) (12 : Int32).toNatClampNeg (880 : Int32)) (13 : Int32).toNatClampNeg (893 : Int32)) (14 : Int32).toNatClampNeg (895 : Int32))) := by unfold own_f0_62; rfl
  exact ⟨T7, L7, k7, n7, X7, N7, hk7', hn7, fun fs hr => pre6 _ (st7 fs (by rw [hv] at hr; exact hr))⟩
set_option maxRecDepth 65536 in
set_option maxHeartbeats 40000000 in
theorem own_b0_29 {p : Program} {l : Launch} {e : Env} {s : State} {m : MethodId} {args : Array Value} {below : List Frame} {meth : Method} {c : Code} {Z : State} {a0_ : Array Value} {n0 : Nat} (hx : p.tables.exec = Jvm.exec) (hZ : Z.Warmed39 s.vm) (hw : ∀ d ∈ tables_1, d.before a0_ Z = true) (hby : c.code = code) (hml : c.maxLocals = 9) (hown : s.vm.findClass "com/example/saho/saho/text/XmlCharsIsNcNameStartCharPinLaw" = some m.cls) (hret : meth.sig.returnType = some .boolean) {T0 : State} {locs : List Loc} {h0 : Heap} (i0 : Int32) (i1 : Int32) (i2 : Int32) (b0 : Addr) (A_b0 : Nat → Int32)
    (X0 : Stand p l e room_1 s m args below meth c T0 locs 1 30) (e0 : T0.heap = h0) (N0 : Fr n0 locs) (Z0 : n0 ≤ h0.size) (g_b0 : n0 ≤ b0) (V_b0 : own_Ar Z h0 b0 .int (30 : Int32) A_b0) :
    ∃ T' locs' cells' slots', Stand p l e room_1 s m args below meth c T' locs' cells' slots' ∧ Fr n0 locs' ∧ cells' ≤ room_1.cells ∧ slots' ≤ room_1.slots ∧ ∀ fs, (∀ (f : JFrame) (acts : List Action), f.method = m → f.locked = none → f.entered = [] → (doReturn e (T'.setTop f) acts (some (.int (own_f0_29 i0 i1 i2 A_b0)))).1 = T'.setFrames fs) → Steps p.tables e below (T0.setTop (mkF m 29 #[.val (.int i0), .val (.int i1), .val (.int i2), .unset, .unset, .unset, .unset, .unset, .unset] [(.ref b0)])) (T'.setFrames fs) := by
  obtain ⟨T1, h1, X1, e1, W1, V1, st1⟩ := own_stI X0 hx hZ e0 V_b0 ⟨by decide +kernel, by decide +kernel⟩ (g := (mkF m 33 #[.val (.int i0), .val (.int i1), .val (.int i2), .unset, .unset, .unset, .unset, .unset, .unset] [(.int (122 : Int32)), (.int (5 : Int32)), (.ref b0), (.ref b0)])) rfl rfl (hb hby at_33)
  have N1 := Fr.snoc X1 N0 g_b0
  have Z1 : n0 ≤ h1.size := Nat.le_trans Z0 (Keep.of_wr W1).1
  have V_b0_k1 := V1
  obtain ⟨T2, h2, X2, e2, W2, V2, st2⟩ := own_stI X1 hx hZ e1 V_b0_k1 ⟨by decide +kernel, by decide +kernel⟩ (g := (mkF m 40 #[.val (.int i0), .val (.int i1), .val (.int i2), .unset, .unset, .unset, .unset, .unset, .unset] [(.int (192 : Int32)), (.int (6 : Int32)), (.ref b0), (.ref b0)])) rfl rfl (hb hby at_40)
  have N2 := Fr.snoc X2 N1 g_b0
  have Z2 : n0 ≤ h2.size := Nat.le_trans Z1 (Keep.of_wr W2).1
  have V_b0_k2 := V2
  obtain ⟨T3, h3, X3, e3, W3, V3, st3⟩ := own_stI X2 hx hZ e2 V_b0_k2 ⟨by decide +kernel, by decide +kernel⟩ (g := (mkF m 47 #[.val (.int i0), .val (.int i1), .val (.int i2), .unset, .unset, .unset, .unset, .unset, .unset] [(.int (214 : Int32)), (.int (7 : Int32)), (.ref b0), (.ref b0)])) rfl rfl (hb hby at_47)
  have N3 := Fr.snoc X3 N2 g_b0
  have Z3 : n0 ≤ h3.size := Nat.le_trans Z2 (Keep.of_wr W3).1
  have V_b0_k3 := V3
  obtain ⟨T4, h4, X4, e4, W4, V4, st4⟩ := own_stI X3 hx hZ e3 V_b0_k3 ⟨by decide +kernel, by decide +kernel⟩ (g := (mkF m 54 #[.val (.int i0), .val (.int i1), .val (.int i2), .unset, .unset, .unset, .unset, .unset, .unset] [(.int (216 : Int32)), (.int (8 : Int32)), (.ref b0), (.ref b0)])) rfl rfl (hb hby at_54)
  have N4 := Fr.snoc X4 N3 g_b0
  have Z4 : n0 ≤ h4.size := Nat.le_trans Z3 (Keep.of_wr W4).1
  have V_b0_k4 := V4
  obtain ⟨T5, h5, X5, e5, W5, V5, st5⟩ := own_stI X4 hx hZ e4 V_b0_k4 ⟨by decide +kernel, by decide +kernel⟩ (g := (mkF m 61 #[.val (.int i0), .val (.int i1), .val (.int i2), .unset, .unset, .unset, .unset, .unset, .unset] [(.int (246 : Int32)), (.int (9 : Int32)), (.ref b0), (.ref b0)])) rfl rfl (hb hby at_61)
  have N5 := Fr.snoc X5 N4 g_b0
  have Z5 : n0 ≤ h5.size := Nat.le_trans Z4 (Keep.of_wr W5).1
  have V_b0_k5 := V5
  have pre6 : ∀ target, Steps p.tables e below (T5.setTop (mkF m 62 #[.val (.int i0), .val (.int i1), .val (.int i2), .unset, .unset, .unset, .unset, .unset, .unset] [(.ref b0)])) target → Steps p.tables e below (T0.setTop (mkF m 29 #[.val (.int i0), .val (.int i1), .val (.int i2), .unset, .unset, .unset, .unset, .unset, .unset] [(.ref b0)])) target := by
    intro target kt
    show Steps p.tables e below (T0.setTop (mkF m 29 #[.val (.int i0), .val (.int i1), .val (.int i2), .unset, .unset, .unset, .unset, .unset, .unset] [(.ref b0)])) _
    refine XS.dup X0.here hx rfl (hb hby at_29) rfl rfl ?_
    show Steps p.tables e below (T0.setTop (mkF m 30 #[.val (.int i0), .val (.int i1), .val (.int i2), .unset, .unset, .unset, .unset, .unset, .unset] [(.ref b0), (.ref b0)])) _
    refine XS.iconst X0.here hx rfl (hb hby at_30) ?_
    show Steps p.tables e below (T0.setTop (mkF m 31 #[.val (.int i0), .val (.int i1), .val (.int i2), .unset, .unset, .unset, .unset, .unset, .unset] [(.int (5 : Int32)), (.ref b0), (.ref b0)])) _
    refine XS.bipush X0.here hx rfl (hb hby at_31) ?_
    show Steps p.tables e below (T0.setTop (mkF m 33 #[.val (.int i0), .val (.int i1), .val (.int i2), .unset, .unset, .unset, .unset, .unset, .unset] [(.int (122 : Int32)), (.int (5 : Int32)), (.ref b0), (.ref b0)])) _
    refine st1 _ ?_
    show Steps p.tables e below (T1.setTop (mkF m 34 #[.val (.int i0), .val (.int i1), .val (.int i2), .unset, .unset, .unset, .unset, .unset, .unset] [(.ref b0)])) _
    refine XS.dup X1.here hx rfl (hb hby at_34) rfl rfl ?_
    show Steps p.tables e below (T1.setTop (mkF m 35 #[.val (.int i0), .val (.int i1), .val (.int i2), .unset, .unset, .unset, .unset, .unset, .unset] [(.ref b0), (.ref b0)])) _
    refine XS.bipush X1.here hx rfl (hb hby at_35) ?_
    show Steps p.tables e below (T1.setTop (mkF m 37 #[.val (.int i0), .val (.int i1), .val (.int i2), .unset, .unset, .unset, .unset, .unset, .unset] [(.int (6 : Int32)), (.ref b0), (.ref b0)])) _
    refine XS.sipush X1.here hx rfl (hb hby at_37) ?_
    show Steps p.tables e below (T1.setTop (mkF m 40 #[.val (.int i0), .val (.int i1), .val (.int i2), .unset, .unset, .unset, .unset, .unset, .unset] [(.int (192 : Int32)), (.int (6 : Int32)), (.ref b0), (.ref b0)])) _
    refine st2 _ ?_
    show Steps p.tables e below (T2.setTop (mkF m 41 #[.val (.int i0), .val (.int i1), .val (.int i2), .unset, .unset, .unset, .unset, .unset, .unset] [(.ref b0)])) _
    refine XS.dup X2.here hx rfl (hb hby at_41) rfl rfl ?_
    show Steps p.tables e below (T2.setTop (mkF m 42 #[.val (.int i0), .val (.int i1), .val (.int i2), .unset, .unset, .unset, .unset, .unset, .unset] [(.ref b0), (.ref b0)])) _
    refine XS.bipush X2.here hx rfl (hb hby at_42) ?_
    show Steps p.tables e below (T2.setTop (mkF m 44 #[.val (.int i0), .val (.int i1), .val (.int i2), .unset, .unset, .unset, .unset, .unset, .unset] [(.int (7 : Int32)), (.ref b0), (.ref b0)])) _
    refine XS.sipush X2.here hx rfl (hb hby at_44) ?_
    show Steps p.tables e below (T2.setTop (mkF m 47 #[.val (.int i0), .val (.int i1), .val (.int i2), .unset, .unset, .unset, .unset, .unset, .unset] [(.int (214 : Int32)), (.int (7 : Int32)), (.ref b0), (.ref b0)])) _
    refine st3 _ ?_
    show Steps p.tables e below (T3.setTop (mkF m 48 #[.val (.int i0), .val (.int i1), .val (.int i2), .unset, .unset, .unset, .unset, .unset, .unset] [(.ref b0)])) _
    refine XS.dup X3.here hx rfl (hb hby at_48) rfl rfl ?_
    show Steps p.tables e below (T3.setTop (mkF m 49 #[.val (.int i0), .val (.int i1), .val (.int i2), .unset, .unset, .unset, .unset, .unset, .unset] [(.ref b0), (.ref b0)])) _
    refine XS.bipush X3.here hx rfl (hb hby at_49) ?_
    show Steps p.tables e below (T3.setTop (mkF m 51 #[.val (.int i0), .val (.int i1), .val (.int i2), .unset, .unset, .unset, .unset, .unset, .unset] [(.int (8 : Int32)), (.ref b0), (.ref b0)])) _
    refine XS.sipush X3.here hx rfl (hb hby at_51) ?_
    show Steps p.tables e below (T3.setTop (mkF m 54 #[.val (.int i0), .val (.int i1), .val (.int i2), .unset, .unset, .unset, .unset, .unset, .unset] [(.int (216 : Int32)), (.int (8 : Int32)), (.ref b0), (.ref b0)])) _
    refine st4 _ ?_
    show Steps p.tables e below (T4.setTop (mkF m 55 #[.val (.int i0), .val (.int i1), .val (.int i2), .unset, .unset, .unset, .unset, .unset, .unset] [(.ref b0)])) _
    refine XS.dup X4.here hx rfl (hb hby at_55) rfl rfl ?_
    show Steps p.tables e below (T4.setTop (mkF m 56 #[.val (.int i0), .val (.int i1), .val (.int i2), .unset, .unset, .unset, .unset, .unset, .unset] [(.ref b0), (.ref b0)])) _
    refine XS.bipush X4.here hx rfl (hb hby at_56) ?_
    show Steps p.tables e below (T4.setTop (mkF m 58 #[.val (.int i0), .val (.int i1), .val (.int i2), .unset, .unset, .unset, .unset, .unset, .unset] [(.int (9 : Int32)), (.ref b0), (.ref b0)])) _
    refine XS.sipush X4.here hx rfl (hb hby at_58) ?_
    show Steps p.tables e below (T4.setTop (mkF m 61 #[.val (.int i0), .val (.int i1), .val (.int i2), .unset, .unset, .unset, .unset, .unset, .unset] [(.int (246 : Int32)), (.int (9 : Int32)), (.ref b0), (.ref b0)])) _
    refine st5 _ ?_
    exact kt
  obtain ⟨T7, L7, k7, n7, X7, N7, hk7', hn7, st7⟩ := own_b0_62 hx hZ hw hby hml hown hret i0 i1 i2 b0 (own_up (own_up (own_up (own_up (own_up A_b0 (5 : Int32).toNatClampNeg (122 : Int32)) (6 : Int32).toNatClampNeg (192 : Int32)) (7 : Int32).toNatClampNeg (214 : Int32)) (8 : Int32).toNatClampNeg (216 : Int32)) (9 : Int32).toNatClampNeg (246 : Int32)) X5 e5 N5 Z5 g_b0 V_b0_k5 
  have hv : (own_f0_29 i0 i1 i2 A_b0) = (own_f0_62 i0 i1 i2 (own_up (own_up (own_up (own_up (own_up A_b0 (5 : Int32).toNatClampNeg (122 : Int32)) (6 : Int32).toNatClampNeg (192 : Int32)) (7 : Int32).toNatClampNeg (214 : Int32)) (8 : Int32).toNatClampNeg (216 : Int32)) (9 : Int32).toNatClampNeg (246 : Int32))) := by unfold own_f0_29; rfl
  exact ⟨T7, L7, k7, n7, X7, N7, hk7', hn7, fun fs hr => pre6 _ (st7 fs (by rw [hv] at hr; exact hr))⟩
set_option maxRecDepth 65536 in
set_option maxHeartbeats 40000000 in
theorem own_b0_0 {p : Program} {l : Launch} {e : Env} {s : State} {m : MethodId} {args : Array Value} {below : List Frame} {meth : Method} {c : Code} {Z : State} {a0_ : Array Value} {n0 : Nat} (hx : p.tables.exec = Jvm.exec) (hZ : Z.Warmed39 s.vm) (hw : ∀ d ∈ tables_1, d.before a0_ Z = true) (hby : c.code = code) (hml : c.maxLocals = 9) (hown : s.vm.findClass "com/example/saho/saho/text/XmlCharsIsNcNameStartCharPinLaw" = some m.cls) (hret : meth.sig.returnType = some .boolean) {T0 : State} {locs : List Loc} {h0 : Heap} (i0 : Int32) (i1 : Int32) (i2 : Int32)
    (X0 : Stand p l e room_1 s m args below meth c T0 locs 0 0) (e0 : T0.heap = h0) (N0 : Fr n0 locs) (Z0 : n0 ≤ h0.size)  :
    ∃ T' locs' cells' slots', Stand p l e room_1 s m args below meth c T' locs' cells' slots' ∧ Fr n0 locs' ∧ cells' ≤ room_1.cells ∧ slots' ≤ room_1.slots ∧ ∀ fs, (∀ (f : JFrame) (acts : List Action), f.method = m → f.locked = none → f.entered = [] → (doReturn e (T'.setTop f) acts (some (.int (own_f0_0 i0 i1 i2)))).1 = T'.setFrames fs) → Steps p.tables e below (T0.setTop (mkF m 0 #[.val (.int i0), .val (.int i1), .val (.int i2), .unset, .unset, .unset, .unset, .unset, .unset] [])) (T'.setFrames fs) := by
  obtain ⟨T1, h1, k1, X1, e1, E1, A1, st1⟩ := newP X0 hx hZ (hw _ (List.mem_of_getElem? (i := 0) rfl)) e0 (g := (mkF m 2 #[.val (.int i0), .val (.int i1), .val (.int i2), .unset, .unset, .unset, .unset, .unset, .unset] [(.int (30 : Int32))])) rfl (hb hby at_2) rfl (by decide) (cap := 30) (by decide) (by decide) (by decide) (by decide)
  obtain ⟨b1, g1⟩ : ∃ z, z = h0.size := ⟨_, rfl⟩
  rw [← g1] at A1 st1
  have g_b1 : n0 ≤ b1 := Nat.le_trans Z0 (Nat.le_of_eq g1.symm)
  have Z1 : n0 ≤ h1.size := Nat.le_trans Z0 E1.1
  have V_b1 : own_Ar Z h1 b1 .int (30 : Int32) (fun _ => 0) := own_Ar.new A1 (by decide) rfl
  obtain ⟨T2, h2, X2, e2, W2, V2, st2⟩ := own_stI X1 hx hZ e1 V_b1 ⟨by decide +kernel, by decide +kernel⟩ (g := (mkF m 8 #[.val (.int i0), .val (.int i1), .val (.int i2), .unset, .unset, .unset, .unset, .unset, .unset] [(.int (58 : Int32)), (.int (0 : Int32)), (.ref b1), (.ref b1)])) rfl rfl (hb hby at_8)
  have N2 := Fr.snoc X2 N0 g_b1
  have Z2 : n0 ≤ h2.size := Nat.le_trans Z1 (Keep.of_wr W2).1
  have V_b1_k2 := V2
  obtain ⟨T3, h3, X3, e3, W3, V3, st3⟩ := own_stI X2 hx hZ e2 V_b1_k2 ⟨by decide +kernel, by decide +kernel⟩ (g := (mkF m 13 #[.val (.int i0), .val (.int i1), .val (.int i2), .unset, .unset, .unset, .unset, .unset, .unset] [(.int (65 : Int32)), (.int (1 : Int32)), (.ref b1), (.ref b1)])) rfl rfl (hb hby at_13)
  have N3 := Fr.snoc X3 N2 g_b1
  have Z3 : n0 ≤ h3.size := Nat.le_trans Z2 (Keep.of_wr W3).1
  have V_b1_k3 := V3
  obtain ⟨T4, h4, X4, e4, W4, V4, st4⟩ := own_stI X3 hx hZ e3 V_b1_k3 ⟨by decide +kernel, by decide +kernel⟩ (g := (mkF m 18 #[.val (.int i0), .val (.int i1), .val (.int i2), .unset, .unset, .unset, .unset, .unset, .unset] [(.int (90 : Int32)), (.int (2 : Int32)), (.ref b1), (.ref b1)])) rfl rfl (hb hby at_18)
  have N4 := Fr.snoc X4 N3 g_b1
  have Z4 : n0 ≤ h4.size := Nat.le_trans Z3 (Keep.of_wr W4).1
  have V_b1_k4 := V4
  obtain ⟨T5, h5, X5, e5, W5, V5, st5⟩ := own_stI X4 hx hZ e4 V_b1_k4 ⟨by decide +kernel, by decide +kernel⟩ (g := (mkF m 23 #[.val (.int i0), .val (.int i1), .val (.int i2), .unset, .unset, .unset, .unset, .unset, .unset] [(.int (95 : Int32)), (.int (3 : Int32)), (.ref b1), (.ref b1)])) rfl rfl (hb hby at_23)
  have N5 := Fr.snoc X5 N4 g_b1
  have Z5 : n0 ≤ h5.size := Nat.le_trans Z4 (Keep.of_wr W5).1
  have V_b1_k5 := V5
  obtain ⟨T6, h6, X6, e6, W6, V6, st6⟩ := own_stI X5 hx hZ e5 V_b1_k5 ⟨by decide +kernel, by decide +kernel⟩ (g := (mkF m 28 #[.val (.int i0), .val (.int i1), .val (.int i2), .unset, .unset, .unset, .unset, .unset, .unset] [(.int (97 : Int32)), (.int (4 : Int32)), (.ref b1), (.ref b1)])) rfl rfl (hb hby at_28)
  have N6 := Fr.snoc X6 N5 g_b1
  have Z6 : n0 ≤ h6.size := Nat.le_trans Z5 (Keep.of_wr W6).1
  have V_b1_k6 := V6
  have pre7 : ∀ target, Steps p.tables e below (T6.setTop (mkF m 29 #[.val (.int i0), .val (.int i1), .val (.int i2), .unset, .unset, .unset, .unset, .unset, .unset] [(.ref b1)])) target → Steps p.tables e below (T0.setTop (mkF m 0 #[.val (.int i0), .val (.int i1), .val (.int i2), .unset, .unset, .unset, .unset, .unset, .unset] [])) target := by
    intro target kt
    show Steps p.tables e below (T0.setTop (mkF m 0 #[.val (.int i0), .val (.int i1), .val (.int i2), .unset, .unset, .unset, .unset, .unset, .unset] [])) _
    refine XS.bipush X0.here hx rfl (hb hby at_0) ?_
    show Steps p.tables e below (T0.setTop (mkF m 2 #[.val (.int i0), .val (.int i1), .val (.int i2), .unset, .unset, .unset, .unset, .unset, .unset] [(.int (30 : Int32))])) _
    refine st1 _ ?_
    show Steps p.tables e below (T1.setTop (mkF m 4 #[.val (.int i0), .val (.int i1), .val (.int i2), .unset, .unset, .unset, .unset, .unset, .unset] [(.ref b1)])) _
    refine XS.dup X1.here hx rfl (hb hby at_4) rfl rfl ?_
    show Steps p.tables e below (T1.setTop (mkF m 5 #[.val (.int i0), .val (.int i1), .val (.int i2), .unset, .unset, .unset, .unset, .unset, .unset] [(.ref b1), (.ref b1)])) _
    refine XS.iconst X1.here hx rfl (hb hby at_5) ?_
    show Steps p.tables e below (T1.setTop (mkF m 6 #[.val (.int i0), .val (.int i1), .val (.int i2), .unset, .unset, .unset, .unset, .unset, .unset] [(.int (0 : Int32)), (.ref b1), (.ref b1)])) _
    refine XS.bipush X1.here hx rfl (hb hby at_6) ?_
    show Steps p.tables e below (T1.setTop (mkF m 8 #[.val (.int i0), .val (.int i1), .val (.int i2), .unset, .unset, .unset, .unset, .unset, .unset] [(.int (58 : Int32)), (.int (0 : Int32)), (.ref b1), (.ref b1)])) _
    refine st2 _ ?_
    show Steps p.tables e below (T2.setTop (mkF m 9 #[.val (.int i0), .val (.int i1), .val (.int i2), .unset, .unset, .unset, .unset, .unset, .unset] [(.ref b1)])) _
    refine XS.dup X2.here hx rfl (hb hby at_9) rfl rfl ?_
    show Steps p.tables e below (T2.setTop (mkF m 10 #[.val (.int i0), .val (.int i1), .val (.int i2), .unset, .unset, .unset, .unset, .unset, .unset] [(.ref b1), (.ref b1)])) _
    refine XS.iconst X2.here hx rfl (hb hby at_10) ?_
    show Steps p.tables e below (T2.setTop (mkF m 11 #[.val (.int i0), .val (.int i1), .val (.int i2), .unset, .unset, .unset, .unset, .unset, .unset] [(.int (1 : Int32)), (.ref b1), (.ref b1)])) _
    refine XS.bipush X2.here hx rfl (hb hby at_11) ?_
    show Steps p.tables e below (T2.setTop (mkF m 13 #[.val (.int i0), .val (.int i1), .val (.int i2), .unset, .unset, .unset, .unset, .unset, .unset] [(.int (65 : Int32)), (.int (1 : Int32)), (.ref b1), (.ref b1)])) _
    refine st3 _ ?_
    show Steps p.tables e below (T3.setTop (mkF m 14 #[.val (.int i0), .val (.int i1), .val (.int i2), .unset, .unset, .unset, .unset, .unset, .unset] [(.ref b1)])) _
    refine XS.dup X3.here hx rfl (hb hby at_14) rfl rfl ?_
    show Steps p.tables e below (T3.setTop (mkF m 15 #[.val (.int i0), .val (.int i1), .val (.int i2), .unset, .unset, .unset, .unset, .unset, .unset] [(.ref b1), (.ref b1)])) _
    refine XS.iconst X3.here hx rfl (hb hby at_15) ?_
    show Steps p.tables e below (T3.setTop (mkF m 16 #[.val (.int i0), .val (.int i1), .val (.int i2), .unset, .unset, .unset, .unset, .unset, .unset] [(.int (2 : Int32)), (.ref b1), (.ref b1)])) _
    refine XS.bipush X3.here hx rfl (hb hby at_16) ?_
    show Steps p.tables e below (T3.setTop (mkF m 18 #[.val (.int i0), .val (.int i1), .val (.int i2), .unset, .unset, .unset, .unset, .unset, .unset] [(.int (90 : Int32)), (.int (2 : Int32)), (.ref b1), (.ref b1)])) _
    refine st4 _ ?_
    show Steps p.tables e below (T4.setTop (mkF m 19 #[.val (.int i0), .val (.int i1), .val (.int i2), .unset, .unset, .unset, .unset, .unset, .unset] [(.ref b1)])) _
    refine XS.dup X4.here hx rfl (hb hby at_19) rfl rfl ?_
    show Steps p.tables e below (T4.setTop (mkF m 20 #[.val (.int i0), .val (.int i1), .val (.int i2), .unset, .unset, .unset, .unset, .unset, .unset] [(.ref b1), (.ref b1)])) _
    refine XS.iconst X4.here hx rfl (hb hby at_20) ?_
    show Steps p.tables e below (T4.setTop (mkF m 21 #[.val (.int i0), .val (.int i1), .val (.int i2), .unset, .unset, .unset, .unset, .unset, .unset] [(.int (3 : Int32)), (.ref b1), (.ref b1)])) _
    refine XS.bipush X4.here hx rfl (hb hby at_21) ?_
    show Steps p.tables e below (T4.setTop (mkF m 23 #[.val (.int i0), .val (.int i1), .val (.int i2), .unset, .unset, .unset, .unset, .unset, .unset] [(.int (95 : Int32)), (.int (3 : Int32)), (.ref b1), (.ref b1)])) _
    refine st5 _ ?_
    show Steps p.tables e below (T5.setTop (mkF m 24 #[.val (.int i0), .val (.int i1), .val (.int i2), .unset, .unset, .unset, .unset, .unset, .unset] [(.ref b1)])) _
    refine XS.dup X5.here hx rfl (hb hby at_24) rfl rfl ?_
    show Steps p.tables e below (T5.setTop (mkF m 25 #[.val (.int i0), .val (.int i1), .val (.int i2), .unset, .unset, .unset, .unset, .unset, .unset] [(.ref b1), (.ref b1)])) _
    refine XS.iconst X5.here hx rfl (hb hby at_25) ?_
    show Steps p.tables e below (T5.setTop (mkF m 26 #[.val (.int i0), .val (.int i1), .val (.int i2), .unset, .unset, .unset, .unset, .unset, .unset] [(.int (4 : Int32)), (.ref b1), (.ref b1)])) _
    refine XS.bipush X5.here hx rfl (hb hby at_26) ?_
    show Steps p.tables e below (T5.setTop (mkF m 28 #[.val (.int i0), .val (.int i1), .val (.int i2), .unset, .unset, .unset, .unset, .unset, .unset] [(.int (97 : Int32)), (.int (4 : Int32)), (.ref b1), (.ref b1)])) _
    refine st6 _ ?_
    exact kt
  obtain ⟨T8, L8, k8, n8, X8, N8, hk8', hn8, st8⟩ := own_b0_29 hx hZ hw hby hml hown hret i0 i1 i2 b1 (own_up (own_up (own_up (own_up (own_up (fun _ => 0) (0 : Int32).toNatClampNeg (58 : Int32)) (1 : Int32).toNatClampNeg (65 : Int32)) (2 : Int32).toNatClampNeg (90 : Int32)) (3 : Int32).toNatClampNeg (95 : Int32)) (4 : Int32).toNatClampNeg (97 : Int32)) X6 e6 N6 Z6 g_b1 V_b1_k6 
  have hv : (own_f0_0 i0 i1 i2) = (own_f0_29 i0 i1 i2 (own_up (own_up (own_up (own_up (own_up (fun _ => 0) (0 : Int32).toNatClampNeg (58 : Int32)) (1 : Int32).toNatClampNeg (65 : Int32)) (2 : Int32).toNatClampNeg (90 : Int32)) (3 : Int32).toNatClampNeg (95 : Int32)) (4 : Int32).toNatClampNeg (97 : Int32))) := by unfold own_f0_0; rfl
  exact ⟨T8, L8, k8, n8, X8, N8, hk8', hn8, fun fs hr => pre7 _ (st8 fs (by rw [hv] at hr; exact hr))⟩
def Q0 (Z : State) (i0 : Int32) (i1 : Int32) (i2 : Int32) (h0 : Heap) (n0 : Nat) (v : Option Value) (h : Heap) (L : List Loc) : Prop := v = some (.int (own_f0_0 i0 i1 i2)) ∧ Fr n0 L
set_option maxRecDepth 65536 in
set_option maxHeartbeats 40000000 in
theorem rm0 (l : Launch) (Z : State) (a0_ : Array Value) (hw : ∀ d ∈ tables_1, d.before a0_ Z = true) (ws : List Jvm.Cond) (i0 : Int32) (i1 : Int32) (i2 : Int32) (h0 : Heap) (n0 : Nat) (Z0 : n0 ≤ h0.size)  :
    MetFree l x (head1 (Jvm.Cond.code x code maxLocals ret :: ws) room_1) (fun a U => a = #[(.int i0), (.int i1), (.int i2)] ∧ Z.Warmed39 U.vm ∧ U.heap = h0) (fun _ _ _ _ _ => True) (fun _ U o U' => ∃ v L, o = .returned v ∧ Q0 Z i0 i1 i2 h0 n0 v U'.heap L ∧ FrameEnd U o U' L room_1.cells room_1.slots) := by
  refine MetFree.of_bodySF (plainFor_of_name pn_0) hisR ?_
  intro p e s m args below meth c s₁ Bd hml0 hP hK
  obtain ⟨rfl, hZ, hh⟩ := hP
  have hx := Bd.exec
  have hby := Bd.bytes
  have hml : c.maxLocals = 9 := hml0
  have hown : s.vm.findClass "com/example/saho/saho/text/XmlCharsIsNcNameStartCharPinLaw" = some m.cls := findClass_of_methodNamed Bd.named
  have X0 : Stand p l e room_1 s m #[(.int i0), (.int i1), (.int i2)] below meth c s₁ [] 0 0 := Stand.of_body Bd
  have e0 : s₁.heap = h0 := by rw [← hh, Bd.state]; rfl
  obtain ⟨T', L', k', n', X', N', hk', hn', st'⟩ := own_b0_0 hx hZ hw hby hml hown Bd.returns  i0 i1 i2 X0 e0 (Fr.nil n0) Z0 
  obtain ⟨fs, hr, hrun, hended, hW, hsame⟩ := X'.leave (v := some (.int (own_f0_0 i0 i1 i2))) (fun h => by rw [Bd.returns] at h; cases h)
  refine ⟨_, _, castTop (ef_0 m i0 i1 i2) (st' fs hr), hrun, hended, _, _, rfl, ?_, ⟨_, rfl⟩, hW, hsame.mono hk' hn'⟩
  exact ⟨rfl, N'⟩
theorem own_z (x lo hi f : Int32) (h : f = 0 ∨ f = 1) : (if x < lo then f else (if hi < x then f else (1 : Int32))) = 0 ∨ (if x < lo then f else (if hi < x then f else (1 : Int32))) = 1 := by
  by_cases h1 : x < lo
  · rw [if_pos h1]; exact h
  · rw [if_neg h1]
    by_cases h2 : hi < x
    · rw [if_pos h2]; exact h
    · rw [if_neg h2]; exact Or.inr rfl
theorem own_r (x lo hi f : Int32) : (if x < lo then f else (if hi < x then f else (1 : Int32))) = 1 ↔ (lo.toInt ≤ x.toInt ∧ x.toInt ≤ hi.toInt) ∨ f = 1 := by
  by_cases h1 : x < lo
  · rw [if_pos h1]
    rw [Int32.lt_iff_toInt_lt] at h1
    constructor
    · exact Or.inr
    · rintro (h | h)
      · omega
      · exact h
  · rw [if_neg h1]
    by_cases h2 : hi < x
    · rw [if_pos h2]
      rw [Int32.lt_iff_toInt_lt] at h2
      constructor
      · exact Or.inr
      · rintro (h | h)
        · omega
        · exact h
    · rw [if_neg h2]
      rw [Int32.lt_iff_toInt_lt] at h1 h2
      exact ⟨fun _ => Or.inl (by omega), fun _ => rfl⟩
theorem own_e1 (x k f : Int32) : (if x = k then (1 : Int32) else f) = 1 ↔ x.toInt = k.toInt ∨ f = 1 := by
  by_cases h : x = k
  · rw [if_pos h]; exact ⟨fun _ => Or.inl (by rw [h]), fun _ => rfl⟩
  · rw [if_neg h]
    constructor
    · exact Or.inr
    · rintro (q | q)
      · exact absurd (Int32.toInt_inj.mp q) h
      · exact q
theorem own_n1 (c f : Int32) : (if c = 0 then f else (1 : Int32)) = 0 ↔ c = 0 ∧ f = 0 := by
  by_cases h : c = 0
  · rw [if_pos h]; exact ⟨fun q => ⟨h, q⟩, fun q => q.2⟩
  · rw [if_neg h]; exact ⟨fun q => absurd q (by decide +kernel), fun q => absurd q.1 h⟩
theorem own_n2 (x k f : Int32) : (if x = k then (1 : Int32) else f) = 0 ↔ ¬ x.toInt = k.toInt ∧ f = 0 := by
  by_cases h : x = k
  · rw [if_pos h]; exact ⟨fun q => absurd q (by decide +kernel), fun q => absurd (by rw [h]) q.1⟩
  · rw [if_neg h]; exact ⟨fun q => ⟨fun z => h (Int32.toInt_inj.mp z), q⟩, fun q => q.2⟩
theorem own_in (x lo hi : Int32) : own_f4_0 x lo hi = 0 ↔ ¬ (lo.toInt ≤ x.toInt ∧ x.toInt ≤ hi.toInt) := by
  unfold own_f4_0
  by_cases h1 : x < lo
  · rw [if_pos h1]
    rw [Int32.lt_iff_toInt_lt] at h1
    exact ⟨fun _ => by omega, fun _ => rfl⟩
  · rw [if_neg h1]
    by_cases h2 : hi < x
    · rw [if_pos h2]
      rw [Int32.lt_iff_toInt_lt] at h2
      exact ⟨fun _ => by omega, fun _ => rfl⟩
    · rw [if_neg h2]
      rw [Int32.lt_iff_toInt_lt] at h1 h2
      exact ⟨fun q => absurd q (by decide +kernel), fun q => absurd ⟨by omega, by omega⟩ q⟩
theorem own_v_179 (x : Int32) : own_f1_179 x = 0 ∨ own_f1_179 x = 1 := by
  unfold own_f1_179
  by_cases h1 : x < 65536
  · rw [if_pos h1]; exact Or.inl rfl
  · rw [if_neg h1]
    by_cases h2 : 983039 < x
    · rw [if_pos h2]; exact Or.inl rfl
    · rw [if_neg h2]; exact Or.inr rfl
theorem own_i_179 (x : Int32) : own_f1_179 x = 1 ↔ (65536 ≤ x.toInt ∧ x.toInt ≤ 983039) := by
  have l1 : (65536 : Int32).toInt = 65536 := by decide +kernel
  have l2 : (983039 : Int32).toInt = 983039 := by decide +kernel
  unfold own_f1_179
  rw [own_r, l1, l2]
  exact ⟨fun q => q.elim id (fun z => absurd z (by decide +kernel)), Or.inl⟩
theorem own_v_167 (x : Int32) : own_f1_167 x = 0 ∨ own_f1_167 x = 1 := by
  unfold own_f1_167
  exact own_z _ _ _ _ (own_v_179 x)
theorem own_i_167 (x : Int32) : own_f1_167 x = 1 ↔ ((65008 ≤ x.toInt ∧ x.toInt ≤ 65533) ∨ (65536 ≤ x.toInt ∧ x.toInt ≤ 983039)) := by
  have l1 : (65008 : Int32).toInt = 65008 := by decide +kernel
  have l2 : (65533 : Int32).toInt = 65533 := by decide +kernel
  unfold own_f1_167
  rw [own_r, own_i_179, l1, l2]
theorem own_v_155 (x : Int32) : own_f1_155 x = 0 ∨ own_f1_155 x = 1 := by
  unfold own_f1_155
  exact own_z _ _ _ _ (own_v_167 x)
theorem own_i_155 (x : Int32) : own_f1_155 x = 1 ↔ ((63744 ≤ x.toInt ∧ x.toInt ≤ 64975) ∨ ((65008 ≤ x.toInt ∧ x.toInt ≤ 65533) ∨ (65536 ≤ x.toInt ∧ x.toInt ≤ 983039))) := by
  have l1 : (63744 : Int32).toInt = 63744 := by decide +kernel
  have l2 : (64975 : Int32).toInt = 64975 := by decide +kernel
  unfold own_f1_155
  rw [own_r, own_i_167, l1, l2]
theorem own_v_142 (x : Int32) : own_f1_142 x = 0 ∨ own_f1_142 x = 1 := by
  unfold own_f1_142
  exact own_z _ _ _ _ (own_v_155 x)
theorem own_i_142 (x : Int32) : own_f1_142 x = 1 ↔ ((12289 ≤ x.toInt ∧ x.toInt ≤ 55295) ∨ ((63744 ≤ x.toInt ∧ x.toInt ≤ 64975) ∨ ((65008 ≤ x.toInt ∧ x.toInt ≤ 65533) ∨ (65536 ≤ x.toInt ∧ x.toInt ≤ 983039)))) := by
  have l1 : (12289 : Int32).toInt = 12289 := by decide +kernel
  have l2 : (55295 : Int32).toInt = 55295 := by decide +kernel
  unfold own_f1_142
  rw [own_r, own_i_155, l1, l2]
theorem own_v_128 (x : Int32) : own_f1_128 x = 0 ∨ own_f1_128 x = 1 := by
  unfold own_f1_128
  exact own_z _ _ _ _ (own_v_142 x)
theorem own_i_128 (x : Int32) : own_f1_128 x = 1 ↔ ((11264 ≤ x.toInt ∧ x.toInt ≤ 12271) ∨ ((12289 ≤ x.toInt ∧ x.toInt ≤ 55295) ∨ ((63744 ≤ x.toInt ∧ x.toInt ≤ 64975) ∨ ((65008 ≤ x.toInt ∧ x.toInt ≤ 65533) ∨ (65536 ≤ x.toInt ∧ x.toInt ≤ 983039))))) := by
  have l1 : (11264 : Int32).toInt = 11264 := by decide +kernel
  have l2 : (12271 : Int32).toInt = 12271 := by decide +kernel
  unfold own_f1_128
  rw [own_r, own_i_142, l1, l2]
theorem own_v_114 (x : Int32) : own_f1_114 x = 0 ∨ own_f1_114 x = 1 := by
  unfold own_f1_114
  exact own_z _ _ _ _ (own_v_128 x)
theorem own_i_114 (x : Int32) : own_f1_114 x = 1 ↔ ((8304 ≤ x.toInt ∧ x.toInt ≤ 8591) ∨ ((11264 ≤ x.toInt ∧ x.toInt ≤ 12271) ∨ ((12289 ≤ x.toInt ∧ x.toInt ≤ 55295) ∨ ((63744 ≤ x.toInt ∧ x.toInt ≤ 64975) ∨ ((65008 ≤ x.toInt ∧ x.toInt ≤ 65533) ∨ (65536 ≤ x.toInt ∧ x.toInt ≤ 983039)))))) := by
  have l1 : (8304 : Int32).toInt = 8304 := by decide +kernel
  have l2 : (8591 : Int32).toInt = 8591 := by decide +kernel
  unfold own_f1_114
  rw [own_r, own_i_128, l1, l2]
theorem own_v_100 (x : Int32) : own_f1_100 x = 0 ∨ own_f1_100 x = 1 := by
  unfold own_f1_100
  exact own_z _ _ _ _ (own_v_114 x)
theorem own_i_100 (x : Int32) : own_f1_100 x = 1 ↔ ((8204 ≤ x.toInt ∧ x.toInt ≤ 8205) ∨ ((8304 ≤ x.toInt ∧ x.toInt ≤ 8591) ∨ ((11264 ≤ x.toInt ∧ x.toInt ≤ 12271) ∨ ((12289 ≤ x.toInt ∧ x.toInt ≤ 55295) ∨ ((63744 ≤ x.toInt ∧ x.toInt ≤ 64975) ∨ ((65008 ≤ x.toInt ∧ x.toInt ≤ 65533) ∨ (65536 ≤ x.toInt ∧ x.toInt ≤ 983039))))))) := by
  have l1 : (8204 : Int32).toInt = 8204 := by decide +kernel
  have l2 : (8205 : Int32).toInt = 8205 := by decide +kernel
  unfold own_f1_100
  rw [own_r, own_i_114, l1, l2]
theorem own_v_86 (x : Int32) : own_f1_86 x = 0 ∨ own_f1_86 x = 1 := by
  unfold own_f1_86
  exact own_z _ _ _ _ (own_v_100 x)
theorem own_i_86 (x : Int32) : own_f1_86 x = 1 ↔ ((895 ≤ x.toInt ∧ x.toInt ≤ 8191) ∨ ((8204 ≤ x.toInt ∧ x.toInt ≤ 8205) ∨ ((8304 ≤ x.toInt ∧ x.toInt ≤ 8591) ∨ ((11264 ≤ x.toInt ∧ x.toInt ≤ 12271) ∨ ((12289 ≤ x.toInt ∧ x.toInt ≤ 55295) ∨ ((63744 ≤ x.toInt ∧ x.toInt ≤ 64975) ∨ ((65008 ≤ x.toInt ∧ x.toInt ≤ 65533) ∨ (65536 ≤ x.toInt ∧ x.toInt ≤ 983039)))))))) := by
  have l1 : (895 : Int32).toInt = 895 := by decide +kernel
  have l2 : (8191 : Int32).toInt = 8191 := by decide +kernel
  unfold own_f1_86
  rw [own_r, own_i_100, l1, l2]
theorem own_v_72 (x : Int32) : own_f1_72 x = 0 ∨ own_f1_72 x = 1 := by
  unfold own_f1_72
  exact own_z _ _ _ _ (own_v_86 x)
theorem own_i_72 (x : Int32) : own_f1_72 x = 1 ↔ ((880 ≤ x.toInt ∧ x.toInt ≤ 893) ∨ ((895 ≤ x.toInt ∧ x.toInt ≤ 8191) ∨ ((8204 ≤ x.toInt ∧ x.toInt ≤ 8205) ∨ ((8304 ≤ x.toInt ∧ x.toInt ≤ 8591) ∨ ((11264 ≤ x.toInt ∧ x.toInt ≤ 12271) ∨ ((12289 ≤ x.toInt ∧ x.toInt ≤ 55295) ∨ ((63744 ≤ x.toInt ∧ x.toInt ≤ 64975) ∨ ((65008 ≤ x.toInt ∧ x.toInt ≤ 65533) ∨ (65536 ≤ x.toInt ∧ x.toInt ≤ 983039))))))))) := by
  have l1 : (880 : Int32).toInt = 880 := by decide +kernel
  have l2 : (893 : Int32).toInt = 893 := by decide +kernel
  unfold own_f1_72
  rw [own_r, own_i_86, l1, l2]
theorem own_v_58 (x : Int32) : own_f1_58 x = 0 ∨ own_f1_58 x = 1 := by
  unfold own_f1_58
  exact own_z _ _ _ _ (own_v_72 x)
theorem own_i_58 (x : Int32) : own_f1_58 x = 1 ↔ ((248 ≤ x.toInt ∧ x.toInt ≤ 767) ∨ ((880 ≤ x.toInt ∧ x.toInt ≤ 893) ∨ ((895 ≤ x.toInt ∧ x.toInt ≤ 8191) ∨ ((8204 ≤ x.toInt ∧ x.toInt ≤ 8205) ∨ ((8304 ≤ x.toInt ∧ x.toInt ≤ 8591) ∨ ((11264 ≤ x.toInt ∧ x.toInt ≤ 12271) ∨ ((12289 ≤ x.toInt ∧ x.toInt ≤ 55295) ∨ ((63744 ≤ x.toInt ∧ x.toInt ≤ 64975) ∨ ((65008 ≤ x.toInt ∧ x.toInt ≤ 65533) ∨ (65536 ≤ x.toInt ∧ x.toInt ≤ 983039)))))))))) := by
  have l1 : (248 : Int32).toInt = 248 := by decide +kernel
  have l2 : (767 : Int32).toInt = 767 := by decide +kernel
  unfold own_f1_58
  rw [own_r, own_i_72, l1, l2]
theorem own_v_44 (x : Int32) : own_f1_44 x = 0 ∨ own_f1_44 x = 1 := by
  unfold own_f1_44
  exact own_z _ _ _ _ (own_v_58 x)
theorem own_i_44 (x : Int32) : own_f1_44 x = 1 ↔ ((216 ≤ x.toInt ∧ x.toInt ≤ 246) ∨ ((248 ≤ x.toInt ∧ x.toInt ≤ 767) ∨ ((880 ≤ x.toInt ∧ x.toInt ≤ 893) ∨ ((895 ≤ x.toInt ∧ x.toInt ≤ 8191) ∨ ((8204 ≤ x.toInt ∧ x.toInt ≤ 8205) ∨ ((8304 ≤ x.toInt ∧ x.toInt ≤ 8591) ∨ ((11264 ≤ x.toInt ∧ x.toInt ≤ 12271) ∨ ((12289 ≤ x.toInt ∧ x.toInt ≤ 55295) ∨ ((63744 ≤ x.toInt ∧ x.toInt ≤ 64975) ∨ ((65008 ≤ x.toInt ∧ x.toInt ≤ 65533) ∨ (65536 ≤ x.toInt ∧ x.toInt ≤ 983039))))))))))) := by
  have l1 : (216 : Int32).toInt = 216 := by decide +kernel
  have l2 : (246 : Int32).toInt = 246 := by decide +kernel
  unfold own_f1_44
  rw [own_r, own_i_58, l1, l2]
theorem own_v_24 (x : Int32) : own_f1_24 x = 0 ∨ own_f1_24 x = 1 := by
  unfold own_f1_24
  by_cases h : x = 95
  · rw [if_pos h]; exact Or.inr rfl
  · rw [if_neg h]; exact own_z _ _ _ _ (own_v_44 x)
theorem own_i_24 (x : Int32) : own_f1_24 x = 1 ↔ (x.toInt = 95 ∨ ((192 ≤ x.toInt ∧ x.toInt ≤ 214) ∨ ((216 ≤ x.toInt ∧ x.toInt ≤ 246) ∨ ((248 ≤ x.toInt ∧ x.toInt ≤ 767) ∨ ((880 ≤ x.toInt ∧ x.toInt ≤ 893) ∨ ((895 ≤ x.toInt ∧ x.toInt ≤ 8191) ∨ ((8204 ≤ x.toInt ∧ x.toInt ≤ 8205) ∨ ((8304 ≤ x.toInt ∧ x.toInt ≤ 8591) ∨ ((11264 ≤ x.toInt ∧ x.toInt ≤ 12271) ∨ ((12289 ≤ x.toInt ∧ x.toInt ≤ 55295) ∨ ((63744 ≤ x.toInt ∧ x.toInt ≤ 64975) ∨ ((65008 ≤ x.toInt ∧ x.toInt ≤ 65533) ∨ (65536 ≤ x.toInt ∧ x.toInt ≤ 983039))))))))))))) := by
  have l0 : (95 : Int32).toInt = 95 := by decide +kernel
  have l1 : (192 : Int32).toInt = 192 := by decide +kernel
  have l2 : (214 : Int32).toInt = 214 := by decide +kernel
  unfold own_f1_24
  rw [own_e1, own_r, own_i_44, l0, l1, l2]
theorem own_v_12 (x : Int32) : own_f1_12 x = 0 ∨ own_f1_12 x = 1 := by
  unfold own_f1_12
  exact own_z _ _ _ _ (own_v_24 x)
theorem own_i_12 (x : Int32) : own_f1_12 x = 1 ↔ ((65 ≤ x.toInt ∧ x.toInt ≤ 90) ∨ (x.toInt = 95 ∨ ((192 ≤ x.toInt ∧ x.toInt ≤ 214) ∨ ((216 ≤ x.toInt ∧ x.toInt ≤ 246) ∨ ((248 ≤ x.toInt ∧ x.toInt ≤ 767) ∨ ((880 ≤ x.toInt ∧ x.toInt ≤ 893) ∨ ((895 ≤ x.toInt ∧ x.toInt ≤ 8191) ∨ ((8204 ≤ x.toInt ∧ x.toInt ≤ 8205) ∨ ((8304 ≤ x.toInt ∧ x.toInt ≤ 8591) ∨ ((11264 ≤ x.toInt ∧ x.toInt ≤ 12271) ∨ ((12289 ≤ x.toInt ∧ x.toInt ≤ 55295) ∨ ((63744 ≤ x.toInt ∧ x.toInt ≤ 64975) ∨ ((65008 ≤ x.toInt ∧ x.toInt ≤ 65533) ∨ (65536 ≤ x.toInt ∧ x.toInt ≤ 983039)))))))))))))) := by
  have l1 : (65 : Int32).toInt = 65 := by decide +kernel
  have l2 : (90 : Int32).toInt = 90 := by decide +kernel
  unfold own_f1_12
  rw [own_r, own_i_24, l1, l2]
theorem own_v_0 (x : Int32) : own_f1_0 x = 0 ∨ own_f1_0 x = 1 := by
  unfold own_f1_0
  exact own_z _ _ _ _ (own_v_12 x)
theorem own_i_0 (x : Int32) : own_f1_0 x = 1 ↔ ((97 ≤ x.toInt ∧ x.toInt ≤ 122) ∨ ((65 ≤ x.toInt ∧ x.toInt ≤ 90) ∨ (x.toInt = 95 ∨ ((192 ≤ x.toInt ∧ x.toInt ≤ 214) ∨ ((216 ≤ x.toInt ∧ x.toInt ≤ 246) ∨ ((248 ≤ x.toInt ∧ x.toInt ≤ 767) ∨ ((880 ≤ x.toInt ∧ x.toInt ≤ 893) ∨ ((895 ≤ x.toInt ∧ x.toInt ≤ 8191) ∨ ((8204 ≤ x.toInt ∧ x.toInt ≤ 8205) ∨ ((8304 ≤ x.toInt ∧ x.toInt ≤ 8591) ∨ ((11264 ≤ x.toInt ∧ x.toInt ≤ 12271) ∨ ((12289 ≤ x.toInt ∧ x.toInt ≤ 55295) ∨ ((63744 ≤ x.toInt ∧ x.toInt ≤ 64975) ∨ ((65008 ≤ x.toInt ∧ x.toInt ≤ 65533) ∨ (65536 ≤ x.toInt ∧ x.toInt ≤ 983039))))))))))))))) := by
  have l1 : (97 : Int32).toInt = 97 := by decide +kernel
  have l2 : (122 : Int32).toInt = 122 := by decide +kernel
  unfold own_f1_0
  rw [own_r, own_i_12, l1, l2]
theorem own_g (x : Int32) : own_f3_0 x = 0 ↔ ¬ (91 ≤ x.toInt ∧ x.toInt ≤ 94) ∧ ¬ x.toInt = 96 ∧ ¬ (123 ≤ x.toInt ∧ x.toInt ≤ 191) ∧ ¬ x.toInt = 215 ∧ ¬ x.toInt = 247 ∧ ¬ (768 ≤ x.toInt ∧ x.toInt ≤ 879) ∧ ¬ x.toInt = 894 ∧ ¬ (8192 ≤ x.toInt ∧ x.toInt ≤ 8203) ∧ ¬ (8206 ≤ x.toInt ∧ x.toInt ≤ 8303) ∧ ¬ (8592 ≤ x.toInt ∧ x.toInt ≤ 11263) ∧ ¬ (12272 ≤ x.toInt ∧ x.toInt ≤ 12288) ∧ ¬ (55296 ≤ x.toInt ∧ x.toInt ≤ 63743) ∧ ¬ (64976 ≤ x.toInt ∧ x.toInt ≤ 65007) ∧ ¬ (65534 ≤ x.toInt ∧ x.toInt ≤ 65535) := by
  have l91 : (91 : Int32).toInt = 91 := by decide +kernel
  have l94 : (94 : Int32).toInt = 94 := by decide +kernel
  have l96 : (96 : Int32).toInt = 96 := by decide +kernel
  have l123 : (123 : Int32).toInt = 123 := by decide +kernel
  have l191 : (191 : Int32).toInt = 191 := by decide +kernel
  have l215 : (215 : Int32).toInt = 215 := by decide +kernel
  have l247 : (247 : Int32).toInt = 247 := by decide +kernel
  have l768 : (768 : Int32).toInt = 768 := by decide +kernel
  have l879 : (879 : Int32).toInt = 879 := by decide +kernel
  have l894 : (894 : Int32).toInt = 894 := by decide +kernel
  have l8192 : (8192 : Int32).toInt = 8192 := by decide +kernel
  have l8203 : (8203 : Int32).toInt = 8203 := by decide +kernel
  have l8206 : (8206 : Int32).toInt = 8206 := by decide +kernel
  have l8303 : (8303 : Int32).toInt = 8303 := by decide +kernel
  have l8592 : (8592 : Int32).toInt = 8592 := by decide +kernel
  have l11263 : (11263 : Int32).toInt = 11263 := by decide +kernel
  have l12272 : (12272 : Int32).toInt = 12272 := by decide +kernel
  have l12288 : (12288 : Int32).toInt = 12288 := by decide +kernel
  have l55296 : (55296 : Int32).toInt = 55296 := by decide +kernel
  have l63743 : (63743 : Int32).toInt = 63743 := by decide +kernel
  have l64976 : (64976 : Int32).toInt = 64976 := by decide +kernel
  have l65007 : (65007 : Int32).toInt = 65007 := by decide +kernel
  have l65534 : (65534 : Int32).toInt = 65534 := by decide +kernel
  have l65535 : (65535 : Int32).toInt = 65535 := by decide +kernel
  unfold own_f3_0
  rw [own_n1, own_n2, own_n1, own_n2, own_n2, own_n1, own_n2, own_n1, own_n1, own_n1, own_n1, own_n1, own_n1, own_n1]
  simp only [own_in, eq_self, and_true, l91, l94, l96, l123, l191, l215, l247, l768, l879, l894, l8192, l8203, l8206, l8303, l8592, l11263, l12272, l12288, l55296, l63743, l64976, l65007, l65534, l65535]
theorem own_to (z : Int) (h0 : 65 ≤ z) (h1 : z ≤ 983039) (h : ¬ (91 ≤ z ∧ z ≤ 94) ∧ ¬ z = 96 ∧ ¬ (123 ≤ z ∧ z ≤ 191) ∧ ¬ z = 215 ∧ ¬ z = 247 ∧ ¬ (768 ≤ z ∧ z ≤ 879) ∧ ¬ z = 894 ∧ ¬ (8192 ≤ z ∧ z ≤ 8203) ∧ ¬ (8206 ≤ z ∧ z ≤ 8303) ∧ ¬ (8592 ≤ z ∧ z ≤ 11263) ∧ ¬ (12272 ≤ z ∧ z ≤ 12288) ∧ ¬ (55296 ≤ z ∧ z ≤ 63743) ∧ ¬ (64976 ≤ z ∧ z ≤ 65007) ∧ ¬ (65534 ≤ z ∧ z ≤ 65535)) : ((97 ≤ z ∧ z ≤ 122) ∨ ((65 ≤ z ∧ z ≤ 90) ∨ (z = 95 ∨ ((192 ≤ z ∧ z ≤ 214) ∨ ((216 ≤ z ∧ z ≤ 246) ∨ ((248 ≤ z ∧ z ≤ 767) ∨ ((880 ≤ z ∧ z ≤ 893) ∨ ((895 ≤ z ∧ z ≤ 8191) ∨ ((8204 ≤ z ∧ z ≤ 8205) ∨ ((8304 ≤ z ∧ z ≤ 8591) ∨ ((11264 ≤ z ∧ z ≤ 12271) ∨ ((12289 ≤ z ∧ z ≤ 55295) ∨ ((63744 ≤ z ∧ z ≤ 64975) ∨ ((65008 ≤ z ∧ z ≤ 65533) ∨ (65536 ≤ z ∧ z ≤ 983039))))))))))))))) := by
  obtain ⟨n0, n1, n2, n3, n4, n5, n6, n7, n8, n9, n10, n11, n12, n13⟩ := h
  by_cases c65 : z ≤ 90
  · exact (Or.inr (Or.inl ⟨by clear n0 n1 n2 n3 n4 n5 n6 n7 n8 n9 n10 n11 n12 n13; omega, by clear n0 n1 n2 n3 n4 n5 n6 n7 n8 n9 n10 n11 n12 n13; omega⟩))
  by_cases c91 : z ≤ 94
  · exact absurd ⟨by clear n0 n1 n2 n3 n4 n5 n6 n7 n8 n9 n10 n11 n12 n13; omega, by clear n0 n1 n2 n3 n4 n5 n6 n7 n8 n9 n10 n11 n12 n13; omega⟩ n0
  by_cases c95 : z ≤ 95
  · exact (Or.inr (Or.inr (Or.inl (by clear n0 n1 n2 n3 n4 n5 n6 n7 n8 n9 n10 n11 n12 n13; omega))))
  by_cases c96 : z ≤ 96
  · exact absurd (by clear n0 n1 n2 n3 n4 n5 n6 n7 n8 n9 n10 n11 n12 n13; omega) n1
  by_cases c97 : z ≤ 122
  · exact (Or.inl ⟨by clear n0 n1 n2 n3 n4 n5 n6 n7 n8 n9 n10 n11 n12 n13; omega, by clear n0 n1 n2 n3 n4 n5 n6 n7 n8 n9 n10 n11 n12 n13; omega⟩)
  by_cases c123 : z ≤ 191
  · exact absurd ⟨by clear n0 n1 n2 n3 n4 n5 n6 n7 n8 n9 n10 n11 n12 n13; omega, by clear n0 n1 n2 n3 n4 n5 n6 n7 n8 n9 n10 n11 n12 n13; omega⟩ n2
  by_cases c192 : z ≤ 214
  · exact (Or.inr (Or.inr (Or.inr (Or.inl ⟨by clear n0 n1 n2 n3 n4 n5 n6 n7 n8 n9 n10 n11 n12 n13; omega, by clear n0 n1 n2 n3 n4 n5 n6 n7 n8 n9 n10 n11 n12 n13; omega⟩))))
  by_cases c215 : z ≤ 215
  · exact absurd (by clear n0 n1 n2 n3 n4 n5 n6 n7 n8 n9 n10 n11 n12 n13; omega) n3
  by_cases c216 : z ≤ 246
  · exact (Or.inr (Or.inr (Or.inr (Or.inr (Or.inl ⟨by clear n0 n1 n2 n3 n4 n5 n6 n7 n8 n9 n10 n11 n12 n13; omega, by clear n0 n1 n2 n3 n4 n5 n6 n7 n8 n9 n10 n11 n12 n13; omega⟩)))))
  by_cases c247 : z ≤ 247
  · exact absurd (by clear n0 n1 n2 n3 n4 n5 n6 n7 n8 n9 n10 n11 n12 n13; omega) n4
  by_cases c248 : z ≤ 767
  · exact (Or.inr (Or.inr (Or.inr (Or.inr (Or.inr (Or.inl ⟨by clear n0 n1 n2 n3 n4 n5 n6 n7 n8 n9 n10 n11 n12 n13; omega, by clear n0 n1 n2 n3 n4 n5 n6 n7 n8 n9 n10 n11 n12 n13; omega⟩))))))
  by_cases c768 : z ≤ 879
  · exact absurd ⟨by clear n0 n1 n2 n3 n4 n5 n6 n7 n8 n9 n10 n11 n12 n13; omega, by clear n0 n1 n2 n3 n4 n5 n6 n7 n8 n9 n10 n11 n12 n13; omega⟩ n5
  by_cases c880 : z ≤ 893
  · exact (Or.inr (Or.inr (Or.inr (Or.inr (Or.inr (Or.inr (Or.inl ⟨by clear n0 n1 n2 n3 n4 n5 n6 n7 n8 n9 n10 n11 n12 n13; omega, by clear n0 n1 n2 n3 n4 n5 n6 n7 n8 n9 n10 n11 n12 n13; omega⟩)))))))
  by_cases c894 : z ≤ 894
  · exact absurd (by clear n0 n1 n2 n3 n4 n5 n6 n7 n8 n9 n10 n11 n12 n13; omega) n6
  by_cases c895 : z ≤ 8191
  · exact (Or.inr (Or.inr (Or.inr (Or.inr (Or.inr (Or.inr (Or.inr (Or.inl ⟨by clear n0 n1 n2 n3 n4 n5 n6 n7 n8 n9 n10 n11 n12 n13; omega, by clear n0 n1 n2 n3 n4 n5 n6 n7 n8 n9 n10 n11 n12 n13; omega⟩))))))))
  by_cases c8192 : z ≤ 8203
  · exact absurd ⟨by clear n0 n1 n2 n3 n4 n5 n6 n7 n8 n9 n10 n11 n12 n13; omega, by clear n0 n1 n2 n3 n4 n5 n6 n7 n8 n9 n10 n11 n12 n13; omega⟩ n7
  by_cases c8204 : z ≤ 8205
  · exact (Or.inr (Or.inr (Or.inr (Or.inr (Or.inr (Or.inr (Or.inr (Or.inr (Or.inl ⟨by clear n0 n1 n2 n3 n4 n5 n6 n7 n8 n9 n10 n11 n12 n13; omega, by clear n0 n1 n2 n3 n4 n5 n6 n7 n8 n9 n10 n11 n12 n13; omega⟩)))))))))
  by_cases c8206 : z ≤ 8303
  · exact absurd ⟨by clear n0 n1 n2 n3 n4 n5 n6 n7 n8 n9 n10 n11 n12 n13; omega, by clear n0 n1 n2 n3 n4 n5 n6 n7 n8 n9 n10 n11 n12 n13; omega⟩ n8
  by_cases c8304 : z ≤ 8591
  · exact (Or.inr (Or.inr (Or.inr (Or.inr (Or.inr (Or.inr (Or.inr (Or.inr (Or.inr (Or.inl ⟨by clear n0 n1 n2 n3 n4 n5 n6 n7 n8 n9 n10 n11 n12 n13; omega, by clear n0 n1 n2 n3 n4 n5 n6 n7 n8 n9 n10 n11 n12 n13; omega⟩))))))))))
  by_cases c8592 : z ≤ 11263
  · exact absurd ⟨by clear n0 n1 n2 n3 n4 n5 n6 n7 n8 n9 n10 n11 n12 n13; omega, by clear n0 n1 n2 n3 n4 n5 n6 n7 n8 n9 n10 n11 n12 n13; omega⟩ n9
  by_cases c11264 : z ≤ 12271
  · exact (Or.inr (Or.inr (Or.inr (Or.inr (Or.inr (Or.inr (Or.inr (Or.inr (Or.inr (Or.inr (Or.inl ⟨by clear n0 n1 n2 n3 n4 n5 n6 n7 n8 n9 n10 n11 n12 n13; omega, by clear n0 n1 n2 n3 n4 n5 n6 n7 n8 n9 n10 n11 n12 n13; omega⟩)))))))))))
  by_cases c12272 : z ≤ 12288
  · exact absurd ⟨by clear n0 n1 n2 n3 n4 n5 n6 n7 n8 n9 n10 n11 n12 n13; omega, by clear n0 n1 n2 n3 n4 n5 n6 n7 n8 n9 n10 n11 n12 n13; omega⟩ n10
  by_cases c12289 : z ≤ 55295
  · exact (Or.inr (Or.inr (Or.inr (Or.inr (Or.inr (Or.inr (Or.inr (Or.inr (Or.inr (Or.inr (Or.inr (Or.inl ⟨by clear n0 n1 n2 n3 n4 n5 n6 n7 n8 n9 n10 n11 n12 n13; omega, by clear n0 n1 n2 n3 n4 n5 n6 n7 n8 n9 n10 n11 n12 n13; omega⟩))))))))))))
  by_cases c55296 : z ≤ 63743
  · exact absurd ⟨by clear n0 n1 n2 n3 n4 n5 n6 n7 n8 n9 n10 n11 n12 n13; omega, by clear n0 n1 n2 n3 n4 n5 n6 n7 n8 n9 n10 n11 n12 n13; omega⟩ n11
  by_cases c63744 : z ≤ 64975
  · exact (Or.inr (Or.inr (Or.inr (Or.inr (Or.inr (Or.inr (Or.inr (Or.inr (Or.inr (Or.inr (Or.inr (Or.inr (Or.inl ⟨by clear n0 n1 n2 n3 n4 n5 n6 n7 n8 n9 n10 n11 n12 n13; omega, by clear n0 n1 n2 n3 n4 n5 n6 n7 n8 n9 n10 n11 n12 n13; omega⟩)))))))))))))
  by_cases c64976 : z ≤ 65007
  · exact absurd ⟨by clear n0 n1 n2 n3 n4 n5 n6 n7 n8 n9 n10 n11 n12 n13; omega, by clear n0 n1 n2 n3 n4 n5 n6 n7 n8 n9 n10 n11 n12 n13; omega⟩ n12
  by_cases c65008 : z ≤ 65533
  · exact (Or.inr (Or.inr (Or.inr (Or.inr (Or.inr (Or.inr (Or.inr (Or.inr (Or.inr (Or.inr (Or.inr (Or.inr (Or.inr (Or.inl ⟨by clear n0 n1 n2 n3 n4 n5 n6 n7 n8 n9 n10 n11 n12 n13; omega, by clear n0 n1 n2 n3 n4 n5 n6 n7 n8 n9 n10 n11 n12 n13; omega⟩))))))))))))))
  by_cases c65534 : z ≤ 65535
  · exact absurd ⟨by clear n0 n1 n2 n3 n4 n5 n6 n7 n8 n9 n10 n11 n12 n13; omega, by clear n0 n1 n2 n3 n4 n5 n6 n7 n8 n9 n10 n11 n12 n13; omega⟩ n13
  exact (Or.inr (Or.inr (Or.inr (Or.inr (Or.inr (Or.inr (Or.inr (Or.inr (Or.inr (Or.inr (Or.inr (Or.inr (Or.inr (Or.inr ⟨by clear n0 n1 n2 n3 n4 n5 n6 n7 n8 n9 n10 n11 n12 n13; omega, by clear n0 n1 n2 n3 n4 n5 n6 n7 n8 n9 n10 n11 n12 n13; omega⟩))))))))))))))
theorem own_from (z : Int) (h : ((97 ≤ z ∧ z ≤ 122) ∨ ((65 ≤ z ∧ z ≤ 90) ∨ (z = 95 ∨ ((192 ≤ z ∧ z ≤ 214) ∨ ((216 ≤ z ∧ z ≤ 246) ∨ ((248 ≤ z ∧ z ≤ 767) ∨ ((880 ≤ z ∧ z ≤ 893) ∨ ((895 ≤ z ∧ z ≤ 8191) ∨ ((8204 ≤ z ∧ z ≤ 8205) ∨ ((8304 ≤ z ∧ z ≤ 8591) ∨ ((11264 ≤ z ∧ z ≤ 12271) ∨ ((12289 ≤ z ∧ z ≤ 55295) ∨ ((63744 ≤ z ∧ z ≤ 64975) ∨ ((65008 ≤ z ∧ z ≤ 65533) ∨ (65536 ≤ z ∧ z ≤ 983039)))))))))))))))) : 65 ≤ z ∧ z ≤ 983039 ∧ ¬ (91 ≤ z ∧ z ≤ 94) ∧ ¬ z = 96 ∧ ¬ (123 ≤ z ∧ z ≤ 191) ∧ ¬ z = 215 ∧ ¬ z = 247 ∧ ¬ (768 ≤ z ∧ z ≤ 879) ∧ ¬ z = 894 ∧ ¬ (8192 ≤ z ∧ z ≤ 8203) ∧ ¬ (8206 ≤ z ∧ z ≤ 8303) ∧ ¬ (8592 ≤ z ∧ z ≤ 11263) ∧ ¬ (12272 ≤ z ∧ z ≤ 12288) ∧ ¬ (55296 ≤ z ∧ z ≤ 63743) ∧ ¬ (64976 ≤ z ∧ z ≤ 65007) ∧ ¬ (65534 ≤ z ∧ z ≤ 65535) := by
  rcases h with h | h | h | h | h | h | h | h | h | h | h | h | h | h | h
  all_goals exact ⟨by omega, by omega, by omega, by omega, by omega, by omega, by omega, by omega, by omega, by omega, by omega, by omega, by omega, by omega, by omega, by omega⟩
theorem own_same (x : Int32) : own_f1_0 x = own_f2_0 x := by
  have l1 : (65 : Int32).toInt = 65 := by decide +kernel
  have l2 : (983039 : Int32).toInt = 983039 := by decide +kernel
  have hi := own_i_0 x
  have hg := own_g x
  have hv := own_v_0 x
  unfold own_f2_0
  simp only [Int32.lt_iff_toInt_lt, l1, l2]
  generalize own_f1_0 x = F at *
  generalize own_f3_0 x = G at *
  generalize x.toInt = z at *
  by_cases h1 : z < 65
  · rw [if_pos h1]
    rcases hv with q | q
    · exact q
    · exact absurd (own_from z (hi.mp q)).1 (by omega)
  · rw [if_neg h1]
    by_cases h2 : 983039 < z
    · rw [if_pos h2]
      rcases hv with q | q
      · exact q
      · exact absurd (own_from z (hi.mp q)).2.1 (by omega)
    · rw [if_neg h2]
      by_cases h3 : G = 0
      · rw [if_pos h3]
        exact hi.mpr (own_to z (by omega) (by omega) (hg.mp h3))
      · rw [if_neg h3]
        rcases hv with q | q
        · exact q
        · exact absurd (hg.mpr (own_from z (hi.mp q)).2.2) h3
theorem own_law (i0 : Int32) (i1 : Int32) (i2 : Int32) : own_f0_0 i0 i1 i2 = 1 := by
  have e : ∀ x, (own_f1_0 x = own_f2_0 x) = True := fun x => eq_true (own_same x)
  simp only [own_f0_0, own_f0_29, own_f0_62, own_f0_97, own_f0_132, own_f0_165, own_f0_195, own_f0_240, own_f0_260, e, if_true]
  decide +kernel
set_option maxRecDepth 65536 in
set_option maxHeartbeats 40000000 in
theorem comes_1 {Post : Tables → Env → Array Value → State → Outcome → State → Prop} (hpost : ∀ tb e args s v u, (limb_1_1.after args s (.returned v) u = true ∧ limb_1_2.after args s (.returned v) u = true ∧ True) → FrameEnd s (.returned v) u (Jvm.fieldLocs frame_1_writes args s ++ Jvm.arrayLocs frame_1_arrays args s ++ Jvm.staticLocs frame_1_statics s) 16 128 → Post tb e args s (.returned v) u) :
    ArmFor flags0 classFile x code maxLocals ret World_1 tables_1 room_1 Calls_1 rest_1 Pre_1 Post := by
  intro l hfl _ _ p e ha hc hk s m args below hf hA hF happ hP
  obtain ⟨hcalls, hrest, hpre⟩ := hP
  obtain ⟨-, -, -, hnamed, -, -, -, hat⟩ := (Spec.applies_iff hf).mp happ
  obtain ⟨hg, hn⟩ := and_e (Cond.before_iff.mp (show (Jvm.Cond.and given_1 narrow_1).before args s = true from hpre))
  obtain ⟨hcount, hg⟩ := and_e hg
  obtain ⟨g0, hg⟩ := and_e hg
  obtain ⟨g1, hg⟩ := and_e hg
  have g2 := hg
  obtain ⟨w0, w1, w2, rfl⟩ : ∃ w0 w1 w2 : Value, args = #[w0, w1, w2] := by
    have hs : args.size = 3 := by simpa [Cond.value, given_1] using hcount
    obtain ⟨L⟩ := args
    match L, hs with
    | [w0, w1, w2], _ => exact ⟨w0, w1, w2, rfl⟩
  have hw := fun d (hd : d ∈ tables_1) => atoms_spec (ws := Jvm.Cond.code x code maxLocals ret :: tables_1) hat d (List.mem_cons_of_mem _ hd)
  obtain ⟨i0, ei0⟩ := is_v g0
  obtain rfl : w0 = (.int i0) := Option.some.inj ei0
  obtain ⟨i1, ei1⟩ := is_v g1
  obtain rfl : w1 = (.int i1) := Option.some.inj ei1
  obtain ⟨i2, ei2⟩ := is_v g2
  obtain rfl : w2 = (.int i2) := Option.some.inj ei2
  obtain ⟨n, o, h1, h2, h3, _, L, rfl, ⟨rfl, N⟩, hq⟩ := rm0 l s _ hw tables_1 i0 i1 i2 s.heap s.heap.size (Nat.le_refl _) p e ha hc hk s m _ below hf ((Spec.applies_iff_loose hf).mp happ).1 ⟨rfl, State.Warmed39.refl s, rfl⟩ trivial
  rw [own_law i0 i1 i2] at h3 hq
  refine ⟨n, _, h1, h2, h3, hpost _ _ _ _ _ _ ⟨Cond.after_iff.mpr rfl, Cond.after_iff.mpr (eq_i res_at (Term.int_eval (1)) rfl), trivial⟩ ⟨hq.1, hq.2.1, (hq.2.2.sift fun y hy => Or.inr (N y hy)).mono (by decide) (by decide)⟩⟩
theorem main_1_1 : Claimed_1_1 := comes_1 fun _ _ _ _ _ _ h hF => ⟨h.1, hF⟩
theorem main_1_2 : Claimed_1_2 := comes_1 fun _ _ _ _ _ _ h hF => ⟨h.2.1, hF⟩
end Jvm.Pilot.@@N@@
namespace Jvm.Pilot.@@N@@
open Jvm Jvm.ClassFile Sem Op Lib Jvm.Free Jvm.Stand Jvm.Pilot.@@N@@.Jvm.D
/-! MADE BY PROGRAM (witnessworld.py) out of the Statement's table words and the real class files: 9 classes; the members and pool entries that the words name. The judged class is class 1, her method 4. -/
namespace start1
open Jvm.ClassFile
def u (s : String) : CpInfo := .utf8 (stringToUtf16 s)
/-- a pool by its gaps: so many unusable entries, then the entry; so many at the end -/
def gap : Nat → List CpInfo → List CpInfo
  | 0, r => r
  | n + 1, r => .unusable :: gap n r
def poolList (es : List (Nat × CpInfo)) (last : Nat) : List CpInfo := es.foldr (fun e r => gap e.1 (e.2 :: r)) (gap last [])
def pool (es : List (Nat × CpInfo)) (last : Nat) : Array CpInfo := ⟨poolList es last⟩
def fileOf (pool : Array CpInfo) (this : Nat) (attrs : Array Attribute := #[]) (ms : Array MethodInfo := #[]) (fl : Nat := 33) (sup : Nat := 0) (ifs : Array Nat := #[]) (fds : Array FieldInfo := #[]) : ClassFile where
  minorVersion := 0
  majorVersion := 65
  constantPool := pool
  accessFlags := fl
  thisClass := this
  superClass := sup
  interfaces := ifs
  fields := fds
  methods := ms
  attributes := attrs
def plain (name : String) (sup : Option ClassId) : Class where
  name := name
  kind := .ordinary
  loader := none
  accessFlags := 33
  super := sup
  interfaces := #[]
  cf := none
  fields := #[]
  methods := #[]
  instanceTypes := #[]
  staticTypes := #[]
  resolved := #[]
  callSites := []
  init := .initialized
  statics := none
  mirror := none

def pool0 : Array CpInfo := pool [(5, u "<init>"), (0, u "()V"), (1, .class_ 10), (1, u "java/lang/Object")] 113

def k0m0 : Method := { name := "<init>", desc := "()V", sig := { parameters := [], returnType := none }, accessFlags := 1, code := none }
/-- java/lang/Object -/
def k0 : Class := { plain "java/lang/Object" none with
  accessFlags := 33
  interfaces := #[]
  cf := some (fileOf pool0 8 #[] #[{ accessFlags := 1, nameIndex := 5, descriptorIndex := 6, attributes := #[] }] 33 0 #[] #[])
  fields := #[]
  methods := #[k0m0]
  instanceTypes := #[]
  staticTypes := #[]
  resolved := Array.replicate 124 none
  statics := none }

def pool1 : Array CpInfo := pool [(2, .class_ 4), (1, u "java/lang/Object"), (0, u "<init>"), (0, u "()V"), (0, .methodref 8 9), (0, .class_ 10), (0, .nameAndType 11 12), (0, u "com/example/saho/saho/text/XmlCharsIsNcNameStartCharPinLaw"), (0, u "in"), (0, u "(III)Z"), (0, .integer 55296), (0, .integer 63743), (0, .integer 64976), (0, .integer 65007), (0, .integer 65534), (0, .integer 65535), (0, .integer 983039), (0, .methodref 8 21), (0, .nameAndType 22 23), (0, u "gap"), (0, u "(I)Z"), (0, .integer 55295), (0, .integer 63744), (0, .integer 64975), (0, .integer 65008), (0, .integer 65533), (0, .integer 65536), (0, .integer 2147483647), (0, .methodref 32 33), (0, .class_ 34), (0, .nameAndType 35 23), (0, u "com/example/saho/saho/text/XmlChars"), (0, u "isNcNameStartChar"), (0, .methodref 8 37), (0, .nameAndType 38 23), (0, u "ref"), (3, u "law")] 4

def k1m0 : Method := { name := "<init>", desc := "()V", sig := { parameters := [], returnType := none }, accessFlags := 2, code := none }
def k1c1 : Code := { maxStack := 2, maxLocals := 3, code := method_2_code, exceptionTable := #[], attributes := #[] }
def k1m1 : Method := { name := "in", desc := "(III)Z", sig := { parameters := [.int, .int, .int], returnType := some .boolean }, accessFlags := 10, code := some k1c1 }
def k1c2 : Code := { maxStack := 3, maxLocals := 1, code := method_3_code, exceptionTable := #[], attributes := #[] }
def k1m2 : Method := { name := "gap", desc := "(I)Z", sig := { parameters := [.int], returnType := some .boolean }, accessFlags := 10, code := some k1c2 }
def k1c3 : Code := { maxStack := 2, maxLocals := 1, code := method_4_code, exceptionTable := #[], attributes := #[] }
def k1m3 : Method := { name := "ref", desc := "(I)Z", sig := { parameters := [.int], returnType := some .boolean }, accessFlags := 10, code := some k1c3 }
def k1c4 : Code := { maxStack := 4, maxLocals := 9, code := code, exceptionTable := #[], attributes := #[] }
def k1m4 : Method := { name := "law", desc := "(III)Z", sig := { parameters := [.int, .int, .int], returnType := some .boolean }, accessFlags := 9, code := some k1c4 }
/-- com/example/saho/saho/text/XmlCharsIsNcNameStartCharPinLaw -/
def k1 : Class := { plain "com/example/saho/saho/text/XmlCharsIsNcNameStartCharPinLaw" (some 0) with
  accessFlags := 49
  interfaces := #[]
  cf := some (fileOf pool1 8 #[] #[{ accessFlags := 2, nameIndex := 5, descriptorIndex := 6, attributes := #[] }, { accessFlags := 10, nameIndex := 11, descriptorIndex := 12, attributes := #[] }, { accessFlags := 10, nameIndex := 22, descriptorIndex := 23, attributes := #[] }, { accessFlags := 10, nameIndex := 38, descriptorIndex := 23, attributes := #[] }, { accessFlags := 9, nameIndex := 42, descriptorIndex := 12, attributes := #[] }] 49 2 #[] #[])
  fields := #[]
  methods := #[k1m0, k1m1, k1m2, k1m3, k1m4]
  instanceTypes := #[]
  staticTypes := #[]
  resolved := Array.replicate 47 none
  statics := none }

def pool2 : Array CpInfo := pool [(2, .class_ 4), (1, u "java/lang/Object"), (0, u "<init>"), (0, u "()V"), (11, .class_ 20), (1, u "com/example/saho/saho/text/XmlChars"), (10, .integer 55295), (1, .integer 65533), (0, .integer 65536), (1, .integer 63744), (0, .integer 64975), (0, .integer 65008), (0, .integer 983039), (2, u "isNcNameStartChar"), (0, u "(I)Z")] 53

def k2m0 : Method := { name := "<init>", desc := "()V", sig := { parameters := [], returnType := none }, accessFlags := 2, code := none }
def k2c1 : Code := { maxStack := 2, maxLocals := 1, code := prog_220_method_5_code, exceptionTable := #[], attributes := #[] }
def k2m1 : Method := { name := "isNcNameStartChar", desc := "(I)Z", sig := { parameters := [.int], returnType := some .boolean }, accessFlags := 9, code := some k2c1 }
/-- com/example/saho/saho/text/XmlChars -/
def k2 : Class := { plain "com/example/saho/saho/text/XmlChars" (some 0) with
  accessFlags := 33
  interfaces := #[]
  cf := some (fileOf pool2 18 #[] #[{ accessFlags := 2, nameIndex := 5, descriptorIndex := 6, attributes := #[] }, { accessFlags := 9, nameIndex := 42, descriptorIndex := 43, attributes := #[] }] 33 2 #[] #[])
  fields := #[]
  methods := #[k2m0, k2m1]
  instanceTypes := #[]
  staticTypes := #[]
  resolved := Array.replicate 97 none
  statics := none }

def pool3 : Array CpInfo := pool [(1, u "java/lang/Cloneable"), (0, .class_ 1), (0, u "java/lang/Object"), (0, .class_ 3)] 3

/-- java/lang/Cloneable -/
def k3 : Class := { plain "java/lang/Cloneable" (some 0) with
  accessFlags := 1537
  interfaces := #[]
  cf := some (fileOf pool3 2 #[] #[] 1537 4 #[] #[])
  fields := #[]
  methods := #[]
  instanceTypes := #[]
  staticTypes := #[]
  resolved := Array.replicate 8 none
  statics := none }

def pool4 : Array CpInfo := pool [(1, u "java/io/Serializable"), (0, .class_ 1), (0, u "java/lang/Object"), (0, .class_ 3)] 3

/-- java/io/Serializable -/
def k4 : Class := { plain "java/io/Serializable" (some 0) with
  accessFlags := 1537
  interfaces := #[]
  cf := some (fileOf pool4 2 #[] #[] 1537 4 #[] #[])
  fields := #[]
  methods := #[]
  instanceTypes := #[]
  staticTypes := #[]
  resolved := Array.replicate 8 none
  statics := none }

/-- the primitive byte -/
def k5 : Class := { plain "byte" none with kind := .primitive 'B', accessFlags := 0x411 }
/-- [B -/
def k6 : Class := { plain "[B" (some 0) with kind := .array 5 .byte, interfaces := #[3, 4], accessFlags := 1041 }

/-- the primitive int -/
def k7 : Class := { plain "int" none with kind := .primitive 'I', accessFlags := 0x411 }
/-- [I -/
def k8 : Class := { plain "[I" (some 0) with kind := .array 7 .int, interfaces := #[3, 4], accessFlags := 1041 }

def heap : Heap := #[]
def classes : Array Class := #[k0, k1, k2, k3, k4, k5, k6, k7, k8]
def interned : List (Array UInt16 × Addr) := []
def slotsUsed : Nat := 0
def theMethod : MethodId := ⟨1, 4⟩
def args0 : Array Value := #[.int 5, .int 6, .int 7]
def aboutOver (below : List Frame) : State where
  vm := { classes := classes, interned := interned.toArray }
  heap := heap
  slotsUsed := slotsUsed
  threads := #[{ frames := .invoking theMethod args0 :: below }]
def below0 : List Frame := [.native { method := ⟨0, 0⟩, args := #[] }]
def about1 : State := aboutOver below0
def p0 : Program := .bare "" "" ""
def e0 : Env := launch0.env 0 0 0
theorem w_frames : about1.frames = Frame.invoking theMethod args0 :: below0 := rfl
set_option maxRecDepth 65536 in
theorem w_args : argsFit about1.vm theMethod args0 = true := by decide +kernel
set_option maxRecDepth 65536 in
theorem w_heap : heapFits about1 = true := by decide +kernel
set_option maxRecDepth 65536 in
theorem w_runnable : about1.curStatus? = some .runnable := by decide +kernel
set_option maxRecDepth 65536 in
theorem w_alone : about1.alone = true := by decide +kernel
set_option maxRecDepth 65536 in
theorem w_named : about1.methodNamed? x = some theMethod := by decide +kernel
set_option maxRecDepth 65536 in
theorem w_hears : about1.hears theMethod below0 = true := by decide +kernel
set_option maxRecDepth 65536 in
theorem w_ripe : about1.ripe theMethod args0 below0 = true := by decide +kernel
theorem w_running : about1.status = .running := rfl
set_option maxRecDepth 65536 in
theorem w_room : about1.hasRoom e0.platform room_1 = true :=
  launch0.hasRoom_least _ room_1 (by decide +kernel) (by decide +kernel) (by decide +kernel) (by decide +kernel) (by decide +kernel) (by decide +kernel)
theorem allAtoms_all (ts : List Jvm.Cond) (a : Array Jvm.Value) (st : Jvm.State) : (allAtoms ts).before a st = ts.all (fun c => c.before a st) := by
  induction ts with
  | nil => rfl
  | cons c t ih =>
    show (Jvm.Cond.and c (allAtoms t)).before a st = _
    rw [Jvm.Cond.before_and, ih, List.all_cons]
def words1 : List Jvm.Cond := Jvm.Cond.code x code maxLocals ret :: tables_1
/-- a 'code' word, met by the world's own term for the bytes: nothing is compared byte by byte -/
theorem code_word {y : MethodName} {bytes : ByteArray} {mx : Nat} {rt : Option FieldType} {a : Array Value} {s : State} {m : MethodId} {meth : Method} {c : Code} (h1 : s.methodNamed? y = some m) (h2 : s.vm.method? m = some meth) (h3 : meth.code = some c) (h4 : c.code = bytes)
    (h5 : (c.maxLocals == mx && c.exceptionTable.isEmpty && decide (c.maxStack ≤ mostOperands) && decide (meth.sig.returnType = rt) && !meth.locks && decide (parseMethodDescriptor y.desc = some meth.sig)) = true) : (Jvm.Cond.code y bytes mx rt).before a s = true := by
  simp only [Bool.and_eq_true, beq_iff_eq, Bool.not_eq_true', decide_eq_true_eq] at h5
  obtain ⟨⟨⟨⟨⟨g1, g2⟩, g3⟩, g4⟩, g5⟩, g6⟩ := h5
  simp [Cond.before, Cond.holds, Cond.value, h1, h2, h3, h4, g1, g2, g3, g4, g5, g6]
def isCode : Jvm.Cond → Bool
  | .code _ _ _ _ => true
  | _ => false
theorem all_split {L : List Jvm.Cond} {P : Jvm.Cond → Bool} (h1 : L.all (fun c => isCode c || P c) = true) (h2 : ∀ c ∈ L.filter isCode, P c = true) : L.all P = true := by
  refine List.all_eq_true.mpr fun c hc => ?_
  have h := List.all_eq_true.mp h1 c hc
  rcases Bool.eq_false_or_eq_true (isCode c) with hi | hi
  · exact h2 c (List.mem_filter.mpr ⟨hc, hi⟩)
  · simpa [hi] using h
set_option maxRecDepth 65536 in
theorem w_c0 : (Jvm.Cond.code x code maxLocals ret).before args0 about1 = true := code_word (m := ⟨1, 4⟩) (meth := k1m4) (c := k1c4) (by decide +kernel) rfl rfl rfl (by decide +kernel)
set_option maxRecDepth 65536 in
theorem w_c1 : (Jvm.Cond.code ({ cls := "com/example/saho/saho/text/XmlChars", name := "isNcNameStartChar", desc := "(I)Z" } : Jvm.MethodName) prog_220_method_5_code (1 : Nat) (Option.some Jvm.ClassFile.FieldType.boolean)).before args0 about1 = true := code_word (m := ⟨2, 1⟩) (meth := k2m1) (c := k2c1) (by decide +kernel) rfl rfl rfl (by decide +kernel)
set_option maxRecDepth 65536 in
theorem w_c2 : (Jvm.Cond.code ({ cls := "com/example/saho/saho/text/XmlCharsIsNcNameStartCharPinLaw", name := "ref", desc := "(I)Z" } : Jvm.MethodName) method_4_code (1 : Nat) (Option.some Jvm.ClassFile.FieldType.boolean)).before args0 about1 = true := code_word (m := ⟨1, 3⟩) (meth := k1m3) (c := k1c3) (by decide +kernel) rfl rfl rfl (by decide +kernel)
set_option maxRecDepth 65536 in
theorem w_c3 : (Jvm.Cond.code ({ cls := "com/example/saho/saho/text/XmlCharsIsNcNameStartCharPinLaw", name := "gap", desc := "(I)Z" } : Jvm.MethodName) method_3_code (1 : Nat) (Option.some Jvm.ClassFile.FieldType.boolean)).before args0 about1 = true := code_word (m := ⟨1, 2⟩) (meth := k1m2) (c := k1c2) (by decide +kernel) rfl rfl rfl (by decide +kernel)
set_option maxRecDepth 65536 in
theorem w_c4 : (Jvm.Cond.code ({ cls := "com/example/saho/saho/text/XmlCharsIsNcNameStartCharPinLaw", name := "in", desc := "(III)Z" } : Jvm.MethodName) method_2_code (3 : Nat) (Option.some Jvm.ClassFile.FieldType.boolean)).before args0 about1 = true := code_word (m := ⟨1, 1⟩) (meth := k1m1) (c := k1c1) (by decide +kernel) rfl rfl rfl (by decide +kernel)
def codes1 : List Jvm.Cond := [Jvm.Cond.code x code maxLocals ret, Jvm.Cond.code ({ cls := "com/example/saho/saho/text/XmlChars", name := "isNcNameStartChar", desc := "(I)Z" } : Jvm.MethodName) prog_220_method_5_code (1 : Nat) (Option.some Jvm.ClassFile.FieldType.boolean), Jvm.Cond.code ({ cls := "com/example/saho/saho/text/XmlCharsIsNcNameStartCharPinLaw", name := "ref", desc := "(I)Z" } : Jvm.MethodName) method_4_code (1 : Nat) (Option.some Jvm.ClassFile.FieldType.boolean), Jvm.Cond.code ({ cls := "com/example/saho/saho/text/XmlCharsIsNcNameStartCharPinLaw", name := "gap", desc := "(I)Z" } : Jvm.MethodName) method_3_code (1 : Nat) (Option.some Jvm.ClassFile.FieldType.boolean), Jvm.Cond.code ({ cls := "com/example/saho/saho/text/XmlCharsIsNcNameStartCharPinLaw", name := "in", desc := "(III)Z" } : Jvm.MethodName) method_2_code (3 : Nat) (Option.some Jvm.ClassFile.FieldType.boolean)]
set_option maxRecDepth 65536 in
theorem codes_eq : words1.filter isCode = codes1 := rfl
theorem w_codes : ∀ c ∈ words1.filter isCode, c.before args0 about1 = true := by
  rw [codes_eq]
  intro c hc
  simp only [codes1, List.mem_cons, List.not_mem_nil, or_false] at hc
  rcases hc with rfl | rfl | rfl | rfl | rfl
  · exact w_c0
  · exact w_c1
  · exact w_c2
  · exact w_c3
  · exact w_c4
set_option maxRecDepth 65536 in
theorem w_t1 : (words1.take 24).all (fun c => isCode c || c.before args0 about1) = true := by decide +kernel
set_option maxRecDepth 65536 in
theorem w_t2 : (words1.drop 24).all (fun c => isCode c || c.before args0 about1) = true := by decide +kernel
theorem w_tables : (allAtoms (Jvm.Cond.code x code maxLocals ret :: tables_1)).before args0 about1 = true := by
  rw [allAtoms_all]
  show words1.all (fun c => c.before args0 about1) = true
  refine all_split ?_ w_codes
  rw [← List.take_append_drop 24 words1, List.all_append, w_t1, w_t2]
  rfl
set_option maxRecDepth 65536 in
theorem w_case : (Jvm.Cond.and given_1 narrow_1).before args0 about1 = true := by decide +kernel
theorem w_applies : (headSpec (Jvm.Cond.code x code maxLocals ret :: tables_1) room_1).applies x e0.platform about1 = true :=
  (Spec.applies_iff w_frames).mpr ⟨w_running, w_runnable, w_alone, w_named, w_hears, w_ripe, w_room, w_tables⟩
theorem atStart : AtStart classFile x code maxLocals ret World_1 tables_1 room_1 Calls_1 rest_1 Pre_1 launch0 p0 e0 about1 theMethod args0 below0 :=
  ⟨lists_1, trivial, launch0.admits_env _ _ _, launch0.least_env, fairChoices_fair.cas, fairChoices_fair.clock, w_frames, w_args, w_heap, w_applies, trivial, trivial, w_case⟩
end start1
theorem witness_1 : WitnessClaimed_1 := ⟨start1.p0, start1.e0, start1.about1, start1.theMethod, start1.args0, start1.below0, start1.atStart⟩
end Jvm.Pilot.@@N@@
