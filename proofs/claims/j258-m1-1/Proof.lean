import JvmDerived
import JvmDerived.Pilot.@@N@@Statement
import JvmDerived.Pilot.@@N@@Code
set_option linter.unusedVariables false
set_option linter.unusedSimpArgs false
set_option maxHeartbeats 40000000
set_option maxRecDepth 65536
namespace Jvm.RoadKit
open Sem ClassFile Op Lib Jvm.Stand Jvm.Free Jvm.LawKit
section New
variable {p : Program} {l : Launch} {e : Env} {R : Room} {s : State} {m : MethodId} {args : Array Value} {below : List Frame} {meth : Method} {c : Code} {T : State} {locs : List Loc} {cells slots : Nat}
theorem retI (X : Stand p l e R s m args below meth c T locs cells slots) (hx : p.tables.exec = Jvm.exec) {pc : Nat} {Ls : Array Slot} {z : Int32} {rest : List Value} (hret : meth.sig.returnType = some .int) (hd : decode c.code pc = .ok (.ireturn, 1)) {fs : List Frame}
    (hl : ∀ (f : JFrame) (acts : List Action), f.method = m → f.locked = none → f.entered = [] → (doReturn e (T.setTop f) acts (some (.int z))).1 = T.setFrames fs) : Steps p.tables e below (T.setTop (mkF m pc Ls (.int z :: rest))) (T.setFrames fs) := by
  have hm' : T.vm.method? m = some meth := X.method'
  have hn : narrow .int (.int z) = .int z := rfl
  show Steps p.tables e below (T.setTop { method := m, pc := pc, locals := Ls, stack := _ :: rest, locked := none }) _
  jvm_step X.here [X.here.top, hx, hd, hm', hret, hn]
  first | (intro acts; rw [hl _ acts rfl rfl rfl]) | rw [hl _ _ rfl rfl rfl]
  exact Steps.refl _
end New
end Jvm.RoadKit
namespace Jvm.Pilot.@@N@@
open Jvm Jvm.ClassFile Sem Op Lib Jvm.Free Jvm.Stand Jvm.LawKit Jvm.RoadKit Bundle Jvm.Pilot.@@N@@.Jvm.D
/-- an array of n places of ints, bytes ..: place i holds A i -/
def own_Ar (Z : State) (h : Heap) (a : Addr) (ty : FieldType) (n : Int32) (A : Nat → Int32) : Prop := ∃ c : Cell, Arr Z h a c ty ∧ c.slots.size = n.toNatClampNeg ∧ ¬ n < 0 ∧ ∀ i, i < c.slots.size → c.slots[i]? = some (.int (A i))
def own_up (A : Nat → Int32) (k : Nat) (v : Int32) : Nat → Int32 := fun i => if i = k then v else A i
theorem own_up_hit (A : Nat → Int32) (k : Nat) (v : Int32) : own_up A k v k = v := if_pos rfl
theorem own_up_miss (A : Nat → Int32) (k : Nat) (v : Int32) {i : Nat} (h : i ≠ k) : own_up A k v i = A i := if_neg h
theorem own_slots (c : Cell) (k : Nat) (v : Value) : (c.setSlot k v).slots = c.slots.setIfInBounds k v := rfl
theorem own_slotsN (k : ClassId) (ty : FieldType) (n : Int32) : (newA k ty n).slots = Array.replicate n.toNatClampNeg (defaultValue ty) := rfl
section OwnArr
variable {Z : State} {h h' : Heap} {a b : Addr} {ty : FieldType} {n : Int32} {A : Nat → Int32} {sl : Nat} {v : Value} {ws : List Addr}
theorem own_Ar.lt (F : own_Ar Z h a ty n A) : a < h.size := by obtain ⟨c, B, -⟩ := F; exact B.lt
theorem own_Ar.ext (F : own_Ar Z h a ty n A) (E : Ext h h') : own_Ar Z h' a ty n A := by obtain ⟨c, B, r⟩ := F; exact ⟨c, B.ext E, r⟩
theorem own_Ar.other (F : own_Ar Z h b ty n A) (W : Wr h h' a sl v) (q : b ≠ a) : own_Ar Z h' b ty n A := by obtain ⟨c, B, r⟩ := F; exact ⟨c, B.other W q, r⟩
theorem own_Ar.keep (F : own_Ar Z h a ty n A) (K : Keep h h' ws) (q : a ∉ ws) : own_Ar Z h' a ty n A := by obtain ⟨c, B, r⟩ := F; exact ⟨c, ⟨K.2.1 a c B.1 q, B.2⟩, r⟩
theorem own_Ar.new {k : ClassId} (B : Arr Z h a (newA k ty n) ty) (q : ¬ n < 0) (hd : defaultValue ty = .int 0) : own_Ar Z h a ty n (fun _ => 0) := by
  refine ⟨_, B, sz_new _ _ _, q, fun i hi => ?_⟩
  rw [sz_new] at hi
  rw [own_slotsN, hd, Array.getElem?_replicate, if_pos hi]
theorem own_Ar.put {cl : Cell} {k : Nat} {x : Int32} (B : Arr Z h a cl ty) (S : cl.slots.size = n.toNatClampNeg) (N : ¬ n < 0) (H : ∀ i, i < cl.slots.size → cl.slots[i]? = some (.int (A i))) (W : Wr h h' a k (.int x)) : own_Ar Z h' a ty n (own_up A k x) := by
  refine ⟨_, B.same W, by rw [sz_set]; exact S, N, fun i hi => ?_⟩
  rw [sz_set] at hi
  rw [own_slots]
  by_cases u : i = k
  · subst u
    rw [own_up_hit, Array.getElem?_setIfInBounds_self_of_lt hi]
  · rw [own_up_miss _ _ _ u, Array.getElem?_setIfInBounds_ne (fun z => u z.symm)]
    exact H i hi
end OwnArr
section OwnArrSteps
variable {p : Program} {l : Launch} {e : Env} {R : Room} {s : State} {m : MethodId} {args : Array Value} {below : List Frame} {meth : Method} {c : Code} {T : State} {locs : List Loc} {cells slots : Nat} {Z : State} {h : Heap} {a : Addr} {ty : FieldType} {n : Int32} {A : Nat → Int32}
theorem own_ldI (X : Stand p l e R s m args below meth c T locs cells slots) (hx : p.tables.exec = Jvm.exec) (hZ : Z.Warmed39 s.vm) (eT : T.heap = h) (F : own_Ar Z h a .int n A) {j : Int32} (hj : ¬ j < 0 ∧ j < n) {g : JFrame} (hg : g.method = m) {rest : List Value} (hs : g.stack = .int j :: .ref a :: rest) (hd : decode c.code g.pc = .ok (.iaload, 1)) (target : State)
    (k : Steps p.tables e below (T.setTop { g with pc := g.pc + 1, stack := .int (A j.toNatClampNeg) :: rest }) target) : Steps p.tables e below (T.setTop g) target := by
  obtain ⟨cl, B, S, N, H⟩ := F
  have hin := inb_of S hj
  exact X.iaload hx (by rw [eT]; exact B.1) (State.isArrayOf_alike hZ.alike B.2.1) B.2.2 hin (H _ (Nat.lt_of_not_le fun y => hin (Or.inr y))) hg hs hd target k
theorem own_ldB (X : Stand p l e R s m args below meth c T locs cells slots) (hx : p.tables.exec = Jvm.exec) (hZ : Z.Warmed39 s.vm) (eT : T.heap = h) (F : own_Ar Z h a .byte n A) {j : Int32} (hj : ¬ j < 0 ∧ j < n) {g : JFrame} (hg : g.method = m) {rest : List Value} (hs : g.stack = .int j :: .ref a :: rest) (hd : decode c.code g.pc = .ok (.baload, 1)) (target : State)
    (k : Steps p.tables e below (T.setTop { g with pc := g.pc + 1, stack := .int (A j.toNatClampNeg) :: rest }) target) : Steps p.tables e below (T.setTop g) target := by
  obtain ⟨cl, B, S, N, H⟩ := F
  have hin := inb_of S hj
  exact X.baloadBytes hx (by rw [eT]; exact B.1) (State.isArrayOf_alike hZ.alike B.2.1) B.2.2 hin (H _ (Nat.lt_of_not_le fun y => hin (Or.inr y))) hg hs hd target k
theorem own_alen (X : Stand p l e R s m args below meth c T locs cells slots) (hx : p.tables.exec = Jvm.exec) (hZ : Z.Warmed39 s.vm) (eT : T.heap = h) (F : own_Ar Z h a ty n A) {g : JFrame} (hg : g.method = m) {rest : List Value} (hs : g.stack = .ref a :: rest) (hd : decode c.code g.pc = .ok (.arraylength, 1)) (target : State)
    (k : Steps p.tables e below (T.setTop { g with pc := g.pc + 1, stack := .int n :: rest }) target) : Steps p.tables e below (T.setTop g) target := by
  obtain ⟨cl, B, S, N, H⟩ := F
  exact X.arraylength hx (by rw [eT]; exact B.1) (State.isArrayOf_alike hZ.alike B.2.1) hg hs hd target (by rw [len_of S N]; exact k)
theorem own_stI (X : Stand p l e R s m args below meth c T locs cells slots) (hx : p.tables.exec = Jvm.exec) (hZ : Z.Warmed39 s.vm) (eT : T.heap = h) (F : own_Ar Z h a .int n A) {j x : Int32} (hj : ¬ j < 0 ∧ j < n) {g : JFrame} (hg : g.method = m) {rest : List Value} (hs : g.stack = .int x :: .int j :: .ref a :: rest) (hd : decode c.code g.pc = .ok (.iastore, 1)) :
    ∃ T' h', Stand p l e R s m args below meth c T' (locs ++ [⟨a, j.toNatClampNeg⟩]) cells slots ∧ T'.heap = h' ∧ Wr h h' a j.toNatClampNeg (.int x) ∧ own_Ar Z h' a .int n (own_up A j.toNatClampNeg x) ∧ ∀ target, Steps p.tables e below (T'.setTop { g with pc := g.pc + 1, stack := rest }) target → Steps p.tables e below (T.setTop g) target := by
  obtain ⟨cl, B, S, N, H⟩ := F
  obtain ⟨T', h', X', e', W, st⟩ := stI X hx hZ eT B (j := j) (inb_of S hj) hg hs hd
  exact ⟨T', h', X', e', W, own_Ar.put B S N H W, st⟩
theorem own_stB (X : Stand p l e R s m args below meth c T locs cells slots) (hx : p.tables.exec = Jvm.exec) (hZ : Z.Warmed39 s.vm) (eT : T.heap = h) (F : own_Ar Z h a .byte n A) {j x : Int32} (hj : ¬ j < 0 ∧ j < n) {g : JFrame} (hg : g.method = m) {rest : List Value} (hs : g.stack = .int x :: .int j :: .ref a :: rest) (hd : decode c.code g.pc = .ok (.bastore, 1)) :
    ∃ T' h', Stand p l e R s m args below meth c T' (locs ++ [⟨a, j.toNatClampNeg⟩]) cells slots ∧ T'.heap = h' ∧ Wr h h' a j.toNatClampNeg (.int x.toInt8.toInt32) ∧ own_Ar Z h' a .byte n (own_up A j.toNatClampNeg x.toInt8.toInt32) ∧ ∀ target, Steps p.tables e below (T'.setTop { g with pc := g.pc + 1, stack := rest }) target → Steps p.tables e below (T.setTop g) target := by
  obtain ⟨cl, B, S, N, H⟩ := F
  obtain ⟨T', h', X', e', W, st⟩ := stB X hx hZ eT B (j := j) (inb_of S hj) hg hs hd
  exact ⟨T', h', X', e', W, own_Ar.put B S N H W, st⟩
end OwnArrSteps
theorem own_neg1 (x : Int32) (h : -2147483647 ≤ x.toInt) : (x + (-1 : Int32)).toInt = x.toInt - 1 := by
  have l : (-1 : Int32).toInt = -1 := by decide +kernel
  have a := c_iadd x (-1)
  have r := rng32 (x + (-1 : Int32))
  have s := rng32 x
  rw [l] at a
  omega
theorem own_div10 (x : Int64) : (x / (10 : Int64)).toInt.natAbs = x.toInt.natAbs / 10 := by
  have l : (10 : Int64).toInt = 10 := by decide +kernel
  have d := c_ldiv x 10 10 l (by decide +kernel)
  by_cases h : 0 ≤ x.toInt
  · rw [d.1 h]; omega
  · rw [d.2 (by omega)]; omega
theorem own_div0 {x : Int64} (h : ¬ (x / (10 : Int64)) = (0 : Int64)) : 10 ≤ x.toInt.natAbs := by
  have l : (0 : Int64).toInt = 0 := by decide +kernel
  have e := own_div10 x
  have n : ¬ (x / (10 : Int64)).toInt = 0 := fun z => h (Int64.toInt_inj.mp (by rw [z, l]))
  omega
theorem own_fx0 {i3 n : Int32} {j4 : Int64} (hI : 2 ≤ i3.toInt ∧ i3.toInt ≤ n.toInt ∧ j4.toInt.natAbs < 10 ^ (i3.toInt.toNat - 1)) : ¬ (i3 + (-1 : Int32)) < 0 ∧ (i3 + (-1 : Int32)) < n := by
  have l0 : (0 : Int32).toInt = 0 := by decide +kernel
  have e := own_neg1 i3 (by omega)
  rw [Int32.lt_iff_toInt_lt, Int32.lt_iff_toInt_lt, e, l0]
  omega
theorem own_fx1 {i3 n : Int32} {j4 : Int64} (hI : 2 ≤ i3.toInt ∧ i3.toInt ≤ n.toInt ∧ j4.toInt.natAbs < 10 ^ (i3.toInt.toNat - 1)) : ¬ ((i3 + (-1 : Int32)) + (-1 : Int32)) < 0 ∧ ((i3 + (-1 : Int32)) + (-1 : Int32)) < n := by
  have l0 : (0 : Int32).toInt = 0 := by decide +kernel
  have e := own_neg1 i3 (by omega)
  have f := own_neg1 (i3 + (-1 : Int32)) (by omega)
  rw [Int32.lt_iff_toInt_lt, Int32.lt_iff_toInt_lt, f, e, l0]
  omega
theorem own_fv0 (v0 : Int64) {i3 n : Int32} (hI : 20 ≤ n.toInt ∧ i3 = n) : 2 ≤ i3.toInt ∧ i3.toInt ≤ n.toInt ∧ v0.toInt.natAbs < 10 ^ (i3.toInt.toNat - 1) := by
  obtain ⟨h, rfl⟩ := hI
  refine ⟨by omega, by omega, ?_⟩
  have r := rng64 v0
  have p : (10 : Nat) ^ 19 ≤ 10 ^ (i3.toInt.toNat - 1) := Nat.pow_le_pow_right (by decide +kernel) (by omega)
  have q : (10 : Nat) ^ 19 = 10000000000000000000 := by decide +kernel
  omega
theorem own_pw (A m : Nat) (h : A < 10 ^ (m - 1)) (h10 : 10 ≤ A) (hm : 2 ≤ m) : 3 ≤ m ∧ A / 10 < 10 ^ (m - 1 - 1) := by
  obtain ⟨t, rfl⟩ : ∃ t, m = t + 2 := ⟨m - 2, by omega⟩
  have e1 : t + 2 - 1 = t + 1 := by omega
  rw [e1] at h ⊢
  have e2 : t + 1 - 1 = t := by omega
  rw [e2]
  cases t with
  | zero =>
    have e : (10 : Nat) ^ (0 + 1) = 10 := by decide +kernel
    rw [e] at h
    exact absurd h (Nat.not_lt.mpr h10)
  | succ s =>
    rw [Nat.pow_succ] at h
    generalize (10 : Nat) ^ (s + 1) = P at h ⊢
    refine ⟨by omega, by omega⟩
theorem own_fv1 {i3 n : Int32} {j4 : Int64} (hI : 2 ≤ i3.toInt ∧ i3.toInt ≤ n.toInt ∧ j4.toInt.natAbs < 10 ^ (i3.toInt.toNat - 1)) (hc : ¬ (j4 / (10 : Int64)) = (0 : Int64)) :
    2 ≤ (i3 + (-1 : Int32)).toInt ∧ (i3 + (-1 : Int32)).toInt ≤ n.toInt ∧ (j4 / (10 : Int64)).toInt.natAbs < 10 ^ ((i3 + (-1 : Int32)).toInt.toNat - 1) := by
  have d := own_div10 j4
  have g := own_div0 hc
  obtain ⟨h1, h2, h3⟩ := hI
  have e := own_neg1 i3 (Int.le_trans (by decide +kernel) h1)
  rw [d, e]
  generalize j4.toInt.natAbs = A at h3 g ⊢
  generalize i3.toInt = I at h1 h2 h3 ⊢
  generalize n.toInt = N at h2 ⊢
  clear d e hc
  obtain ⟨m, rfl⟩ : ∃ m : Nat, I = m := ⟨I.toNat, by omega⟩
  have q := own_pw A m h3 g (by omega)
  have u : ((m : Int) - 1).toNat = m - 1 := by omega
  rw [u]
  exact ⟨by omega, by omega, q.2⟩
theorem own_fm {j4 : Int64} {k : Nat} (hc : ¬ (j4 / (10 : Int64)) = (0 : Int64)) (hk : j4.toInt.natAbs < k + 1) : (j4 / (10 : Int64)).toInt.natAbs < k := by
  have d := own_div10 j4
  have g := own_div0 hc
  omega
theorem own_px0 {i1 i2 n : Int32} (hI : n.toInt ≤ 1000 ∧ 0 ≤ i1.toInt ∧ i1.toInt ≤ 1000 ∧ i2.toInt ≤ n.toInt) (hc : i1 < i2) : ¬ i1 < 0 ∧ i1 < n := by
  have l0 : (0 : Int32).toInt = 0 := by decide +kernel
  rw [Int32.lt_iff_toInt_lt] at hc
  rw [Int32.lt_iff_toInt_lt, Int32.lt_iff_toInt_lt, l0]
  omega
theorem own_px1 {i7 i2 n : Int32} (hI : n.toInt ≤ 1000 ∧ 0 ≤ i7.toInt ∧ i2.toInt ≤ n.toInt) (hc : i7 < i2) : ¬ i7 < 0 ∧ i7 < n := by
  have l0 : (0 : Int32).toInt = 0 := by decide +kernel
  rw [Int32.lt_iff_toInt_lt] at hc
  rw [Int32.lt_iff_toInt_lt, Int32.lt_iff_toInt_lt, l0]
  omega
theorem own_inc (x : Int32) (h : x.toInt ≤ 2147483646) : (x + (1 : Int32)).toInt = x.toInt + 1 := by
  have l : (1 : Int32).toInt = 1 := by decide +kernel
  have a := c_iadd x 1
  have r := rng32 (x + (1 : Int32))
  have s := rng32 x
  rw [l] at a
  omega
theorem own_dec (x : Int32) (h : -2147483647 ≤ x.toInt) : (x - (1 : Int32)).toInt = x.toInt - 1 := by
  have l : (1 : Int32).toInt = 1 := by decide +kernel
  have a := c_isub x 1
  have r := rng32 (x - (1 : Int32))
  have s := rng32 x
  rw [l] at a
  omega
theorem own_pv0 {i1 i2 n : Int32} (hI : n.toInt ≤ 1000 ∧ 0 ≤ i1.toInt ∧ i1.toInt ≤ 1000 ∧ i2.toInt ≤ n.toInt) : n.toInt ≤ 1000 ∧ 0 ≤ i1.toInt ∧ i1.toInt ≤ 1000 ∧ i2.toInt ≤ n.toInt ∧ 0 ≤ i1.toInt := ⟨hI.1, hI.2.1, hI.2.2.1, hI.2.2.2, hI.2.1⟩
theorem own_pv1 {i1 i2 n : Int32} (hI : n.toInt ≤ 1000 ∧ 0 ≤ i1.toInt ∧ i1.toInt ≤ 1000 ∧ i2.toInt ≤ n.toInt) : n.toInt ≤ 1000 ∧ 0 ≤ i1.toInt ∧ i1.toInt ≤ 1000 ∧ i2.toInt ≤ n.toInt ∧ 0 ≤ (i1 + (1 : Int32)).toInt := by
  have e := own_inc i1 (by omega)
  omega
theorem own_pv2 {i7 i2 n : Int32} (hI : n.toInt ≤ 1000 ∧ 0 ≤ i7.toInt ∧ i2.toInt ≤ n.toInt) (hc : i7 < i2) : n.toInt ≤ 1000 ∧ 0 ≤ (i7 + (1 : Int32)).toInt ∧ i2.toInt ≤ n.toInt := by
  rw [Int32.lt_iff_toInt_lt] at hc
  have e := own_inc i7 (by omega)
  omega
theorem own_pm {i7 i2 n : Int32} {k : Nat} (hI : n.toInt ≤ 1000 ∧ 0 ≤ i7.toInt ∧ i2.toInt ≤ n.toInt) (hc : i7 < i2) (hk : (i2.toInt - i7.toInt).toNat < k + 1) : (i2.toInt - (i7 + (1 : Int32)).toInt).toNat < k := by
  rw [Int32.lt_iff_toInt_lt] at hc
  have e := own_inc i7 (by omega)
  omega
theorem own_z3 (x : Int32) : 0 ≤ (x &&& (3 : Int32)).toInt ∧ (x &&& (3 : Int32)).toInt ≤ 3 := by
  have m := c_mask x 3 2 (by decide +kernel) (by decide +kernel)
  omega
theorem own_sub (x y : Int32) (h : 0 ≤ x.toInt - y.toInt) (h' : 0 ≤ y.toInt) : (x - y).toInt = x.toInt - y.toInt := by
  have a := c_isub x y
  have r := rng32 (x - y)
  have s := rng32 x
  have u := rng32 y
  omega
theorem own_in24 (n j : Int32) (hn : n = 24) (h0 : 0 ≤ j.toInt) (h1 : j.toInt ≤ 23) : ¬ j < 0 ∧ j < n := by
  have l0 : (0 : Int32).toInt = 0 := by decide +kernel
  have l24 : (24 : Int32).toInt = 24 := by decide +kernel
  subst hn
  rw [Int32.lt_iff_toInt_lt, Int32.lt_iff_toInt_lt, l0, l24]
  omega
theorem own_s1 {n i8 : Int32} (hI : n = 24 ∧ 4 ≤ i8.toInt ∧ i8.toInt ≤ 23) : ¬ (i8 - (1 : Int32)) < 0 ∧ (i8 - (1 : Int32)) < n := by
  have l : (1 : Int32).toInt = 1 := by decide +kernel
  have e := own_sub i8 1 (by omega) (by omega)
  exact own_in24 _ _ hI.1 (by omega) (by omega)
theorem own_s2 {n i8 i12 : Int32} (hI : n = 24 ∧ 4 ≤ i8.toInt ∧ i8.toInt ≤ 23 ∧ 0 ≤ i12.toInt ∧ i12.toInt ≤ 3) : ¬ (i8 - (2 : Int32)) < 0 ∧ (i8 - (2 : Int32)) < n := by
  have l : (2 : Int32).toInt = 2 := by decide +kernel
  have e := own_sub i8 2 (by omega) (by omega)
  exact own_in24 _ _ hI.1 (by omega) (by omega)
theorem own_s3 {n i8 i12 : Int32} (hI : n = 24 ∧ 4 ≤ i8.toInt ∧ i8.toInt ≤ 23 ∧ 0 ≤ i12.toInt ∧ i12.toInt ≤ 3) : ¬ (i8 - (3 : Int32)) < 0 ∧ (i8 - (3 : Int32)) < n := by
  have l : (3 : Int32).toInt = 3 := by decide +kernel
  have e := own_sub i8 3 (by omega) (by omega)
  exact own_in24 _ _ hI.1 (by omega) (by omega)
theorem own_s0 {n i8 i12 : Int32} (hI : n = 24 ∧ 4 ≤ i8.toInt ∧ i8.toInt ≤ 23 ∧ 0 ≤ i12.toInt ∧ i12.toInt ≤ 3) : ¬ i8 < 0 ∧ i8 < n := own_in24 _ _ hI.1 (by omega) (by omega)
theorem own_sz {n i8 i12 : Int32} (hI : n = 24 ∧ 4 ≤ i8.toInt ∧ i8.toInt ≤ 23 ∧ 0 ≤ i12.toInt ∧ i12.toInt ≤ 3) : ¬ (i8 - i12) < 0 ∧ (i8 - i12) < n := by
  have e := own_sub i8 i12 (by omega) (by omega)
  exact own_in24 _ _ hI.1 (by omega) (by omega)
theorem own_w155 {n i8 i12 : Int32} (hI : n = 24 ∧ 4 ≤ i8.toInt ∧ i8.toInt ≤ 23 ∧ 0 ≤ i12.toInt ∧ i12.toInt ≤ 3) : n = 24 ∧ 4 ≤ i8.toInt ∧ i8.toInt ≤ 23 ∧ 0 ≤ i12.toInt ∧ i12.toInt ≤ 3 ∧ (i8 - i12).toInt = i8.toInt - i12.toInt :=
  ⟨hI.1, hI.2.1, hI.2.2.1, hI.2.2.2.1, hI.2.2.2.2, own_sub i8 i12 (by omega) (by omega)⟩
theorem own_w190 {n i8 i12 i15 : Int32} (hI : n = 24 ∧ 4 ≤ i8.toInt ∧ i8.toInt ≤ 23 ∧ 0 ≤ i12.toInt ∧ i12.toInt ≤ 3 ∧ i15.toInt = i8.toInt - i12.toInt) (hc : (0 : Int32) < i12) : n = 24 ∧ 4 ≤ i8.toInt ∧ i8.toInt ≤ 23 ∧ 0 ≤ i12.toInt ∧ i12.toInt ≤ 3 ∧ i15.toInt = i8.toInt - i12.toInt ∧ ((1 : Int32) = 0 ∨ 1 ≤ i12.toInt) := by
  have l0 : (0 : Int32).toInt = 0 := by decide +kernel
  rw [Int32.lt_iff_toInt_lt] at hc
  exact ⟨hI.1, hI.2.1, hI.2.2.1, hI.2.2.2.1, hI.2.2.2.2.1, hI.2.2.2.2.2, Or.inr (by omega)⟩
theorem own_w213a {n i8 i12 i15 u0 : Int32} (hI : n = 24 ∧ 4 ≤ i8.toInt ∧ i8.toInt ≤ 23 ∧ 0 ≤ i12.toInt ∧ i12.toInt ≤ 3 ∧ i15.toInt = i8.toInt - i12.toInt ∧ (u0 = 0 ∨ 1 ≤ i12.toInt)) (hc : ¬ u0 = 0) : n = 24 ∧ 4 ≤ i8.toInt ∧ i8.toInt ≤ 23 ∧ 0 ≤ i12.toInt ∧ i12.toInt ≤ 3 ∧ i15.toInt = i8.toInt - i12.toInt ∧ 0 ≤ (i15 + (1 : Int32)).toInt ∧ (i15 + (1 : Int32)).toInt ≤ 23 := by
  have e := own_inc i15 (by omega)
  have z : 1 ≤ i12.toInt := hI.2.2.2.2.2.2.elim (fun q => absurd q hc) id
  exact ⟨hI.1, hI.2.1, hI.2.2.1, hI.2.2.2.1, hI.2.2.2.2.1, hI.2.2.2.2.2.1, by omega, by omega⟩
theorem own_w213b {n i8 i12 i15 u0 : Int32} (hI : n = 24 ∧ 4 ≤ i8.toInt ∧ i8.toInt ≤ 23 ∧ 0 ≤ i12.toInt ∧ i12.toInt ≤ 3 ∧ i15.toInt = i8.toInt - i12.toInt ∧ (u0 = 0 ∨ 1 ≤ i12.toInt)) : n = 24 ∧ 4 ≤ i8.toInt ∧ i8.toInt ≤ 23 ∧ 0 ≤ i12.toInt ∧ i12.toInt ≤ 3 ∧ i15.toInt = i8.toInt - i12.toInt ∧ 0 ≤ i15.toInt ∧ i15.toInt ≤ 23 :=
  ⟨hI.1, hI.2.1, hI.2.2.1, hI.2.2.2.1, hI.2.2.2.2.1, hI.2.2.2.2.2.1, by omega, by omega⟩
theorem own_su {n i8 i12 i15 u0 : Int32} (hI : n = 24 ∧ 4 ≤ i8.toInt ∧ i8.toInt ≤ 23 ∧ 0 ≤ i12.toInt ∧ i12.toInt ≤ 3 ∧ i15.toInt = i8.toInt - i12.toInt ∧ 0 ≤ u0.toInt ∧ u0.toInt ≤ 23) : ¬ u0 < 0 ∧ u0 < n := own_in24 _ _ hI.1 (by omega) (by omega)
theorem own_s23 {n i8 i12 i15 : Int32} (hI : n = 24 ∧ 4 ≤ i8.toInt ∧ i8.toInt ≤ 23 ∧ 0 ≤ i12.toInt ∧ i12.toInt ≤ 3 ∧ i15.toInt = i8.toInt - i12.toInt) : ¬ (23 : Int32) < 0 ∧ (23 : Int32) < n := own_in24 _ _ hI.1 (by decide +kernel) (by decide +kernel)
theorem own_sf {n i8 i12 i15 : Int32} (hI : n = 24 ∧ 4 ≤ i8.toInt ∧ i8.toInt ≤ 23 ∧ 0 ≤ i12.toInt ∧ i12.toInt ≤ 3 ∧ i15.toInt = i8.toInt - i12.toInt) : ¬ (i15 - (1 : Int32)) < 0 ∧ (i15 - (1 : Int32)) < n := by
  have e := own_dec i15 (by omega)
  exact own_in24 _ _ hI.1 (by omega) (by omega)
theorem own_w285a {n i8 i12 i15 : Int32} (hI : n = 24 ∧ 4 ≤ i8.toInt ∧ i8.toInt ≤ 23 ∧ 0 ≤ i12.toInt ∧ i12.toInt ≤ 3 ∧ i15.toInt = i8.toInt - i12.toInt) : n = 24 ∧ 0 ≤ i15.toInt ∧ i15.toInt ≤ 24 ∧ (24 : Int32).toInt ≤ 24 := ⟨hI.1, by omega, by omega, by decide +kernel⟩
theorem own_w285b {n i8 i12 i15 : Int32} (hI : n = 24 ∧ 4 ≤ i8.toInt ∧ i8.toInt ≤ 23 ∧ 0 ≤ i12.toInt ∧ i12.toInt ≤ 3 ∧ i15.toInt = i8.toInt - i12.toInt) : n = 24 ∧ 0 ≤ i15.toInt ∧ i15.toInt ≤ 24 ∧ (23 : Int32).toInt ≤ 24 := ⟨hI.1, by omega, by omega, by decide +kernel⟩
theorem own_w285c {n i8 i12 i15 : Int32} (hI : n = 24 ∧ 4 ≤ i8.toInt ∧ i8.toInt ≤ 23 ∧ 0 ≤ i12.toInt ∧ i12.toInt ≤ 3 ∧ i15.toInt = i8.toInt - i12.toInt) : n = 24 ∧ 0 ≤ i15.toInt ∧ i15.toInt ≤ 24 ∧ i15.toInt ≤ 24 := ⟨hI.1, by omega, by omega, by omega⟩
theorem own_w285d {n i8 i12 i15 : Int32} (hI : n = 24 ∧ 4 ≤ i8.toInt ∧ i8.toInt ≤ 23 ∧ 0 ≤ i12.toInt ∧ i12.toInt ≤ 3 ∧ i15.toInt = i8.toInt - i12.toInt) : n = 24 ∧ 0 ≤ (24 : Int32).toInt ∧ (24 : Int32).toInt ≤ 24 ∧ (24 : Int32).toInt ≤ 24 := ⟨hI.1, by decide +kernel, by decide +kernel, by decide +kernel⟩
theorem own_cp {n i18 i19 : Int32} (hI : n = 24 ∧ 0 ≤ i18.toInt ∧ i18.toInt ≤ 24 ∧ i19.toInt ≤ 24) : n.toInt ≤ 1000 ∧ 0 ≤ i18.toInt ∧ i18.toInt ≤ 1000 ∧ i19.toInt ≤ n.toInt := by
  have l24 : (24 : Int32).toInt = 24 := by decide +kernel
  obtain ⟨rfl, a, b, c⟩ := hI
  omega
theorem d1_0 : decode prog_28_method_3_code 0 = .ok (.aload_n 2, 1) := by decide +kernel
theorem d1_1 : decode prog_28_method_3_code 1 = .ok (.arraylength, 1) := by decide +kernel
theorem d1_2 : decode prog_28_method_3_code 2 = .ok (.istore_n 3, 1) := by decide +kernel
theorem d1_3 : decode prog_28_method_3_code 3 = .ok (.lload_n 0, 1) := by decide +kernel
theorem d1_4 : decode prog_28_method_3_code 4 = .ok (.lconst 0, 1) := by decide +kernel
theorem d1_5 : decode prog_28_method_3_code 5 = .ok (.lcmp, 1) := by decide +kernel
theorem d1_6 : decode prog_28_method_3_code 6 = .ok (.ifCond .ge 7, 3) := by decide +kernel
theorem d1_9 : decode prog_28_method_3_code 9 = .ok (.lload_n 0, 1) := by decide +kernel
theorem d1_10 : decode prog_28_method_3_code 10 = .ok (.goto 5, 3) := by decide +kernel
theorem d1_13 : decode prog_28_method_3_code 13 = .ok (.lload_n 0, 1) := by decide +kernel
theorem d1_14 : decode prog_28_method_3_code 14 = .ok (.lneg, 1) := by decide +kernel
theorem d1_15 : decode prog_28_method_3_code 15 = .ok (.lstore 4, 2) := by decide +kernel
theorem d1_17 : decode prog_28_method_3_code 17 = .ok (.aload_n 2, 1) := by decide +kernel
theorem d1_18 : decode prog_28_method_3_code 18 = .ok (.iinc 3 (-1), 3) := by decide +kernel
theorem d1_21 : decode prog_28_method_3_code 21 = .ok (.iload_n 3, 1) := by decide +kernel
theorem d1_22 : decode prog_28_method_3_code 22 = .ok (.ldc2_w 17, 3) := by decide +kernel
theorem d1_25 : decode prog_28_method_3_code 25 = .ok (.lload 4, 2) := by decide +kernel
theorem d1_27 : decode prog_28_method_3_code 27 = .ok (.ldc2_w 15, 3) := by decide +kernel
theorem d1_30 : decode prog_28_method_3_code 30 = .ok (.lrem, 1) := by decide +kernel
theorem d1_31 : decode prog_28_method_3_code 31 = .ok (.lsub, 1) := by decide +kernel
theorem d1_32 : decode prog_28_method_3_code 32 = .ok (.l2i, 1) := by decide +kernel
theorem d1_33 : decode prog_28_method_3_code 33 = .ok (.i2b, 1) := by decide +kernel
theorem d1_34 : decode prog_28_method_3_code 34 = .ok (.bastore, 1) := by decide +kernel
theorem d1_35 : decode prog_28_method_3_code 35 = .ok (.lload 4, 2) := by decide +kernel
theorem d1_37 : decode prog_28_method_3_code 37 = .ok (.ldc2_w 15, 3) := by decide +kernel
theorem d1_40 : decode prog_28_method_3_code 40 = .ok (.ldiv, 1) := by decide +kernel
theorem d1_41 : decode prog_28_method_3_code 41 = .ok (.lstore 4, 2) := by decide +kernel
theorem d1_43 : decode prog_28_method_3_code 43 = .ok (.lload 4, 2) := by decide +kernel
theorem d1_45 : decode prog_28_method_3_code 45 = .ok (.lconst 0, 1) := by decide +kernel
theorem d1_46 : decode prog_28_method_3_code 46 = .ok (.lcmp, 1) := by decide +kernel
theorem d1_47 : decode prog_28_method_3_code 47 = .ok (.ifCond .ne (-30), 3) := by decide +kernel
theorem d1_50 : decode prog_28_method_3_code 50 = .ok (.lload_n 0, 1) := by decide +kernel
theorem d1_51 : decode prog_28_method_3_code 51 = .ok (.lconst 0, 1) := by decide +kernel
theorem d1_52 : decode prog_28_method_3_code 52 = .ok (.lcmp, 1) := by decide +kernel
theorem d1_53 : decode prog_28_method_3_code 53 = .ok (.ifCond .ge 11, 3) := by decide +kernel
theorem d1_56 : decode prog_28_method_3_code 56 = .ok (.aload_n 2, 1) := by decide +kernel
theorem d1_57 : decode prog_28_method_3_code 57 = .ok (.iinc 3 (-1), 3) := by decide +kernel
theorem d1_60 : decode prog_28_method_3_code 60 = .ok (.iload_n 3, 1) := by decide +kernel
theorem d1_61 : decode prog_28_method_3_code 61 = .ok (.bipush 45, 2) := by decide +kernel
theorem d1_63 : decode prog_28_method_3_code 63 = .ok (.bastore, 1) := by decide +kernel
theorem d1_64 : decode prog_28_method_3_code 64 = .ok (.iload_n 3, 1) := by decide +kernel
theorem d1_65 : decode prog_28_method_3_code 65 = .ok (.ireturn, 1) := by decide +kernel
theorem pn_1 : plainName "com/example/rollcalldb/rollcalldb/resp/Decimal" = true := by first | (simp [plainName, overriddenIn]; done) | decide +kernel
theorem ef_1 (m : MethodId) (j0 : Int64) (a2 : Addr) : entryFrame m #[(.long j0), (.ref a2)] 6 = mkF m 0 #[.val (.long j0), .second, .val (.ref a2), .unset, .unset, .unset] [] := by first | (simp [entryFrame, mkF, argsToLocals, Value.category]; done) | rfl
def own_f1_17 : Nat → (Int64) → (Int32) → (Int64) → (Int32) → (Nat → Int32) → (Int32)
  | 0, _, _, _, _, _ => 0
  | k + 1, j0, i3, j4, n_a2, A_a2 => (if (j4 / (10 : Int64)) = (0 : Int64) then (if j0 < (0 : Int64) then ((i3 + (-1 : Int32)) + (-1 : Int32)) else (i3 + (-1 : Int32))) else (own_f1_17 k j0 (i3 + (-1 : Int32)) (j4 / (10 : Int64)) n_a2 (own_up A_a2 (i3 + (-1 : Int32)).toNatClampNeg (((((48 : Int64) - (j4 - (j4 / (10 : Int64)) * (10 : Int64))).toInt32).toInt8.toInt32).toInt8.toInt32))))
theorem own_f1_17_s (k : Nat) (j0 : Int64) (i3 : Int32) (j4 : Int64) (n_a2 : Int32) (A_a2 : Nat → Int32) : own_f1_17 (k + 1) j0 i3 j4 n_a2 A_a2 =
  (if (j4 / (10 : Int64)) = (0 : Int64) then (if j0 < (0 : Int64) then ((i3 + (-1 : Int32)) + (-1 : Int32)) else (i3 + (-1 : Int32))) else (own_f1_17 k j0 (i3 + (-1 : Int32)) (j4 / (10 : Int64)) n_a2 (own_up A_a2 (i3 + (-1 : Int32)).toNatClampNeg (((((48 : Int64) - (j4 - (j4 / (10 : Int64)) * (10 : Int64))).toInt32).toInt8.toInt32).toInt8.toInt32)))) := rfl
def own_o1_A_17 : Nat → (Int64) → (Int32) → (Int64) → (Int32) → (Nat → Int32) → (Nat → Int32)
  | 0, _, _, _, _, _ => fun _ => 0
  | k + 1, j0, i3, j4, n_a2, A_a2 => (if (j4 / (10 : Int64)) = (0 : Int64) then (if j0 < (0 : Int64) then (own_up (own_up A_a2 (i3 + (-1 : Int32)).toNatClampNeg (((((48 : Int64) - (j4 - (j4 / (10 : Int64)) * (10 : Int64))).toInt32).toInt8.toInt32).toInt8.toInt32)) ((i3 + (-1 : Int32)) + (-1 : Int32)).toNatClampNeg ((45 : Int32).toInt8.toInt32)) else (own_up A_a2 (i3 + (-1 : Int32)).toNatClampNeg (((((48 : Int64) - (j4 - (j4 / (10 : Int64)) * (10 : Int64))).toInt32).toInt8.toInt32).toInt8.toInt32))) else (own_o1_A_17 k j0 (i3 + (-1 : Int32)) (j4 / (10 : Int64)) n_a2 (own_up A_a2 (i3 + (-1 : Int32)).toNatClampNeg (((((48 : Int64) - (j4 - (j4 / (10 : Int64)) * (10 : Int64))).toInt32).toInt8.toInt32).toInt8.toInt32))))
theorem own_o1_A_17_s (k : Nat) (j0 : Int64) (i3 : Int32) (j4 : Int64) (n_a2 : Int32) (A_a2 : Nat → Int32) : own_o1_A_17 (k + 1) j0 i3 j4 n_a2 A_a2 =
  (if (j4 / (10 : Int64)) = (0 : Int64) then (if j0 < (0 : Int64) then (own_up (own_up A_a2 (i3 + (-1 : Int32)).toNatClampNeg (((((48 : Int64) - (j4 - (j4 / (10 : Int64)) * (10 : Int64))).toInt32).toInt8.toInt32).toInt8.toInt32)) ((i3 + (-1 : Int32)) + (-1 : Int32)).toNatClampNeg ((45 : Int32).toInt8.toInt32)) else (own_up A_a2 (i3 + (-1 : Int32)).toNatClampNeg (((((48 : Int64) - (j4 - (j4 / (10 : Int64)) * (10 : Int64))).toInt32).toInt8.toInt32).toInt8.toInt32))) else (own_o1_A_17 k j0 (i3 + (-1 : Int32)) (j4 / (10 : Int64)) n_a2 (own_up A_a2 (i3 + (-1 : Int32)).toNatClampNeg (((((48 : Int64) - (j4 - (j4 / (10 : Int64)) * (10 : Int64))).toInt32).toInt8.toInt32).toInt8.toInt32)))) := rfl
def own_f1_15 (j0 : Int64) (i3 : Int32) (v0 : Int64) (n_a2 : Int32) (A_a2 : Nat → Int32) : Int32 :=
  (own_f1_17 (v0.toInt.natAbs + 1) j0 i3 v0 n_a2 A_a2)
def own_o1_A_15 (j0 : Int64) (i3 : Int32) (v0 : Int64) (n_a2 : Int32) (A_a2 : Nat → Int32) : Nat → Int32 :=
  (own_o1_A_17 (v0.toInt.natAbs + 1) j0 i3 v0 n_a2 A_a2)
def own_f1_0 (j0 : Int64) (n_a2 : Int32) (A_a2 : Nat → Int32) : Int32 :=
  (if j0 < (0 : Int64) then (own_f1_15 j0 n_a2 j0 n_a2 A_a2) else (own_f1_15 j0 n_a2 (-j0) n_a2 A_a2))
def own_o1_A (j0 : Int64) (n_a2 : Int32) (A_a2 : Nat → Int32) : Nat → Int32 :=
  (if j0 < (0 : Int64) then (own_o1_A_15 j0 n_a2 j0 n_a2 A_a2) else (own_o1_A_15 j0 n_a2 (-j0) n_a2 A_a2))
set_option maxRecDepth 65536 in
set_option maxHeartbeats 40000000 in
theorem own_b1_17 {p : Program} {l : Launch} {e : Env} {s : State} {m : MethodId} {args : Array Value} {below : List Frame} {meth : Method} {c : Code} {Z : State} {a0_ : Array Value} {n0 : Nat} (hx : p.tables.exec = Jvm.exec) (hZ : Z.Warmed39 s.vm) (hw : ∀ d ∈ tables_1, d.before a0_ Z = true) (hby : c.code = prog_28_method_3_code) (hml : c.maxLocals = 6) (hown : s.vm.findClass "com/example/rollcalldb/rollcalldb/resp/Decimal" = some m.cls) (hret : meth.sig.returnType = some .int) :
    ∀ (k : Nat) {T0 : State} {locs : List Loc} {h0 : Heap} (j0 : Int64) (a2 : Addr) (i3 : Int32) (j4 : Int64) (n_a2 : Int32) (A_a2 : Nat → Int32) (X0 : Stand p l e ({ frames := 0, cells := 0, slots := 0, locals := 0 } : Room) s m args below meth c T0 locs 0 0) (e0 : T0.heap = h0) (N0 : Fr n0 locs) (Z0 : n0 ≤ h0.size) (g_a2 : n0 ≤ a2) (V_a2 : own_Ar Z h0 a2 .byte n_a2 A_a2) (hI : 2 ≤ i3.toInt ∧ i3.toInt ≤ n_a2.toInt ∧ j4.toInt.natAbs < 10 ^ (i3.toInt.toNat - 1)) (hk : j4.toInt.natAbs < k),
    ∃ T' h' locs', Stand p l e ({ frames := 0, cells := 0, slots := 0, locals := 0 } : Room) s m args below meth c T' locs' 0 0 ∧ T'.heap = h' ∧ Fr n0 locs' ∧ Keep h0 h' [a2] ∧ own_Ar Z h' a2 .byte n_a2 (own_o1_A_17 k j0 i3 j4 n_a2 A_a2) ∧ ∀ fs, (∀ (f : JFrame) (acts : List Action), f.method = m → f.locked = none → f.entered = [] → (doReturn e (T'.setTop f) acts (some (.int (own_f1_17 k j0 i3 j4 n_a2 A_a2)))).1 = T'.setFrames fs) → Steps p.tables e below (T0.setTop (mkF m 17 #[.val (.long j0), .second, .val (.ref a2), .val (.int i3), .val (.long j4), .second] [])) (T'.setFrames fs) := by
  intro k
  induction k with
  | zero => intro T0 locs h0 j0 a2 i3 j4 n_a2 A_a2 X0 e0 N0 Z0 g_a2 V_a2 hI hk; exact absurd hk (Nat.not_lt_zero _)
  | succ k ih =>
    intro T0 locs h0 j0 a2 i3 j4 n_a2 A_a2 X0 e0 N0 Z0 g_a2 V_a2 hI hk
    have hix34 : ¬ (i3 + (-1 : Int32)) < 0 ∧ (i3 + (-1 : Int32)) < n_a2 := by exact own_fx0 hI
    obtain ⟨T1, h1, X1, e1, W1, V1, st1⟩ := own_stB X0 hx hZ e0 V_a2 hix34 (g := (mkF m 34 #[.val (.long j0), .second, .val (.ref a2), .val (.int (i3 + (-1 : Int32))), .val (.long j4), .second] [(.int ((((48 : Int64) - (j4 - (j4 / (10 : Int64)) * (10 : Int64))).toInt32).toInt8.toInt32)), (.int (i3 + (-1 : Int32))), (.ref a2)])) rfl rfl (hb hby d1_34)
    have N1 := Fr.snoc X1 N0 g_a2
    have Z1 : n0 ≤ h1.size := Nat.le_trans Z0 (Keep.of_wr W1).1
    have K1 : Keep h0 h1 [a2] := (Keep.refl h0 [a2]).wr W1 (Or.inl (List.mem_of_getElem? (i := 0) rfl))
    have V_a2_k1 := V1
    have pre2 : ∀ target, Steps p.tables e below (T1.setTop (mkF m 47 #[.val (.long j0), .second, .val (.ref a2), .val (.int (i3 + (-1 : Int32))), .val (.long (j4 / (10 : Int64))), .second] [(.int (lcmpW (j4 / (10 : Int64)) (0 : Int64)))])) target → Steps p.tables e below (T0.setTop (mkF m 17 #[.val (.long j0), .second, .val (.ref a2), .val (.int i3), .val (.long j4), .second] [])) target := by
      intro target kt
      show Steps p.tables e below (T0.setTop (mkF m 17 #[.val (.long j0), .second, .val (.ref a2), .val (.int i3), .val (.long j4), .second] [])) _
      refine XS.aloadN X0.here hx rfl (hb hby d1_17) rfl rfl ?_
      show Steps p.tables e below (T0.setTop (mkF m 18 #[.val (.long j0), .second, .val (.ref a2), .val (.int i3), .val (.long j4), .second] [(.ref a2)])) _
      refine XS.iinc X0.here hx rfl (hb hby d1_18) rfl (l' := #[.val (.long j0), .second, .val (.ref a2), .val (.int (i3 + (-1 : Int32))), .val (.long j4), .second]) rfl ?_
      show Steps p.tables e below (T0.setTop (mkF m 21 #[.val (.long j0), .second, .val (.ref a2), .val (.int (i3 + (-1 : Int32))), .val (.long j4), .second] [(.ref a2)])) _
      refine XS.iloadN X0.here hx rfl (hb hby d1_21) rfl ?_
      show Steps p.tables e below (T0.setTop (mkF m 22 #[.val (.long j0), .second, .val (.ref a2), .val (.int (i3 + (-1 : Int32))), .val (.long j4), .second] [(.int (i3 + (-1 : Int32))), (.ref a2)])) _
      refine X0.ldc2Long hx hown (mvT hZ (hw _ (List.mem_of_getElem? (i := 6) rfl))) (g := (mkF m 22 #[.val (.long j0), .second, .val (.ref a2), .val (.int (i3 + (-1 : Int32))), .val (.long j4), .second] [(.int (i3 + (-1 : Int32))), (.ref a2)])) rfl (hb hby d1_22) _ ?_
      show Steps p.tables e below (T0.setTop (mkF m 25 #[.val (.long j0), .second, .val (.ref a2), .val (.int (i3 + (-1 : Int32))), .val (.long j4), .second] [(.long (48 : Int64)), (.int (i3 + (-1 : Int32))), (.ref a2)])) _
      refine XS.lload X0.here hx rfl (hb hby d1_25) rfl ?_
      show Steps p.tables e below (T0.setTop (mkF m 27 #[.val (.long j0), .second, .val (.ref a2), .val (.int (i3 + (-1 : Int32))), .val (.long j4), .second] [(.long j4), (.long (48 : Int64)), (.int (i3 + (-1 : Int32))), (.ref a2)])) _
      refine X0.ldc2Long hx hown (mvT hZ (hw _ (List.mem_of_getElem? (i := 7) rfl))) (g := (mkF m 27 #[.val (.long j0), .second, .val (.ref a2), .val (.int (i3 + (-1 : Int32))), .val (.long j4), .second] [(.long j4), (.long (48 : Int64)), (.int (i3 + (-1 : Int32))), (.ref a2)])) rfl (hb hby d1_27) _ ?_
      show Steps p.tables e below (T0.setTop (mkF m 30 #[.val (.long j0), .second, .val (.ref a2), .val (.int (i3 + (-1 : Int32))), .val (.long j4), .second] [(.long (10 : Int64)), (.long j4), (.long (48 : Int64)), (.int (i3 + (-1 : Int32))), (.ref a2)])) _
      refine XS.lrem X0.here hx rfl (hb hby d1_30) rfl (by decide) ?_
      show Steps p.tables e below (T0.setTop (mkF m 31 #[.val (.long j0), .second, .val (.ref a2), .val (.int (i3 + (-1 : Int32))), .val (.long j4), .second] [(.long (j4 - (j4 / (10 : Int64)) * (10 : Int64))), (.long (48 : Int64)), (.int (i3 + (-1 : Int32))), (.ref a2)])) _
      refine XS.lsub X0.here hx rfl (hb hby d1_31) rfl ?_
      show Steps p.tables e below (T0.setTop (mkF m 32 #[.val (.long j0), .second, .val (.ref a2), .val (.int (i3 + (-1 : Int32))), .val (.long j4), .second] [(.long ((48 : Int64) - (j4 - (j4 / (10 : Int64)) * (10 : Int64)))), (.int (i3 + (-1 : Int32))), (.ref a2)])) _
      refine XS.l2i X0.here hx rfl (hb hby d1_32) rfl ?_
      show Steps p.tables e below (T0.setTop (mkF m 33 #[.val (.long j0), .second, .val (.ref a2), .val (.int (i3 + (-1 : Int32))), .val (.long j4), .second] [(.int (((48 : Int64) - (j4 - (j4 / (10 : Int64)) * (10 : Int64))).toInt32)), (.int (i3 + (-1 : Int32))), (.ref a2)])) _
      refine XS.i2b X0.here hx rfl (hb hby d1_33) rfl ?_
      show Steps p.tables e below (T0.setTop (mkF m 34 #[.val (.long j0), .second, .val (.ref a2), .val (.int (i3 + (-1 : Int32))), .val (.long j4), .second] [(.int ((((48 : Int64) - (j4 - (j4 / (10 : Int64)) * (10 : Int64))).toInt32).toInt8.toInt32)), (.int (i3 + (-1 : Int32))), (.ref a2)])) _
      refine st1 _ ?_
      show Steps p.tables e below (T1.setTop (mkF m 35 #[.val (.long j0), .second, .val (.ref a2), .val (.int (i3 + (-1 : Int32))), .val (.long j4), .second] [])) _
      refine XS.lload X1.here hx rfl (hb hby d1_35) rfl ?_
      show Steps p.tables e below (T1.setTop (mkF m 37 #[.val (.long j0), .second, .val (.ref a2), .val (.int (i3 + (-1 : Int32))), .val (.long j4), .second] [(.long j4)])) _
      refine X1.ldc2Long hx hown (mvT hZ (hw _ (List.mem_of_getElem? (i := 7) rfl))) (g := (mkF m 37 #[.val (.long j0), .second, .val (.ref a2), .val (.int (i3 + (-1 : Int32))), .val (.long j4), .second] [(.long j4)])) rfl (hb hby d1_37) _ ?_
      show Steps p.tables e below (T1.setTop (mkF m 40 #[.val (.long j0), .second, .val (.ref a2), .val (.int (i3 + (-1 : Int32))), .val (.long j4), .second] [(.long (10 : Int64)), (.long j4)])) _
      refine XS.ldiv X1.here hx rfl (hb hby d1_40) rfl (by decide) ?_
      show Steps p.tables e below (T1.setTop (mkF m 41 #[.val (.long j0), .second, .val (.ref a2), .val (.int (i3 + (-1 : Int32))), .val (.long j4), .second] [(.long (j4 / (10 : Int64)))])) _
      refine XS.lstore X1.here hx rfl (hb hby d1_41) rfl (l' := #[.val (.long j0), .second, .val (.ref a2), .val (.int (i3 + (-1 : Int32))), .val (.long (j4 / (10 : Int64))), .second]) rfl ?_
      show Steps p.tables e below (T1.setTop (mkF m 43 #[.val (.long j0), .second, .val (.ref a2), .val (.int (i3 + (-1 : Int32))), .val (.long (j4 / (10 : Int64))), .second] [])) _
      refine XS.lload X1.here hx rfl (hb hby d1_43) rfl ?_
      show Steps p.tables e below (T1.setTop (mkF m 45 #[.val (.long j0), .second, .val (.ref a2), .val (.int (i3 + (-1 : Int32))), .val (.long (j4 / (10 : Int64))), .second] [(.long (j4 / (10 : Int64)))])) _
      refine XS.lconst X1.here hx rfl (hb hby d1_45) ?_
      show Steps p.tables e below (T1.setTop (mkF m 46 #[.val (.long j0), .second, .val (.ref a2), .val (.int (i3 + (-1 : Int32))), .val (.long (j4 / (10 : Int64))), .second] [(.long (0 : Int64)), (.long (j4 / (10 : Int64)))])) _
      refine XS.lcmp X1.here hx rfl (hb hby d1_46) rfl ?_
      exact kt
    by_cases hc47 : (j4 / (10 : Int64)) = (0 : Int64)
    · have pre3 : ∀ target, Steps p.tables e below (T1.setTop (mkF m 53 #[.val (.long j0), .second, .val (.ref a2), .val (.int (i3 + (-1 : Int32))), .val (.long (j4 / (10 : Int64))), .second] [(.int (lcmpW j0 (0 : Int64)))])) target → Steps p.tables e below (T0.setTop (mkF m 17 #[.val (.long j0), .second, .val (.ref a2), .val (.int i3), .val (.long j4), .second] [])) target := by
        intro target kt
        refine pre2 target ?_
        show Steps p.tables e below (T1.setTop (mkF m 47 #[.val (.long j0), .second, .val (.ref a2), .val (.int (i3 + (-1 : Int32))), .val (.long (j4 / (10 : Int64))), .second] [(.int (lcmpW (j4 / (10 : Int64)) (0 : Int64)))])) _
        refine XS.ifNo X1.here hx rfl (hb hby d1_47) rfl ((if0 _ _).trans (teq ((lw_eq _ _).mpr hc47)).2) ?_
        show Steps p.tables e below (T1.setTop (mkF m 50 #[.val (.long j0), .second, .val (.ref a2), .val (.int (i3 + (-1 : Int32))), .val (.long (j4 / (10 : Int64))), .second] [])) _
        refine XS.lloadN X1.here hx rfl (hb hby d1_50) rfl ?_
        show Steps p.tables e below (T1.setTop (mkF m 51 #[.val (.long j0), .second, .val (.ref a2), .val (.int (i3 + (-1 : Int32))), .val (.long (j4 / (10 : Int64))), .second] [(.long j0)])) _
        refine XS.lconst X1.here hx rfl (hb hby d1_51) ?_
        show Steps p.tables e below (T1.setTop (mkF m 52 #[.val (.long j0), .second, .val (.ref a2), .val (.int (i3 + (-1 : Int32))), .val (.long (j4 / (10 : Int64))), .second] [(.long (0 : Int64)), (.long j0)])) _
        refine XS.lcmp X1.here hx rfl (hb hby d1_52) rfl ?_
        exact kt
      by_cases hc53 : j0 < (0 : Int64)
      · have hix63 : ¬ ((i3 + (-1 : Int32)) + (-1 : Int32)) < 0 ∧ ((i3 + (-1 : Int32)) + (-1 : Int32)) < n_a2 := by exact own_fx1 hI
        obtain ⟨T4, h4, X4, e4, W4, V4, st4⟩ := own_stB X1 hx hZ e1 V_a2_k1 hix63 (g := (mkF m 63 #[.val (.long j0), .second, .val (.ref a2), .val (.int ((i3 + (-1 : Int32)) + (-1 : Int32))), .val (.long (j4 / (10 : Int64))), .second] [(.int (45 : Int32)), (.int ((i3 + (-1 : Int32)) + (-1 : Int32))), (.ref a2)])) rfl rfl (hb hby d1_63)
        have N4 := Fr.snoc X4 N1 g_a2
        have Z4 : n0 ≤ h4.size := Nat.le_trans Z1 (Keep.of_wr W4).1
        have K4 : Keep h0 h4 [a2] := K1.wr W4 (Or.inl (List.mem_of_getElem? (i := 0) rfl))
        have V_a2_k4 := V4
        have ho_A : (own_o1_A_17 (k + 1) j0 i3 j4 n_a2 A_a2) = (own_up (own_up A_a2 (i3 + (-1 : Int32)).toNatClampNeg (((((48 : Int64) - (j4 - (j4 / (10 : Int64)) * (10 : Int64))).toInt32).toInt8.toInt32).toInt8.toInt32)) ((i3 + (-1 : Int32)) + (-1 : Int32)).toNatClampNeg ((45 : Int32).toInt8.toInt32)) := by rw [own_o1_A_17_s]; rw [if_pos hc47, if_pos hc53]
        refine ⟨T4, _, _, X4, e4, N4, K4, (by rw [ho_A]; exact V_a2_k4), fun fs hr => ?_⟩
        have hv : (own_f1_17 (k + 1) j0 i3 j4 n_a2 A_a2) = ((i3 + (-1 : Int32)) + (-1 : Int32)) := by rw [own_f1_17_s]; rw [if_pos hc47, if_pos hc53]
        rw [hv] at hr
        refine pre3 _ ?_
        show Steps p.tables e below (T1.setTop (mkF m 53 #[.val (.long j0), .second, .val (.ref a2), .val (.int (i3 + (-1 : Int32))), .val (.long (j4 / (10 : Int64))), .second] [(.int (lcmpW j0 (0 : Int64)))])) _
        refine XS.ifNo X1.here hx rfl (hb hby d1_53) rfl ((if0 _ _).trans (tlt ((lw_lt _ _).mpr hc53)).2.1) ?_
        show Steps p.tables e below (T1.setTop (mkF m 56 #[.val (.long j0), .second, .val (.ref a2), .val (.int (i3 + (-1 : Int32))), .val (.long (j4 / (10 : Int64))), .second] [])) _
        refine XS.aloadN X1.here hx rfl (hb hby d1_56) rfl rfl ?_
        show Steps p.tables e below (T1.setTop (mkF m 57 #[.val (.long j0), .second, .val (.ref a2), .val (.int (i3 + (-1 : Int32))), .val (.long (j4 / (10 : Int64))), .second] [(.ref a2)])) _
        refine XS.iinc X1.here hx rfl (hb hby d1_57) rfl (l' := #[.val (.long j0), .second, .val (.ref a2), .val (.int ((i3 + (-1 : Int32)) + (-1 : Int32))), .val (.long (j4 / (10 : Int64))), .second]) rfl ?_
        show Steps p.tables e below (T1.setTop (mkF m 60 #[.val (.long j0), .second, .val (.ref a2), .val (.int ((i3 + (-1 : Int32)) + (-1 : Int32))), .val (.long (j4 / (10 : Int64))), .second] [(.ref a2)])) _
        refine XS.iloadN X1.here hx rfl (hb hby d1_60) rfl ?_
        show Steps p.tables e below (T1.setTop (mkF m 61 #[.val (.long j0), .second, .val (.ref a2), .val (.int ((i3 + (-1 : Int32)) + (-1 : Int32))), .val (.long (j4 / (10 : Int64))), .second] [(.int ((i3 + (-1 : Int32)) + (-1 : Int32))), (.ref a2)])) _
        refine XS.bipush X1.here hx rfl (hb hby d1_61) ?_
        show Steps p.tables e below (T1.setTop (mkF m 63 #[.val (.long j0), .second, .val (.ref a2), .val (.int ((i3 + (-1 : Int32)) + (-1 : Int32))), .val (.long (j4 / (10 : Int64))), .second] [(.int (45 : Int32)), (.int ((i3 + (-1 : Int32)) + (-1 : Int32))), (.ref a2)])) _
        refine st4 _ ?_
        show Steps p.tables e below (T4.setTop (mkF m 64 #[.val (.long j0), .second, .val (.ref a2), .val (.int ((i3 + (-1 : Int32)) + (-1 : Int32))), .val (.long (j4 / (10 : Int64))), .second] [])) _
        refine XS.iloadN X4.here hx rfl (hb hby d1_64) rfl ?_
        show Steps p.tables e below (T4.setTop (mkF m 65 #[.val (.long j0), .second, .val (.ref a2), .val (.int ((i3 + (-1 : Int32)) + (-1 : Int32))), .val (.long (j4 / (10 : Int64))), .second] [(.int ((i3 + (-1 : Int32)) + (-1 : Int32)))])) _
        exact retI X4 hx hret (hb hby d1_65) hr
      · have ho_A : (own_o1_A_17 (k + 1) j0 i3 j4 n_a2 A_a2) = (own_up A_a2 (i3 + (-1 : Int32)).toNatClampNeg (((((48 : Int64) - (j4 - (j4 / (10 : Int64)) * (10 : Int64))).toInt32).toInt8.toInt32).toInt8.toInt32)) := by rw [own_o1_A_17_s]; rw [if_pos hc47, if_neg hc53]
        refine ⟨T1, _, _, X1, e1, N1, K1, (by rw [ho_A]; exact V_a2_k1), fun fs hr => ?_⟩
        have hv : (own_f1_17 (k + 1) j0 i3 j4 n_a2 A_a2) = (i3 + (-1 : Int32)) := by rw [own_f1_17_s]; rw [if_pos hc47, if_neg hc53]
        rw [hv] at hr
        refine pre3 _ ?_
        show Steps p.tables e below (T1.setTop (mkF m 53 #[.val (.long j0), .second, .val (.ref a2), .val (.int (i3 + (-1 : Int32))), .val (.long (j4 / (10 : Int64))), .second] [(.int (lcmpW j0 (0 : Int64)))])) _
        refine XS.ifYes X1.here hx rfl (pc0 := 53) (pc' := 64) rfl (hb hby d1_53) rfl ((if0 _ _).trans (flt (mt (lw_lt _ _).mp hc53)).2.1) (by decide) (by decide) ?_
        show Steps p.tables e below (T1.setTop (mkF m 64 #[.val (.long j0), .second, .val (.ref a2), .val (.int (i3 + (-1 : Int32))), .val (.long (j4 / (10 : Int64))), .second] [])) _
        refine XS.iloadN X1.here hx rfl (hb hby d1_64) rfl ?_
        show Steps p.tables e below (T1.setTop (mkF m 65 #[.val (.long j0), .second, .val (.ref a2), .val (.int (i3 + (-1 : Int32))), .val (.long (j4 / (10 : Int64))), .second] [(.int (i3 + (-1 : Int32)))])) _
        exact retI X1 hx hret (hb hby d1_65) hr
    · have pre5 : ∀ target, Steps p.tables e below (T1.setTop (mkF m 17 #[.val (.long j0), .second, .val (.ref a2), .val (.int (i3 + (-1 : Int32))), .val (.long (j4 / (10 : Int64))), .second] [])) target → Steps p.tables e below (T0.setTop (mkF m 17 #[.val (.long j0), .second, .val (.ref a2), .val (.int i3), .val (.long j4), .second] [])) target := by
        intro target kt
        refine pre2 target ?_
        show Steps p.tables e below (T1.setTop (mkF m 47 #[.val (.long j0), .second, .val (.ref a2), .val (.int (i3 + (-1 : Int32))), .val (.long (j4 / (10 : Int64))), .second] [(.int (lcmpW (j4 / (10 : Int64)) (0 : Int64)))])) _
        refine XS.ifYes X1.here hx rfl (pc0 := 47) (pc' := 17) rfl (hb hby d1_47) rfl ((if0 _ _).trans (feq (mt (lw_eq _ _).mp hc47)).2) (by decide) (by decide) ?_
        exact kt
      have hI6 : 2 ≤ (i3 + (-1 : Int32)).toInt ∧ (i3 + (-1 : Int32)).toInt ≤ n_a2.toInt ∧ (j4 / (10 : Int64)).toInt.natAbs < 10 ^ ((i3 + (-1 : Int32)).toInt.toNat - 1) := by exact own_fv1 hI hc47
      have hk6 : (j4 / (10 : Int64)).toInt.natAbs < k := by exact own_fm hc47 hk
      obtain ⟨T6, h6', L6, X6, e6, N6, K6', G6_0, st6⟩ := ih j0 a2 (i3 + (-1 : Int32)) (j4 / (10 : Int64)) n_a2 (own_up A_a2 (i3 + (-1 : Int32)).toNatClampNeg (((((48 : Int64) - (j4 - (j4 / (10 : Int64)) * (10 : Int64))).toInt32).toInt8.toInt32).toInt8.toInt32)) X1 e1 N1 Z1 g_a2 V_a2_k1 hI6 hk6
      have ho6_A : (own_o1_A_17 (k + 1) j0 i3 j4 n_a2 A_a2) = (own_o1_A_17 k j0 (i3 + (-1 : Int32)) (j4 / (10 : Int64)) n_a2 (own_up A_a2 (i3 + (-1 : Int32)).toNatClampNeg (((((48 : Int64) - (j4 - (j4 / (10 : Int64)) * (10 : Int64))).toInt32).toInt8.toInt32).toInt8.toInt32))) := by rw [own_o1_A_17_s]; rw [if_neg hc47]
      have hv : (own_f1_17 (k + 1) j0 i3 j4 n_a2 A_a2) = (own_f1_17 k j0 (i3 + (-1 : Int32)) (j4 / (10 : Int64)) n_a2 (own_up A_a2 (i3 + (-1 : Int32)).toNatClampNeg (((((48 : Int64) - (j4 - (j4 / (10 : Int64)) * (10 : Int64))).toInt32).toInt8.toInt32).toInt8.toInt32))) := by rw [own_f1_17_s]; rw [if_neg hc47]
      exact ⟨T6, h6', L6, X6, e6, N6, (K1).trans K6' (fun _ hx_ => Or.inl hx_), (by rw [ho6_A]; exact G6_0), fun fs hr => pre5 _ (st6 fs (by rw [hv] at hr; exact hr))⟩
set_option maxRecDepth 65536 in
set_option maxHeartbeats 40000000 in
theorem own_b1_15 {p : Program} {l : Launch} {e : Env} {s : State} {m : MethodId} {args : Array Value} {below : List Frame} {meth : Method} {c : Code} {Z : State} {a0_ : Array Value} {n0 : Nat} (hx : p.tables.exec = Jvm.exec) (hZ : Z.Warmed39 s.vm) (hw : ∀ d ∈ tables_1, d.before a0_ Z = true) (hby : c.code = prog_28_method_3_code) (hml : c.maxLocals = 6) (hown : s.vm.findClass "com/example/rollcalldb/rollcalldb/resp/Decimal" = some m.cls) (hret : meth.sig.returnType = some .int) {T0 : State} {locs : List Loc} {h0 : Heap} (j0 : Int64) (a2 : Addr) (i3 : Int32) (v0 : Int64) (n_a2 : Int32) (A_a2 : Nat → Int32)
    (X0 : Stand p l e ({ frames := 0, cells := 0, slots := 0, locals := 0 } : Room) s m args below meth c T0 locs 0 0) (e0 : T0.heap = h0) (N0 : Fr n0 locs) (Z0 : n0 ≤ h0.size) (g_a2 : n0 ≤ a2) (V_a2 : own_Ar Z h0 a2 .byte n_a2 A_a2) (hI : 20 ≤ n_a2.toInt ∧ i3 = n_a2) :
    ∃ T' h' locs', Stand p l e ({ frames := 0, cells := 0, slots := 0, locals := 0 } : Room) s m args below meth c T' locs' 0 0 ∧ T'.heap = h' ∧ Fr n0 locs' ∧ Keep h0 h' [a2] ∧ own_Ar Z h' a2 .byte n_a2 (own_o1_A_15 j0 i3 v0 n_a2 A_a2) ∧ ∀ fs, (∀ (f : JFrame) (acts : List Action), f.method = m → f.locked = none → f.entered = [] → (doReturn e (T'.setTop f) acts (some (.int (own_f1_15 j0 i3 v0 n_a2 A_a2)))).1 = T'.setFrames fs) → Steps p.tables e below (T0.setTop (mkF m 15 #[.val (.long j0), .second, .val (.ref a2), .val (.int i3), .unset, .unset] [(.long v0)])) (T'.setFrames fs) := by
  have pre1 : ∀ target, Steps p.tables e below (T0.setTop (mkF m 17 #[.val (.long j0), .second, .val (.ref a2), .val (.int i3), .val (.long v0), .second] [])) target → Steps p.tables e below (T0.setTop (mkF m 15 #[.val (.long j0), .second, .val (.ref a2), .val (.int i3), .unset, .unset] [(.long v0)])) target := by
    intro target kt
    show Steps p.tables e below (T0.setTop (mkF m 15 #[.val (.long j0), .second, .val (.ref a2), .val (.int i3), .unset, .unset] [(.long v0)])) _
    refine XS.lstore X0.here hx rfl (hb hby d1_15) rfl (l' := #[.val (.long j0), .second, .val (.ref a2), .val (.int i3), .val (.long v0), .second]) rfl ?_
    exact kt
  have hI2 : 2 ≤ i3.toInt ∧ i3.toInt ≤ n_a2.toInt ∧ v0.toInt.natAbs < 10 ^ (i3.toInt.toNat - 1) := by exact own_fv0 _ hI
  have hk2 : v0.toInt.natAbs < v0.toInt.natAbs + 1 := by exact Nat.lt_succ_self _
  obtain ⟨T2, h2', L2, X2, e2, N2, K2', G2_0, st2⟩ := own_b1_17 hx hZ hw hby hml hown hret (v0.toInt.natAbs + 1) j0 a2 i3 v0 n_a2 A_a2 X0 e0 N0 Z0 g_a2 V_a2 hI2 hk2
  have ho2_A : (own_o1_A_15 j0 i3 v0 n_a2 A_a2) = (own_o1_A_17 (v0.toInt.natAbs + 1) j0 i3 v0 n_a2 A_a2) := by unfold own_o1_A_15; rfl
  have hv : (own_f1_15 j0 i3 v0 n_a2 A_a2) = (own_f1_17 (v0.toInt.natAbs + 1) j0 i3 v0 n_a2 A_a2) := by unfold own_f1_15; rfl
  exact ⟨T2, h2', L2, X2, e2, N2, ((Keep.refl h0 [a2])).trans K2' (fun _ hx_ => Or.inl hx_), (by rw [ho2_A]; exact G2_0), fun fs hr => pre1 _ (st2 fs (by rw [hv] at hr; exact hr))⟩
set_option maxRecDepth 65536 in
set_option maxHeartbeats 40000000 in
theorem own_b1_0 {p : Program} {l : Launch} {e : Env} {s : State} {m : MethodId} {args : Array Value} {below : List Frame} {meth : Method} {c : Code} {Z : State} {a0_ : Array Value} {n0 : Nat} (hx : p.tables.exec = Jvm.exec) (hZ : Z.Warmed39 s.vm) (hw : ∀ d ∈ tables_1, d.before a0_ Z = true) (hby : c.code = prog_28_method_3_code) (hml : c.maxLocals = 6) (hown : s.vm.findClass "com/example/rollcalldb/rollcalldb/resp/Decimal" = some m.cls) (hret : meth.sig.returnType = some .int) {T0 : State} {locs : List Loc} {h0 : Heap} (j0 : Int64) (a2 : Addr) (n_a2 : Int32) (A_a2 : Nat → Int32)
    (X0 : Stand p l e ({ frames := 0, cells := 0, slots := 0, locals := 0 } : Room) s m args below meth c T0 locs 0 0) (e0 : T0.heap = h0) (N0 : Fr n0 locs) (Z0 : n0 ≤ h0.size) (g_a2 : n0 ≤ a2) (V_a2 : own_Ar Z h0 a2 .byte n_a2 A_a2) (hI : 20 ≤ n_a2.toInt) :
    ∃ T' h' locs', Stand p l e ({ frames := 0, cells := 0, slots := 0, locals := 0 } : Room) s m args below meth c T' locs' 0 0 ∧ T'.heap = h' ∧ Fr n0 locs' ∧ Keep h0 h' [a2] ∧ own_Ar Z h' a2 .byte n_a2 (own_o1_A j0 n_a2 A_a2) ∧ ∀ fs, (∀ (f : JFrame) (acts : List Action), f.method = m → f.locked = none → f.entered = [] → (doReturn e (T'.setTop f) acts (some (.int (own_f1_0 j0 n_a2 A_a2)))).1 = T'.setFrames fs) → Steps p.tables e below (T0.setTop (mkF m 0 #[.val (.long j0), .second, .val (.ref a2), .unset, .unset, .unset] [])) (T'.setFrames fs) := by
  have pre1 : ∀ target, Steps p.tables e below (T0.setTop (mkF m 6 #[.val (.long j0), .second, .val (.ref a2), .val (.int n_a2), .unset, .unset] [(.int (lcmpW j0 (0 : Int64)))])) target → Steps p.tables e below (T0.setTop (mkF m 0 #[.val (.long j0), .second, .val (.ref a2), .unset, .unset, .unset] [])) target := by
    intro target kt
    show Steps p.tables e below (T0.setTop (mkF m 0 #[.val (.long j0), .second, .val (.ref a2), .unset, .unset, .unset] [])) _
    refine XS.aloadN X0.here hx rfl (hb hby d1_0) rfl rfl ?_
    show Steps p.tables e below (T0.setTop (mkF m 1 #[.val (.long j0), .second, .val (.ref a2), .unset, .unset, .unset] [(.ref a2)])) _
    refine own_alen X0 hx hZ e0 V_a2 (g := (mkF m 1 #[.val (.long j0), .second, .val (.ref a2), .unset, .unset, .unset] [(.ref a2)])) rfl rfl (hb hby d1_1) _ ?_
    show Steps p.tables e below (T0.setTop (mkF m 2 #[.val (.long j0), .second, .val (.ref a2), .unset, .unset, .unset] [(.int n_a2)])) _
    refine XS.istoreN X0.here hx rfl (hb hby d1_2) rfl (l' := #[.val (.long j0), .second, .val (.ref a2), .val (.int n_a2), .unset, .unset]) rfl ?_
    show Steps p.tables e below (T0.setTop (mkF m 3 #[.val (.long j0), .second, .val (.ref a2), .val (.int n_a2), .unset, .unset] [])) _
    refine XS.lloadN X0.here hx rfl (hb hby d1_3) rfl ?_
    show Steps p.tables e below (T0.setTop (mkF m 4 #[.val (.long j0), .second, .val (.ref a2), .val (.int n_a2), .unset, .unset] [(.long j0)])) _
    refine XS.lconst X0.here hx rfl (hb hby d1_4) ?_
    show Steps p.tables e below (T0.setTop (mkF m 5 #[.val (.long j0), .second, .val (.ref a2), .val (.int n_a2), .unset, .unset] [(.long (0 : Int64)), (.long j0)])) _
    refine XS.lcmp X0.here hx rfl (hb hby d1_5) rfl ?_
    exact kt
  by_cases hc6 : j0 < (0 : Int64)
  · have pre2 : ∀ target, Steps p.tables e below (T0.setTop (mkF m 15 #[.val (.long j0), .second, .val (.ref a2), .val (.int n_a2), .unset, .unset] [(.long j0)])) target → Steps p.tables e below (T0.setTop (mkF m 0 #[.val (.long j0), .second, .val (.ref a2), .unset, .unset, .unset] [])) target := by
      intro target kt
      refine pre1 target ?_
      show Steps p.tables e below (T0.setTop (mkF m 6 #[.val (.long j0), .second, .val (.ref a2), .val (.int n_a2), .unset, .unset] [(.int (lcmpW j0 (0 : Int64)))])) _
      refine XS.ifNo X0.here hx rfl (hb hby d1_6) rfl ((if0 _ _).trans (tlt ((lw_lt _ _).mpr hc6)).2.1) ?_
      show Steps p.tables e below (T0.setTop (mkF m 9 #[.val (.long j0), .second, .val (.ref a2), .val (.int n_a2), .unset, .unset] [])) _
      refine XS.lloadN X0.here hx rfl (hb hby d1_9) rfl ?_
      show Steps p.tables e below (T0.setTop (mkF m 10 #[.val (.long j0), .second, .val (.ref a2), .val (.int n_a2), .unset, .unset] [(.long j0)])) _
      refine XS.goto X0.here hx rfl (pc0 := 10) (pc' := 15) rfl (hb hby d1_10) (by decide) (by decide) ?_
      exact kt
    have hI3 : 20 ≤ n_a2.toInt ∧ n_a2 = n_a2 := by exact ⟨hI, rfl⟩
    obtain ⟨T3, h3', L3, X3, e3, N3, K3', G3_0, st3⟩ := own_b1_15 hx hZ hw hby hml hown hret j0 a2 n_a2 j0 n_a2 A_a2 X0 e0 N0 Z0 g_a2 V_a2 hI3
    have ho3_A : (own_o1_A j0 n_a2 A_a2) = (own_o1_A_15 j0 n_a2 j0 n_a2 A_a2) := by unfold own_o1_A; rw [if_pos hc6]
    have hv : (own_f1_0 j0 n_a2 A_a2) = (own_f1_15 j0 n_a2 j0 n_a2 A_a2) := by unfold own_f1_0; rw [if_pos hc6]
    exact ⟨T3, h3', L3, X3, e3, N3, ((Keep.refl h0 [a2])).trans K3' (fun _ hx_ => Or.inl hx_), (by rw [ho3_A]; exact G3_0), fun fs hr => pre2 _ (st3 fs (by rw [hv] at hr; exact hr))⟩
  · have pre4 : ∀ target, Steps p.tables e below (T0.setTop (mkF m 15 #[.val (.long j0), .second, .val (.ref a2), .val (.int n_a2), .unset, .unset] [(.long (-j0))])) target → Steps p.tables e below (T0.setTop (mkF m 0 #[.val (.long j0), .second, .val (.ref a2), .unset, .unset, .unset] [])) target := by
      intro target kt
      refine pre1 target ?_
      show Steps p.tables e below (T0.setTop (mkF m 6 #[.val (.long j0), .second, .val (.ref a2), .val (.int n_a2), .unset, .unset] [(.int (lcmpW j0 (0 : Int64)))])) _
      refine XS.ifYes X0.here hx rfl (pc0 := 6) (pc' := 13) rfl (hb hby d1_6) rfl ((if0 _ _).trans (flt (mt (lw_lt _ _).mp hc6)).2.1) (by decide) (by decide) ?_
      show Steps p.tables e below (T0.setTop (mkF m 13 #[.val (.long j0), .second, .val (.ref a2), .val (.int n_a2), .unset, .unset] [])) _
      refine XS.lloadN X0.here hx rfl (hb hby d1_13) rfl ?_
      show Steps p.tables e below (T0.setTop (mkF m 14 #[.val (.long j0), .second, .val (.ref a2), .val (.int n_a2), .unset, .unset] [(.long j0)])) _
      refine XS.lneg X0.here hx rfl (hb hby d1_14) rfl ?_
      exact kt
    have hI5 : 20 ≤ n_a2.toInt ∧ n_a2 = n_a2 := by exact ⟨hI, rfl⟩
    obtain ⟨T5, h5', L5, X5, e5, N5, K5', G5_0, st5⟩ := own_b1_15 hx hZ hw hby hml hown hret j0 a2 n_a2 (-j0) n_a2 A_a2 X0 e0 N0 Z0 g_a2 V_a2 hI5
    have ho5_A : (own_o1_A j0 n_a2 A_a2) = (own_o1_A_15 j0 n_a2 (-j0) n_a2 A_a2) := by unfold own_o1_A; rw [if_neg hc6]
    have hv : (own_f1_0 j0 n_a2 A_a2) = (own_f1_15 j0 n_a2 (-j0) n_a2 A_a2) := by unfold own_f1_0; rw [if_neg hc6]
    exact ⟨T5, h5', L5, X5, e5, N5, ((Keep.refl h0 [a2])).trans K5' (fun _ hx_ => Or.inl hx_), (by rw [ho5_A]; exact G5_0), fun fs hr => pre4 _ (st5 fs (by rw [hv] at hr; exact hr))⟩
def Q1 (Z : State) (j0 : Int64) (a2 : Addr) (n_a2 : Int32) (A_a2 : Nat → Int32) (h0 : Heap) (n0 : Nat) (v : Option Value) (h : Heap) (L : List Loc) : Prop := v = some (.int (own_f1_0 j0 n_a2 A_a2)) ∧ Fr n0 L ∧ Keep h0 h [a2] ∧ own_Ar Z h a2 .byte n_a2 (own_o1_A j0 n_a2 A_a2)
set_option maxRecDepth 65536 in
set_option maxHeartbeats 40000000 in
theorem rm1 (l : Launch) (Z : State) (a0_ : Array Value) (hw : ∀ d ∈ tables_1, d.before a0_ Z = true) (ws : List Jvm.Cond) (j0 : Int64) (a2 : Addr) (n_a2 : Int32) (A_a2 : Nat → Int32) (h0 : Heap) (n0 : Nat) (Z0 : n0 ≤ h0.size) (g_a2 : n0 ≤ a2) (V_a2 : own_Ar Z h0 a2 .byte n_a2 A_a2) (hI : 20 ≤ n_a2.toInt) :
    MetFree l (⟨"com/example/rollcalldb/rollcalldb/resp/Decimal", "format", "(J[B)I"⟩ : MethodName) (head1 (Jvm.Cond.code (⟨"com/example/rollcalldb/rollcalldb/resp/Decimal", "format", "(J[B)I"⟩ : MethodName) prog_28_method_3_code 6 (some .int) :: ws) ({ frames := 0, cells := 0, slots := 0, locals := 0 } : Room)) (fun a U => a = #[(.long j0), (.ref a2)] ∧ Z.Warmed39 U.vm ∧ U.heap = h0) (fun _ _ _ _ _ => True) (fun _ U o U' => ∃ v L, o = .returned v ∧ Q1 Z j0 a2 n_a2 A_a2 h0 n0 v U'.heap L ∧ FrameEnd U o U' L ({ frames := 0, cells := 0, slots := 0, locals := 0 } : Room).cells ({ frames := 0, cells := 0, slots := 0, locals := 0 } : Room).slots) := by
  refine MetFree.of_bodySF (plainFor_of_name pn_1) hisR ?_
  intro p e s m args below meth c s₁ Bd hml0 hP hK
  obtain ⟨rfl, hZ, hh⟩ := hP
  have hx := Bd.exec
  have hby := Bd.bytes
  have hml : c.maxLocals = 6 := hml0
  have hown : s.vm.findClass "com/example/rollcalldb/rollcalldb/resp/Decimal" = some m.cls := findClass_of_methodNamed Bd.named
  have X0 : Stand p l e ({ frames := 0, cells := 0, slots := 0, locals := 0 } : Room) s m #[(.long j0), (.ref a2)] below meth c s₁ [] 0 0 := Stand.of_body Bd
  have e0 : s₁.heap = h0 := by rw [← hh, Bd.state]; rfl
  obtain ⟨T', h', L', X', e', N', K', G0', st'⟩ := own_b1_0 hx hZ hw hby hml hown Bd.returns  j0 a2 n_a2 A_a2 X0 e0 (Fr.nil n0) Z0 g_a2 V_a2 hI
  obtain ⟨fs, hr, hrun, hended, hW, hsame⟩ := X'.leave (v := some (.int (own_f1_0 j0 n_a2 A_a2))) (fun h => by rw [Bd.returns] at h; cases h)
  refine ⟨_, _, castTop (ef_1 m j0 a2) (st' fs hr), hrun, hended, _, _, rfl, ?_, ⟨_, rfl⟩, hW, hsame.mono (by decide) (by decide)⟩
  subst e'
  exact ⟨rfl, N', K', G0'⟩
theorem d2_0 : decode jdk_29_method_61_code 0 = .ok (.lload_n 0, 1) := by decide +kernel
theorem d2_1 : decode jdk_29_method_61_code 1 = .ok (.lconst 0, 1) := by decide +kernel
theorem d2_2 : decode jdk_29_method_61_code 2 = .ok (.lcmp, 1) := by decide +kernel
theorem d2_3 : decode jdk_29_method_61_code 3 = .ok (.ifCond .ge 8, 3) := by decide +kernel
theorem d2_6 : decode jdk_29_method_61_code 6 = .ok (.lload_n 0, 1) := by decide +kernel
theorem d2_7 : decode jdk_29_method_61_code 7 = .ok (.lneg, 1) := by decide +kernel
theorem d2_8 : decode jdk_29_method_61_code 8 = .ok (.goto 4, 3) := by decide +kernel
theorem d2_11 : decode jdk_29_method_61_code 11 = .ok (.lload_n 0, 1) := by decide +kernel
theorem d2_12 : decode jdk_29_method_61_code 12 = .ok (.lreturn, 1) := by decide +kernel
theorem ef_2 (m : MethodId) (j0 : Int64) : entryFrame m #[(.long j0)] 2 = mkF m 0 #[.val (.long j0), .second] [] := by first | (simp [entryFrame, mkF, argsToLocals, Value.category]; done) | rfl
def own_f2_0 (j0 : Int64) : Int64 :=
  (if j0 < (0 : Int64) then (-j0) else j0)
set_option maxRecDepth 65536 in
set_option maxHeartbeats 40000000 in
theorem own_b2_0 {p : Program} {l : Launch} {e : Env} {s : State} {m : MethodId} {args : Array Value} {below : List Frame} {meth : Method} {c : Code} {Z : State} {a0_ : Array Value} (hx : p.tables.exec = Jvm.exec) (hZ : Z.Warmed39 s.vm) (hw : ∀ d ∈ tables_1, d.before a0_ Z = true) (hby : c.code = jdk_29_method_61_code) (hml : c.maxLocals = 2) (hown : s.vm.findClass "java/lang/Math" = some m.cls) (hret : meth.sig.returnType = some .long) {T0 : State} {locs : List Loc} {cells slots : Nat} {h0 : Heap} (j0 : Int64)
    (X0 : Stand p l e ({ frames := 0, cells := 0, slots := 0, locals := 0 } : Room) s m args below meth c T0 locs cells slots) (e0 : T0.heap = h0) (hcl : cells ≤ ({ frames := 0, cells := 0, slots := 0, locals := 0 } : Room).cells) (hsl : slots ≤ ({ frames := 0, cells := 0, slots := 0, locals := 0 } : Room).slots)  :
    ∃ T', Stand p l e ({ frames := 0, cells := 0, slots := 0, locals := 0 } : Room) s m args below meth c T' locs cells slots ∧ T'.heap = h0 ∧ ∀ fs, (∀ (f : JFrame) (acts : List Action), f.method = m → f.locked = none → f.entered = [] → (doReturn e (T'.setTop f) acts (some (.long (own_f2_0 j0)))).1 = T'.setFrames fs) → Steps p.tables e below (T0.setTop (mkF m 0 #[.val (.long j0), .second] [])) (T'.setFrames fs) := by
  have pre1 : ∀ target, Steps p.tables e below (T0.setTop (mkF m 3 #[.val (.long j0), .second] [(.int (lcmpW j0 (0 : Int64)))])) target → Steps p.tables e below (T0.setTop (mkF m 0 #[.val (.long j0), .second] [])) target := by
    intro target kt
    show Steps p.tables e below (T0.setTop (mkF m 0 #[.val (.long j0), .second] [])) _
    refine XS.lloadN X0.here hx rfl (hb hby d2_0) rfl ?_
    show Steps p.tables e below (T0.setTop (mkF m 1 #[.val (.long j0), .second] [(.long j0)])) _
    refine XS.lconst X0.here hx rfl (hb hby d2_1) ?_
    show Steps p.tables e below (T0.setTop (mkF m 2 #[.val (.long j0), .second] [(.long (0 : Int64)), (.long j0)])) _
    refine XS.lcmp X0.here hx rfl (hb hby d2_2) rfl ?_
    exact kt
  by_cases hc3 : j0 < (0 : Int64)
  · refine ⟨T0, X0, e0, fun fs hr => ?_⟩
    have hv : (own_f2_0 j0) = (-j0) := by unfold own_f2_0; rw [if_pos hc3]
    rw [hv] at hr
    refine pre1 _ ?_
    show Steps p.tables e below (T0.setTop (mkF m 3 #[.val (.long j0), .second] [(.int (lcmpW j0 (0 : Int64)))])) _
    refine XS.ifNo X0.here hx rfl (hb hby d2_3) rfl ((if0 _ _).trans (tlt ((lw_lt _ _).mpr hc3)).2.1) ?_
    show Steps p.tables e below (T0.setTop (mkF m 6 #[.val (.long j0), .second] [])) _
    refine XS.lloadN X0.here hx rfl (hb hby d2_6) rfl ?_
    show Steps p.tables e below (T0.setTop (mkF m 7 #[.val (.long j0), .second] [(.long j0)])) _
    refine XS.lneg X0.here hx rfl (hb hby d2_7) rfl ?_
    show Steps p.tables e below (T0.setTop (mkF m 8 #[.val (.long j0), .second] [(.long (-j0))])) _
    refine XS.goto X0.here hx rfl (pc0 := 8) (pc' := 12) rfl (hb hby d2_8) (by decide) (by decide) ?_
    show Steps p.tables e below (T0.setTop (mkF m 12 #[.val (.long j0), .second] [(.long (-j0))])) _
    exact X0.lreturnOut hx hret (hb hby d2_12) hr
  · refine ⟨T0, X0, e0, fun fs hr => ?_⟩
    have hv : (own_f2_0 j0) = j0 := by unfold own_f2_0; rw [if_neg hc3]
    rw [hv] at hr
    refine pre1 _ ?_
    show Steps p.tables e below (T0.setTop (mkF m 3 #[.val (.long j0), .second] [(.int (lcmpW j0 (0 : Int64)))])) _
    refine XS.ifYes X0.here hx rfl (pc0 := 3) (pc' := 11) rfl (hb hby d2_3) rfl ((if0 _ _).trans (flt (mt (lw_lt _ _).mp hc3)).2.1) (by decide) (by decide) ?_
    show Steps p.tables e below (T0.setTop (mkF m 11 #[.val (.long j0), .second] [])) _
    refine XS.lloadN X0.here hx rfl (hb hby d2_11) rfl ?_
    show Steps p.tables e below (T0.setTop (mkF m 12 #[.val (.long j0), .second] [(.long j0)])) _
    exact X0.lreturnOut hx hret (hb hby d2_12) hr
def Q2 (Z : State) (j0 : Int64) (h0 : Heap) (n0 : Nat) (v : Option Value) (h : Heap) (L : List Loc) : Prop := v = some (.long (own_f2_0 j0)) ∧ L = [] ∧ h = h0
set_option maxRecDepth 65536 in
set_option maxHeartbeats 40000000 in
theorem rm2 (l : Launch) (Z : State) (a0_ : Array Value) (hw : ∀ d ∈ tables_1, d.before a0_ Z = true) (ws : List Jvm.Cond) (j0 : Int64) (h0 : Heap) (n0 : Nat) (Z0 : n0 ≤ h0.size)  :
    MetFree l (⟨"java/lang/Math", "abs", "(J)J"⟩ : MethodName) (head1 (Jvm.Cond.code (⟨"java/lang/Math", "abs", "(J)J"⟩ : MethodName) jdk_29_method_61_code 2 (some .long) :: ws) ({ frames := 0, cells := 0, slots := 0, locals := 0 } : Room)) (fun a U => a = #[(.long j0)] ∧ Z.Warmed39 U.vm ∧ U.heap = h0) (fun _ _ _ _ _ => True) (fun _ U o U' => ∃ v L, o = .returned v ∧ Q2 Z j0 h0 n0 v U'.heap L ∧ FrameEnd U o U' L ({ frames := 0, cells := 0, slots := 0, locals := 0 } : Room).cells ({ frames := 0, cells := 0, slots := 0, locals := 0 } : Room).slots) := by
  refine MetFree.of_bodySF (Jvm.Free.JP.mathPlain rfl (by decide +kernel)) hisR ?_
  intro p e s m args below meth c s₁ Bd hml0 hP hK
  obtain ⟨rfl, hZ, hh⟩ := hP
  have hx := Bd.exec
  have hby := Bd.bytes
  have hml : c.maxLocals = 2 := hml0
  have hown : s.vm.findClass "java/lang/Math" = some m.cls := findClass_of_methodNamed Bd.named
  have X0 : Stand p l e ({ frames := 0, cells := 0, slots := 0, locals := 0 } : Room) s m #[(.long j0)] below meth c s₁ [] 0 0 := Stand.of_body Bd
  have e0 : s₁.heap = h0 := by rw [← hh, Bd.state]; rfl
  obtain ⟨T', X', e', st'⟩ := own_b2_0 hx hZ hw hby hml hown Bd.returns  j0 X0 e0 (by decide) (by decide) 
  obtain ⟨fs, hr, hrun, hended, hW, hsame⟩ := X'.leave (v := some (.long (own_f2_0 j0))) (fun h => by rw [Bd.returns] at h; cases h)
  refine ⟨_, _, castTop (ef_2 m j0) (st' fs hr), hrun, hended, _, _, rfl, ?_, ⟨_, rfl⟩, hW, hsame.mono (by decide) (by decide)⟩
  exact ⟨rfl, rfl, e'⟩
theorem d3_0 : decode prog_28_method_2_code 0 = .ok (.iload_n 2, 1) := by decide +kernel
theorem d3_1 : decode prog_28_method_2_code 1 = .ok (.iload_n 1, 1) := by decide +kernel
theorem d3_2 : decode prog_28_method_2_code 2 = .ok (.if_icmp .le 15, 3) := by decide +kernel
theorem d3_5 : decode prog_28_method_2_code 5 = .ok (.aload_n 0, 1) := by decide +kernel
theorem d3_6 : decode prog_28_method_2_code 6 = .ok (.iload_n 1, 1) := by decide +kernel
theorem d3_7 : decode prog_28_method_2_code 7 = .ok (.baload, 1) := by decide +kernel
theorem d3_8 : decode prog_28_method_2_code 8 = .ok (.bipush 45, 2) := by decide +kernel
theorem d3_10 : decode prog_28_method_2_code 10 = .ok (.if_icmp .ne 7, 3) := by decide +kernel
theorem d3_13 : decode prog_28_method_2_code 13 = .ok (.iconst 1, 1) := by decide +kernel
theorem d3_14 : decode prog_28_method_2_code 14 = .ok (.goto 4, 3) := by decide +kernel
theorem d3_17 : decode prog_28_method_2_code 17 = .ok (.iconst 0, 1) := by decide +kernel
theorem d3_18 : decode prog_28_method_2_code 18 = .ok (.istore_n 3, 1) := by decide +kernel
theorem d3_19 : decode prog_28_method_2_code 19 = .ok (.iload_n 3, 1) := by decide +kernel
theorem d3_20 : decode prog_28_method_2_code 20 = .ok (.ifCond .eq 9, 3) := by decide +kernel
theorem d3_23 : decode prog_28_method_2_code 23 = .ok (.iload_n 1, 1) := by decide +kernel
theorem d3_24 : decode prog_28_method_2_code 24 = .ok (.iconst 1, 1) := by decide +kernel
theorem d3_25 : decode prog_28_method_2_code 25 = .ok (.iadd, 1) := by decide +kernel
theorem d3_26 : decode prog_28_method_2_code 26 = .ok (.goto 4, 3) := by decide +kernel
theorem d3_29 : decode prog_28_method_2_code 29 = .ok (.iload_n 1, 1) := by decide +kernel
theorem d3_30 : decode prog_28_method_2_code 30 = .ok (.istore 4, 2) := by decide +kernel
theorem d3_32 : decode prog_28_method_2_code 32 = .ok (.iload 4, 2) := by decide +kernel
theorem d3_34 : decode prog_28_method_2_code 34 = .ok (.iload_n 2, 1) := by decide +kernel
theorem d3_35 : decode prog_28_method_2_code 35 = .ok (.if_icmp .ne 7, 3) := by decide +kernel
theorem d3_38 : decode prog_28_method_2_code 38 = .ok (.ldc2_w 11, 3) := by decide +kernel
theorem d3_41 : decode prog_28_method_2_code 41 = .ok (.lreturn, 1) := by decide +kernel
theorem d3_42 : decode prog_28_method_2_code 42 = .ok (.lconst 0, 1) := by decide +kernel
theorem d3_43 : decode prog_28_method_2_code 43 = .ok (.lstore 5, 2) := by decide +kernel
theorem d3_45 : decode prog_28_method_2_code 45 = .ok (.iload 4, 2) := by decide +kernel
theorem d3_47 : decode prog_28_method_2_code 47 = .ok (.istore 7, 2) := by decide +kernel
theorem d3_49 : decode prog_28_method_2_code 49 = .ok (.iload 7, 2) := by decide +kernel
theorem d3_51 : decode prog_28_method_2_code 51 = .ok (.iload_n 2, 1) := by decide +kernel
theorem d3_52 : decode prog_28_method_2_code 52 = .ok (.if_icmp .ge 63, 3) := by decide +kernel
theorem d3_55 : decode prog_28_method_2_code 55 = .ok (.aload_n 0, 1) := by decide +kernel
theorem d3_56 : decode prog_28_method_2_code 56 = .ok (.iload 7, 2) := by decide +kernel
theorem d3_58 : decode prog_28_method_2_code 58 = .ok (.baload, 1) := by decide +kernel
theorem d3_59 : decode prog_28_method_2_code 59 = .ok (.bipush 48, 2) := by decide +kernel
theorem d3_61 : decode prog_28_method_2_code 61 = .ok (.isub, 1) := by decide +kernel
theorem d3_62 : decode prog_28_method_2_code 62 = .ok (.istore 8, 2) := by decide +kernel
theorem d3_64 : decode prog_28_method_2_code 64 = .ok (.iload 8, 2) := by decide +kernel
theorem d3_66 : decode prog_28_method_2_code 66 = .ok (.ifCond .lt 27, 3) := by decide +kernel
theorem d3_69 : decode prog_28_method_2_code 69 = .ok (.iload 8, 2) := by decide +kernel
theorem d3_71 : decode prog_28_method_2_code 71 = .ok (.bipush 9, 2) := by decide +kernel
theorem d3_73 : decode prog_28_method_2_code 73 = .ok (.if_icmp .gt 20, 3) := by decide +kernel
theorem d3_76 : decode prog_28_method_2_code 76 = .ok (.lload 5, 2) := by decide +kernel
theorem d3_78 : decode prog_28_method_2_code 78 = .ok (.ldc2_w 13, 3) := by decide +kernel
theorem d3_81 : decode prog_28_method_2_code 81 = .ok (.iload 8, 2) := by decide +kernel
theorem d3_83 : decode prog_28_method_2_code 83 = .ok (.i2l, 1) := by decide +kernel
theorem d3_84 : decode prog_28_method_2_code 84 = .ok (.lsub, 1) := by decide +kernel
theorem d3_85 : decode prog_28_method_2_code 85 = .ok (.ldc2_w 15, 3) := by decide +kernel
theorem d3_88 : decode prog_28_method_2_code 88 = .ok (.ldiv, 1) := by decide +kernel
theorem d3_89 : decode prog_28_method_2_code 89 = .ok (.lcmp, 1) := by decide +kernel
theorem d3_90 : decode prog_28_method_2_code 90 = .ok (.ifCond .le 7, 3) := by decide +kernel
theorem d3_93 : decode prog_28_method_2_code 93 = .ok (.ldc2_w 11, 3) := by decide +kernel
theorem d3_96 : decode prog_28_method_2_code 96 = .ok (.lreturn, 1) := by decide +kernel
theorem d3_97 : decode prog_28_method_2_code 97 = .ok (.lload 5, 2) := by decide +kernel
theorem d3_99 : decode prog_28_method_2_code 99 = .ok (.ldc2_w 15, 3) := by decide +kernel
theorem d3_102 : decode prog_28_method_2_code 102 = .ok (.lmul, 1) := by decide +kernel
theorem d3_103 : decode prog_28_method_2_code 103 = .ok (.iload 8, 2) := by decide +kernel
theorem d3_105 : decode prog_28_method_2_code 105 = .ok (.i2l, 1) := by decide +kernel
theorem d3_106 : decode prog_28_method_2_code 106 = .ok (.ladd, 1) := by decide +kernel
theorem d3_107 : decode prog_28_method_2_code 107 = .ok (.lstore 5, 2) := by decide +kernel
theorem d3_109 : decode prog_28_method_2_code 109 = .ok (.iinc 7 1, 3) := by decide +kernel
theorem d3_112 : decode prog_28_method_2_code 112 = .ok (.goto (-63), 3) := by decide +kernel
theorem d3_115 : decode prog_28_method_2_code 115 = .ok (.iload_n 3, 1) := by decide +kernel
theorem d3_116 : decode prog_28_method_2_code 116 = .ok (.ifCond .eq 9, 3) := by decide +kernel
theorem d3_119 : decode prog_28_method_2_code 119 = .ok (.lload 5, 2) := by decide +kernel
theorem d3_121 : decode prog_28_method_2_code 121 = .ok (.lneg, 1) := by decide +kernel
theorem d3_122 : decode prog_28_method_2_code 122 = .ok (.goto 5, 3) := by decide +kernel
theorem d3_125 : decode prog_28_method_2_code 125 = .ok (.lload 5, 2) := by decide +kernel
theorem d3_127 : decode prog_28_method_2_code 127 = .ok (.lreturn, 1) := by decide +kernel
theorem pn_3 : plainName "com/example/rollcalldb/rollcalldb/resp/Decimal" = true := by first | (simp [plainName, overriddenIn]; done) | decide +kernel
theorem ef_3 (m : MethodId) (a0 : Addr) (i1 : Int32) (i2 : Int32) : entryFrame m #[(.ref a0), (.int i1), (.int i2)] 9 = mkF m 0 #[.val (.ref a0), .val (.int i1), .val (.int i2), .unset, .unset, .unset, .unset, .unset, .unset] [] := by first | (simp [entryFrame, mkF, argsToLocals, Value.category]; done) | rfl
theorem os3_62 {z0 : Value} {z1 : Value} {z2 : Value} {z3 : Value} {z4 : Value} {z5 : Value} {z7 : Value} {s8 : Slot} {v : Int32} (h : One s8) : storeLocals #[.val z0, .val z1, .val z2, .val z3, .val z4, .val z5, .second, .val z7, s8] 8 (.int v) = some #[.val z0, .val z1, .val z2, .val z3, .val z4, .val z5, .second, .val z7, .val (.int v)] := by
  rcases h with rfl | ⟨w, rfl, hw⟩
  · rfl
  · cases w <;> first | rfl | (simp [Value.category] at hw)
def own_f3_49 : Nat → (Int32) → (Int32) → (Int32) → (Int32) → (Int64) → (Int32) → (Int32) → (Nat → Int32) → (Int64)
  | 0, _, _, _, _, _, _, _, _ => 0
  | k + 1, i1, i2, i3, i4, j5, i7, n_a0, A_a0 => (if i7 < i2 then (if ((A_a0 i7.toNatClampNeg) - (48 : Int32)) < (0 : Int32) then (-9223372036854775808 : Int64) else (if (9 : Int32) < ((A_a0 i7.toNatClampNeg) - (48 : Int32)) then (-9223372036854775808 : Int64) else (if (((9223372036854775807 : Int64) - (((A_a0 i7.toNatClampNeg) - (48 : Int32)).toInt64)) / (10 : Int64)) < j5 then (-9223372036854775808 : Int64) else (own_f3_49 k i1 i2 i3 i4 ((j5 * (10 : Int64)) + (((A_a0 i7.toNatClampNeg) - (48 : Int32)).toInt64)) (i7 + (1 : Int32)) n_a0 A_a0)))) else (if i3 = (0 : Int32) then j5 else (-j5)))
theorem own_f3_49_s (k : Nat) (i1 : Int32) (i2 : Int32) (i3 : Int32) (i4 : Int32) (j5 : Int64) (i7 : Int32) (n_a0 : Int32) (A_a0 : Nat → Int32) : own_f3_49 (k + 1) i1 i2 i3 i4 j5 i7 n_a0 A_a0 =
  (if i7 < i2 then (if ((A_a0 i7.toNatClampNeg) - (48 : Int32)) < (0 : Int32) then (-9223372036854775808 : Int64) else (if (9 : Int32) < ((A_a0 i7.toNatClampNeg) - (48 : Int32)) then (-9223372036854775808 : Int64) else (if (((9223372036854775807 : Int64) - (((A_a0 i7.toNatClampNeg) - (48 : Int32)).toInt64)) / (10 : Int64)) < j5 then (-9223372036854775808 : Int64) else (own_f3_49 k i1 i2 i3 i4 ((j5 * (10 : Int64)) + (((A_a0 i7.toNatClampNeg) - (48 : Int32)).toInt64)) (i7 + (1 : Int32)) n_a0 A_a0)))) else (if i3 = (0 : Int32) then j5 else (-j5))) := rfl
def own_f3_30 (i1 : Int32) (i2 : Int32) (i3 : Int32) (u0 : Int32) (n_a0 : Int32) (A_a0 : Nat → Int32) : Int64 :=
  (if u0 = i2 then (-9223372036854775808 : Int64) else (own_f3_49 ((i2.toInt - u0.toInt).toNat + 1) i1 i2 i3 u0 (0 : Int64) u0 n_a0 A_a0))
def own_f3_18 (i1 : Int32) (i2 : Int32) (u0 : Int32) (n_a0 : Int32) (A_a0 : Nat → Int32) : Int64 :=
  (if u0 = (0 : Int32) then (own_f3_30 i1 i2 u0 i1 n_a0 A_a0) else (own_f3_30 i1 i2 u0 (i1 + (1 : Int32)) n_a0 A_a0))
def own_f3_17 (i1 : Int32) (i2 : Int32) (n_a0 : Int32) (A_a0 : Nat → Int32) : Int64 :=
  (own_f3_18 i1 i2 (0 : Int32) n_a0 A_a0)
def own_f3_0 (i1 : Int32) (i2 : Int32) (n_a0 : Int32) (A_a0 : Nat → Int32) : Int64 :=
  (if i1 < i2 then (if (A_a0 i1.toNatClampNeg) = (45 : Int32) then (own_f3_18 i1 i2 (1 : Int32) n_a0 A_a0) else (own_f3_17 i1 i2 n_a0 A_a0)) else (own_f3_17 i1 i2 n_a0 A_a0))
set_option maxRecDepth 65536 in
set_option maxHeartbeats 40000000 in
theorem own_b3_49 {p : Program} {l : Launch} {e : Env} {s : State} {m : MethodId} {args : Array Value} {below : List Frame} {meth : Method} {c : Code} {Z : State} {a0_ : Array Value} (hx : p.tables.exec = Jvm.exec) (hZ : Z.Warmed39 s.vm) (hw : ∀ d ∈ tables_1, d.before a0_ Z = true) (hby : c.code = prog_28_method_2_code) (hml : c.maxLocals = 9) (hown : s.vm.findClass "com/example/rollcalldb/rollcalldb/resp/Decimal" = some m.cls) (hret : meth.sig.returnType = some .long) :
    ∀ (k : Nat) {T0 : State} {locs : List Loc} {cells slots : Nat} {h0 : Heap} (a0 : Addr) (i1 : Int32) (i2 : Int32) (i3 : Int32) (i4 : Int32) (j5 : Int64) (i7 : Int32) (s8 : Slot) (n_a0 : Int32) (A_a0 : Nat → Int32) (X0 : Stand p l e ({ frames := 0, cells := 0, slots := 0, locals := 0 } : Room) s m args below meth c T0 locs cells slots) (e0 : T0.heap = h0) (hcl : cells ≤ ({ frames := 0, cells := 0, slots := 0, locals := 0 } : Room).cells) (hsl : slots ≤ ({ frames := 0, cells := 0, slots := 0, locals := 0 } : Room).slots) (V_a0 : own_Ar Z h0 a0 .byte n_a0 A_a0) (hI : n_a0.toInt ≤ 1000 ∧ 0 ≤ i7.toInt ∧ i2.toInt ≤ n_a0.toInt) (hk : (i2.toInt - i7.toInt).toNat < k) (hs8 : One s8),
    ∃ T', Stand p l e ({ frames := 0, cells := 0, slots := 0, locals := 0 } : Room) s m args below meth c T' locs cells slots ∧ T'.heap = h0 ∧ ∀ fs, (∀ (f : JFrame) (acts : List Action), f.method = m → f.locked = none → f.entered = [] → (doReturn e (T'.setTop f) acts (some (.long (own_f3_49 k i1 i2 i3 i4 j5 i7 n_a0 A_a0)))).1 = T'.setFrames fs) → Steps p.tables e below (T0.setTop (mkF m 49 #[.val (.ref a0), .val (.int i1), .val (.int i2), .val (.int i3), .val (.int i4), .val (.long j5), .second, .val (.int i7), s8] [])) (T'.setFrames fs) := by
  intro k
  induction k with
  | zero => intro T0 locs cells slots h0 a0 i1 i2 i3 i4 j5 i7 s8 n_a0 A_a0 X0 e0 hcl hsl V_a0 hI hk hs8; exact absurd hk (Nat.not_lt_zero _)
  | succ k ih =>
    intro T0 locs cells slots h0 a0 i1 i2 i3 i4 j5 i7 s8 n_a0 A_a0 X0 e0 hcl hsl V_a0 hI hk hs8
    have pre1 : ∀ target, Steps p.tables e below (T0.setTop (mkF m 52 #[.val (.ref a0), .val (.int i1), .val (.int i2), .val (.int i3), .val (.int i4), .val (.long j5), .second, .val (.int i7), s8] [(.int i2), (.int i7)])) target → Steps p.tables e below (T0.setTop (mkF m 49 #[.val (.ref a0), .val (.int i1), .val (.int i2), .val (.int i3), .val (.int i4), .val (.long j5), .second, .val (.int i7), s8] [])) target := by
      intro target kt
      show Steps p.tables e below (T0.setTop (mkF m 49 #[.val (.ref a0), .val (.int i1), .val (.int i2), .val (.int i3), .val (.int i4), .val (.long j5), .second, .val (.int i7), s8] [])) _
      refine XS.iload X0.here hx rfl (hb hby d3_49) rfl ?_
      show Steps p.tables e below (T0.setTop (mkF m 51 #[.val (.ref a0), .val (.int i1), .val (.int i2), .val (.int i3), .val (.int i4), .val (.long j5), .second, .val (.int i7), s8] [(.int i7)])) _
      refine XS.iloadN X0.here hx rfl (hb hby d3_51) rfl ?_
      exact kt
    by_cases hc52 : i7 < i2
    · have hix58 : ¬ i7 < 0 ∧ i7 < n_a0 := by exact own_px1 hI hc52
      have pre2 : ∀ target, Steps p.tables e below (T0.setTop (mkF m 66 #[.val (.ref a0), .val (.int i1), .val (.int i2), .val (.int i3), .val (.int i4), .val (.long j5), .second, .val (.int i7), .val (.int ((A_a0 i7.toNatClampNeg) - (48 : Int32)))] [(.int ((A_a0 i7.toNatClampNeg) - (48 : Int32)))])) target → Steps p.tables e below (T0.setTop (mkF m 49 #[.val (.ref a0), .val (.int i1), .val (.int i2), .val (.int i3), .val (.int i4), .val (.long j5), .second, .val (.int i7), s8] [])) target := by
        intro target kt
        refine pre1 target ?_
        show Steps p.tables e below (T0.setTop (mkF m 52 #[.val (.ref a0), .val (.int i1), .val (.int i2), .val (.int i3), .val (.int i4), .val (.long j5), .second, .val (.int i7), s8] [(.int i2), (.int i7)])) _
        refine XS.icmpNo X0.here hx rfl (hb hby d3_52) rfl (tlt hc52).2.1 ?_
        show Steps p.tables e below (T0.setTop (mkF m 55 #[.val (.ref a0), .val (.int i1), .val (.int i2), .val (.int i3), .val (.int i4), .val (.long j5), .second, .val (.int i7), s8] [])) _
        refine XS.aloadN X0.here hx rfl (hb hby d3_55) rfl rfl ?_
        show Steps p.tables e below (T0.setTop (mkF m 56 #[.val (.ref a0), .val (.int i1), .val (.int i2), .val (.int i3), .val (.int i4), .val (.long j5), .second, .val (.int i7), s8] [(.ref a0)])) _
        refine XS.iload X0.here hx rfl (hb hby d3_56) rfl ?_
        show Steps p.tables e below (T0.setTop (mkF m 58 #[.val (.ref a0), .val (.int i1), .val (.int i2), .val (.int i3), .val (.int i4), .val (.long j5), .second, .val (.int i7), s8] [(.int i7), (.ref a0)])) _
        refine own_ldB X0 hx hZ e0 V_a0 hix58 (g := (mkF m 58 #[.val (.ref a0), .val (.int i1), .val (.int i2), .val (.int i3), .val (.int i4), .val (.long j5), .second, .val (.int i7), s8] [(.int i7), (.ref a0)])) rfl rfl (hb hby d3_58) _ ?_
        show Steps p.tables e below (T0.setTop (mkF m 59 #[.val (.ref a0), .val (.int i1), .val (.int i2), .val (.int i3), .val (.int i4), .val (.long j5), .second, .val (.int i7), s8] [(.int (A_a0 i7.toNatClampNeg))])) _
        refine XS.bipush X0.here hx rfl (hb hby d3_59) ?_
        show Steps p.tables e below (T0.setTop (mkF m 61 #[.val (.ref a0), .val (.int i1), .val (.int i2), .val (.int i3), .val (.int i4), .val (.long j5), .second, .val (.int i7), s8] [(.int (48 : Int32)), (.int (A_a0 i7.toNatClampNeg))])) _
        refine XS.isub X0.here hx rfl (hb hby d3_61) rfl ?_
        show Steps p.tables e below (T0.setTop (mkF m 62 #[.val (.ref a0), .val (.int i1), .val (.int i2), .val (.int i3), .val (.int i4), .val (.long j5), .second, .val (.int i7), s8] [(.int ((A_a0 i7.toNatClampNeg) - (48 : Int32)))])) _
        refine XS.istore X0.here hx rfl (hb hby d3_62) rfl (l' := #[.val (.ref a0), .val (.int i1), .val (.int i2), .val (.int i3), .val (.int i4), .val (.long j5), .second, .val (.int i7), .val (.int ((A_a0 i7.toNatClampNeg) - (48 : Int32)))]) (os3_62 hs8) ?_
        show Steps p.tables e below (T0.setTop (mkF m 64 #[.val (.ref a0), .val (.int i1), .val (.int i2), .val (.int i3), .val (.int i4), .val (.long j5), .second, .val (.int i7), .val (.int ((A_a0 i7.toNatClampNeg) - (48 : Int32)))] [])) _
        refine XS.iload X0.here hx rfl (hb hby d3_64) rfl ?_
        exact kt
      by_cases hc66 : ((A_a0 i7.toNatClampNeg) - (48 : Int32)) < (0 : Int32)
      · refine ⟨T0, X0, e0, fun fs hr => ?_⟩
        have hv : (own_f3_49 (k + 1) i1 i2 i3 i4 j5 i7 n_a0 A_a0) = (-9223372036854775808 : Int64) := by rw [own_f3_49_s]; rw [if_pos hc52, if_pos hc66]
        rw [hv] at hr
        refine pre2 _ ?_
        show Steps p.tables e below (T0.setTop (mkF m 66 #[.val (.ref a0), .val (.int i1), .val (.int i2), .val (.int i3), .val (.int i4), .val (.long j5), .second, .val (.int i7), .val (.int ((A_a0 i7.toNatClampNeg) - (48 : Int32)))] [(.int ((A_a0 i7.toNatClampNeg) - (48 : Int32)))])) _
        refine XS.ifYes X0.here hx rfl (pc0 := 66) (pc' := 93) rfl (hb hby d3_66) rfl ((if0 _ _).trans (tlt hc66).1) (by decide) (by decide) ?_
        show Steps p.tables e below (T0.setTop (mkF m 93 #[.val (.ref a0), .val (.int i1), .val (.int i2), .val (.int i3), .val (.int i4), .val (.long j5), .second, .val (.int i7), .val (.int ((A_a0 i7.toNatClampNeg) - (48 : Int32)))] [])) _
        refine X0.ldc2Long hx hown (mvT hZ (hw _ (List.mem_of_getElem? (i := 18) rfl))) (g := (mkF m 93 #[.val (.ref a0), .val (.int i1), .val (.int i2), .val (.int i3), .val (.int i4), .val (.long j5), .second, .val (.int i7), .val (.int ((A_a0 i7.toNatClampNeg) - (48 : Int32)))] [])) rfl (hb hby d3_93) _ ?_
        show Steps p.tables e below (T0.setTop (mkF m 96 #[.val (.ref a0), .val (.int i1), .val (.int i2), .val (.int i3), .val (.int i4), .val (.long j5), .second, .val (.int i7), .val (.int ((A_a0 i7.toNatClampNeg) - (48 : Int32)))] [(.long (-9223372036854775808 : Int64))])) _
        exact X0.lreturnOut hx hret (hb hby d3_96) hr
      · have pre3 : ∀ target, Steps p.tables e below (T0.setTop (mkF m 73 #[.val (.ref a0), .val (.int i1), .val (.int i2), .val (.int i3), .val (.int i4), .val (.long j5), .second, .val (.int i7), .val (.int ((A_a0 i7.toNatClampNeg) - (48 : Int32)))] [(.int (9 : Int32)), (.int ((A_a0 i7.toNatClampNeg) - (48 : Int32)))])) target → Steps p.tables e below (T0.setTop (mkF m 49 #[.val (.ref a0), .val (.int i1), .val (.int i2), .val (.int i3), .val (.int i4), .val (.long j5), .second, .val (.int i7), s8] [])) target := by
          intro target kt
          refine pre2 target ?_
          show Steps p.tables e below (T0.setTop (mkF m 66 #[.val (.ref a0), .val (.int i1), .val (.int i2), .val (.int i3), .val (.int i4), .val (.long j5), .second, .val (.int i7), .val (.int ((A_a0 i7.toNatClampNeg) - (48 : Int32)))] [(.int ((A_a0 i7.toNatClampNeg) - (48 : Int32)))])) _
          refine XS.ifNo X0.here hx rfl (hb hby d3_66) rfl ((if0 _ _).trans (flt hc66).1) ?_
          show Steps p.tables e below (T0.setTop (mkF m 69 #[.val (.ref a0), .val (.int i1), .val (.int i2), .val (.int i3), .val (.int i4), .val (.long j5), .second, .val (.int i7), .val (.int ((A_a0 i7.toNatClampNeg) - (48 : Int32)))] [])) _
          refine XS.iload X0.here hx rfl (hb hby d3_69) rfl ?_
          show Steps p.tables e below (T0.setTop (mkF m 71 #[.val (.ref a0), .val (.int i1), .val (.int i2), .val (.int i3), .val (.int i4), .val (.long j5), .second, .val (.int i7), .val (.int ((A_a0 i7.toNatClampNeg) - (48 : Int32)))] [(.int ((A_a0 i7.toNatClampNeg) - (48 : Int32)))])) _
          refine XS.bipush X0.here hx rfl (hb hby d3_71) ?_
          exact kt
        by_cases hc73 : (9 : Int32) < ((A_a0 i7.toNatClampNeg) - (48 : Int32))
        · refine ⟨T0, X0, e0, fun fs hr => ?_⟩
          have hv : (own_f3_49 (k + 1) i1 i2 i3 i4 j5 i7 n_a0 A_a0) = (-9223372036854775808 : Int64) := by rw [own_f3_49_s]; rw [if_pos hc52, if_neg hc66, if_pos hc73]
          rw [hv] at hr
          refine pre3 _ ?_
          show Steps p.tables e below (T0.setTop (mkF m 73 #[.val (.ref a0), .val (.int i1), .val (.int i2), .val (.int i3), .val (.int i4), .val (.long j5), .second, .val (.int i7), .val (.int ((A_a0 i7.toNatClampNeg) - (48 : Int32)))] [(.int (9 : Int32)), (.int ((A_a0 i7.toNatClampNeg) - (48 : Int32)))])) _
          refine XS.icmpYes X0.here hx rfl (pc0 := 73) (pc' := 93) rfl (hb hby d3_73) rfl (tlt hc73).2.2.1 (by decide) (by decide) ?_
          show Steps p.tables e below (T0.setTop (mkF m 93 #[.val (.ref a0), .val (.int i1), .val (.int i2), .val (.int i3), .val (.int i4), .val (.long j5), .second, .val (.int i7), .val (.int ((A_a0 i7.toNatClampNeg) - (48 : Int32)))] [])) _
          refine X0.ldc2Long hx hown (mvT hZ (hw _ (List.mem_of_getElem? (i := 18) rfl))) (g := (mkF m 93 #[.val (.ref a0), .val (.int i1), .val (.int i2), .val (.int i3), .val (.int i4), .val (.long j5), .second, .val (.int i7), .val (.int ((A_a0 i7.toNatClampNeg) - (48 : Int32)))] [])) rfl (hb hby d3_93) _ ?_
          show Steps p.tables e below (T0.setTop (mkF m 96 #[.val (.ref a0), .val (.int i1), .val (.int i2), .val (.int i3), .val (.int i4), .val (.long j5), .second, .val (.int i7), .val (.int ((A_a0 i7.toNatClampNeg) - (48 : Int32)))] [(.long (-9223372036854775808 : Int64))])) _
          exact X0.lreturnOut hx hret (hb hby d3_96) hr
        · have pre4 : ∀ target, Steps p.tables e below (T0.setTop (mkF m 90 #[.val (.ref a0), .val (.int i1), .val (.int i2), .val (.int i3), .val (.int i4), .val (.long j5), .second, .val (.int i7), .val (.int ((A_a0 i7.toNatClampNeg) - (48 : Int32)))] [(.int (lcmpW j5 (((9223372036854775807 : Int64) - (((A_a0 i7.toNatClampNeg) - (48 : Int32)).toInt64)) / (10 : Int64))))])) target → Steps p.tables e below (T0.setTop (mkF m 49 #[.val (.ref a0), .val (.int i1), .val (.int i2), .val (.int i3), .val (.int i4), .val (.long j5), .second, .val (.int i7), s8] [])) target := by
            intro target kt
            refine pre3 target ?_
            show Steps p.tables e below (T0.setTop (mkF m 73 #[.val (.ref a0), .val (.int i1), .val (.int i2), .val (.int i3), .val (.int i4), .val (.long j5), .second, .val (.int i7), .val (.int ((A_a0 i7.toNatClampNeg) - (48 : Int32)))] [(.int (9 : Int32)), (.int ((A_a0 i7.toNatClampNeg) - (48 : Int32)))])) _
            refine XS.icmpNo X0.here hx rfl (hb hby d3_73) rfl (flt hc73).2.2.1 ?_
            show Steps p.tables e below (T0.setTop (mkF m 76 #[.val (.ref a0), .val (.int i1), .val (.int i2), .val (.int i3), .val (.int i4), .val (.long j5), .second, .val (.int i7), .val (.int ((A_a0 i7.toNatClampNeg) - (48 : Int32)))] [])) _
            refine XS.lload X0.here hx rfl (hb hby d3_76) rfl ?_
            show Steps p.tables e below (T0.setTop (mkF m 78 #[.val (.ref a0), .val (.int i1), .val (.int i2), .val (.int i3), .val (.int i4), .val (.long j5), .second, .val (.int i7), .val (.int ((A_a0 i7.toNatClampNeg) - (48 : Int32)))] [(.long j5)])) _
            refine X0.ldc2Long hx hown (mvT hZ (hw _ (List.mem_of_getElem? (i := 17) rfl))) (g := (mkF m 78 #[.val (.ref a0), .val (.int i1), .val (.int i2), .val (.int i3), .val (.int i4), .val (.long j5), .second, .val (.int i7), .val (.int ((A_a0 i7.toNatClampNeg) - (48 : Int32)))] [(.long j5)])) rfl (hb hby d3_78) _ ?_
            show Steps p.tables e below (T0.setTop (mkF m 81 #[.val (.ref a0), .val (.int i1), .val (.int i2), .val (.int i3), .val (.int i4), .val (.long j5), .second, .val (.int i7), .val (.int ((A_a0 i7.toNatClampNeg) - (48 : Int32)))] [(.long (9223372036854775807 : Int64)), (.long j5)])) _
            refine XS.iload X0.here hx rfl (hb hby d3_81) rfl ?_
            show Steps p.tables e below (T0.setTop (mkF m 83 #[.val (.ref a0), .val (.int i1), .val (.int i2), .val (.int i3), .val (.int i4), .val (.long j5), .second, .val (.int i7), .val (.int ((A_a0 i7.toNatClampNeg) - (48 : Int32)))] [(.int ((A_a0 i7.toNatClampNeg) - (48 : Int32))), (.long (9223372036854775807 : Int64)), (.long j5)])) _
            refine XS.i2l X0.here hx rfl (hb hby d3_83) rfl ?_
            show Steps p.tables e below (T0.setTop (mkF m 84 #[.val (.ref a0), .val (.int i1), .val (.int i2), .val (.int i3), .val (.int i4), .val (.long j5), .second, .val (.int i7), .val (.int ((A_a0 i7.toNatClampNeg) - (48 : Int32)))] [(.long (((A_a0 i7.toNatClampNeg) - (48 : Int32)).toInt64)), (.long (9223372036854775807 : Int64)), (.long j5)])) _
            refine XS.lsub X0.here hx rfl (hb hby d3_84) rfl ?_
            show Steps p.tables e below (T0.setTop (mkF m 85 #[.val (.ref a0), .val (.int i1), .val (.int i2), .val (.int i3), .val (.int i4), .val (.long j5), .second, .val (.int i7), .val (.int ((A_a0 i7.toNatClampNeg) - (48 : Int32)))] [(.long ((9223372036854775807 : Int64) - (((A_a0 i7.toNatClampNeg) - (48 : Int32)).toInt64))), (.long j5)])) _
            refine X0.ldc2Long hx hown (mvT hZ (hw _ (List.mem_of_getElem? (i := 7) rfl))) (g := (mkF m 85 #[.val (.ref a0), .val (.int i1), .val (.int i2), .val (.int i3), .val (.int i4), .val (.long j5), .second, .val (.int i7), .val (.int ((A_a0 i7.toNatClampNeg) - (48 : Int32)))] [(.long ((9223372036854775807 : Int64) - (((A_a0 i7.toNatClampNeg) - (48 : Int32)).toInt64))), (.long j5)])) rfl (hb hby d3_85) _ ?_
            show Steps p.tables e below (T0.setTop (mkF m 88 #[.val (.ref a0), .val (.int i1), .val (.int i2), .val (.int i3), .val (.int i4), .val (.long j5), .second, .val (.int i7), .val (.int ((A_a0 i7.toNatClampNeg) - (48 : Int32)))] [(.long (10 : Int64)), (.long ((9223372036854775807 : Int64) - (((A_a0 i7.toNatClampNeg) - (48 : Int32)).toInt64))), (.long j5)])) _
            refine XS.ldiv X0.here hx rfl (hb hby d3_88) rfl (by decide) ?_
            show Steps p.tables e below (T0.setTop (mkF m 89 #[.val (.ref a0), .val (.int i1), .val (.int i2), .val (.int i3), .val (.int i4), .val (.long j5), .second, .val (.int i7), .val (.int ((A_a0 i7.toNatClampNeg) - (48 : Int32)))] [(.long (((9223372036854775807 : Int64) - (((A_a0 i7.toNatClampNeg) - (48 : Int32)).toInt64)) / (10 : Int64))), (.long j5)])) _
            refine XS.lcmp X0.here hx rfl (hb hby d3_89) rfl ?_
            exact kt
          by_cases hc90 : (((9223372036854775807 : Int64) - (((A_a0 i7.toNatClampNeg) - (48 : Int32)).toInt64)) / (10 : Int64)) < j5
          · refine ⟨T0, X0, e0, fun fs hr => ?_⟩
            have hv : (own_f3_49 (k + 1) i1 i2 i3 i4 j5 i7 n_a0 A_a0) = (-9223372036854775808 : Int64) := by rw [own_f3_49_s]; rw [if_pos hc52, if_neg hc66, if_neg hc73, if_pos hc90]
            rw [hv] at hr
            refine pre4 _ ?_
            show Steps p.tables e below (T0.setTop (mkF m 90 #[.val (.ref a0), .val (.int i1), .val (.int i2), .val (.int i3), .val (.int i4), .val (.long j5), .second, .val (.int i7), .val (.int ((A_a0 i7.toNatClampNeg) - (48 : Int32)))] [(.int (lcmpW j5 (((9223372036854775807 : Int64) - (((A_a0 i7.toNatClampNeg) - (48 : Int32)).toInt64)) / (10 : Int64))))])) _
            refine XS.ifNo X0.here hx rfl (hb hby d3_90) rfl ((if0 _ _).trans (tlt ((lw_gt _ _).mpr hc90)).2.2.2) ?_
            show Steps p.tables e below (T0.setTop (mkF m 93 #[.val (.ref a0), .val (.int i1), .val (.int i2), .val (.int i3), .val (.int i4), .val (.long j5), .second, .val (.int i7), .val (.int ((A_a0 i7.toNatClampNeg) - (48 : Int32)))] [])) _
            refine X0.ldc2Long hx hown (mvT hZ (hw _ (List.mem_of_getElem? (i := 18) rfl))) (g := (mkF m 93 #[.val (.ref a0), .val (.int i1), .val (.int i2), .val (.int i3), .val (.int i4), .val (.long j5), .second, .val (.int i7), .val (.int ((A_a0 i7.toNatClampNeg) - (48 : Int32)))] [])) rfl (hb hby d3_93) _ ?_
            show Steps p.tables e below (T0.setTop (mkF m 96 #[.val (.ref a0), .val (.int i1), .val (.int i2), .val (.int i3), .val (.int i4), .val (.long j5), .second, .val (.int i7), .val (.int ((A_a0 i7.toNatClampNeg) - (48 : Int32)))] [(.long (-9223372036854775808 : Int64))])) _
            exact X0.lreturnOut hx hret (hb hby d3_96) hr
          · have pre5 : ∀ target, Steps p.tables e below (T0.setTop (mkF m 49 #[.val (.ref a0), .val (.int i1), .val (.int i2), .val (.int i3), .val (.int i4), .val (.long ((j5 * (10 : Int64)) + (((A_a0 i7.toNatClampNeg) - (48 : Int32)).toInt64))), .second, .val (.int (i7 + (1 : Int32))), .val (.int ((A_a0 i7.toNatClampNeg) - (48 : Int32)))] [])) target → Steps p.tables e below (T0.setTop (mkF m 49 #[.val (.ref a0), .val (.int i1), .val (.int i2), .val (.int i3), .val (.int i4), .val (.long j5), .second, .val (.int i7), s8] [])) target := by
              intro target kt
              refine pre4 target ?_
              show Steps p.tables e below (T0.setTop (mkF m 90 #[.val (.ref a0), .val (.int i1), .val (.int i2), .val (.int i3), .val (.int i4), .val (.long j5), .second, .val (.int i7), .val (.int ((A_a0 i7.toNatClampNeg) - (48 : Int32)))] [(.int (lcmpW j5 (((9223372036854775807 : Int64) - (((A_a0 i7.toNatClampNeg) - (48 : Int32)).toInt64)) / (10 : Int64))))])) _
              refine XS.ifYes X0.here hx rfl (pc0 := 90) (pc' := 97) rfl (hb hby d3_90) rfl ((if0 _ _).trans (flt (mt (lw_gt _ _).mp hc90)).2.2.2) (by decide) (by decide) ?_
              show Steps p.tables e below (T0.setTop (mkF m 97 #[.val (.ref a0), .val (.int i1), .val (.int i2), .val (.int i3), .val (.int i4), .val (.long j5), .second, .val (.int i7), .val (.int ((A_a0 i7.toNatClampNeg) - (48 : Int32)))] [])) _
              refine XS.lload X0.here hx rfl (hb hby d3_97) rfl ?_
              show Steps p.tables e below (T0.setTop (mkF m 99 #[.val (.ref a0), .val (.int i1), .val (.int i2), .val (.int i3), .val (.int i4), .val (.long j5), .second, .val (.int i7), .val (.int ((A_a0 i7.toNatClampNeg) - (48 : Int32)))] [(.long j5)])) _
              refine X0.ldc2Long hx hown (mvT hZ (hw _ (List.mem_of_getElem? (i := 7) rfl))) (g := (mkF m 99 #[.val (.ref a0), .val (.int i1), .val (.int i2), .val (.int i3), .val (.int i4), .val (.long j5), .second, .val (.int i7), .val (.int ((A_a0 i7.toNatClampNeg) - (48 : Int32)))] [(.long j5)])) rfl (hb hby d3_99) _ ?_
              show Steps p.tables e below (T0.setTop (mkF m 102 #[.val (.ref a0), .val (.int i1), .val (.int i2), .val (.int i3), .val (.int i4), .val (.long j5), .second, .val (.int i7), .val (.int ((A_a0 i7.toNatClampNeg) - (48 : Int32)))] [(.long (10 : Int64)), (.long j5)])) _
              refine XS.lmul X0.here hx rfl (hb hby d3_102) rfl ?_
              show Steps p.tables e below (T0.setTop (mkF m 103 #[.val (.ref a0), .val (.int i1), .val (.int i2), .val (.int i3), .val (.int i4), .val (.long j5), .second, .val (.int i7), .val (.int ((A_a0 i7.toNatClampNeg) - (48 : Int32)))] [(.long (j5 * (10 : Int64)))])) _
              refine XS.iload X0.here hx rfl (hb hby d3_103) rfl ?_
              show Steps p.tables e below (T0.setTop (mkF m 105 #[.val (.ref a0), .val (.int i1), .val (.int i2), .val (.int i3), .val (.int i4), .val (.long j5), .second, .val (.int i7), .val (.int ((A_a0 i7.toNatClampNeg) - (48 : Int32)))] [(.int ((A_a0 i7.toNatClampNeg) - (48 : Int32))), (.long (j5 * (10 : Int64)))])) _
              refine XS.i2l X0.here hx rfl (hb hby d3_105) rfl ?_
              show Steps p.tables e below (T0.setTop (mkF m 106 #[.val (.ref a0), .val (.int i1), .val (.int i2), .val (.int i3), .val (.int i4), .val (.long j5), .second, .val (.int i7), .val (.int ((A_a0 i7.toNatClampNeg) - (48 : Int32)))] [(.long (((A_a0 i7.toNatClampNeg) - (48 : Int32)).toInt64)), (.long (j5 * (10 : Int64)))])) _
              refine XS.ladd X0.here hx rfl (hb hby d3_106) rfl ?_
              show Steps p.tables e below (T0.setTop (mkF m 107 #[.val (.ref a0), .val (.int i1), .val (.int i2), .val (.int i3), .val (.int i4), .val (.long j5), .second, .val (.int i7), .val (.int ((A_a0 i7.toNatClampNeg) - (48 : Int32)))] [(.long ((j5 * (10 : Int64)) + (((A_a0 i7.toNatClampNeg) - (48 : Int32)).toInt64)))])) _
              refine XS.lstore X0.here hx rfl (hb hby d3_107) rfl (l' := #[.val (.ref a0), .val (.int i1), .val (.int i2), .val (.int i3), .val (.int i4), .val (.long ((j5 * (10 : Int64)) + (((A_a0 i7.toNatClampNeg) - (48 : Int32)).toInt64))), .second, .val (.int i7), .val (.int ((A_a0 i7.toNatClampNeg) - (48 : Int32)))]) rfl ?_
              show Steps p.tables e below (T0.setTop (mkF m 109 #[.val (.ref a0), .val (.int i1), .val (.int i2), .val (.int i3), .val (.int i4), .val (.long ((j5 * (10 : Int64)) + (((A_a0 i7.toNatClampNeg) - (48 : Int32)).toInt64))), .second, .val (.int i7), .val (.int ((A_a0 i7.toNatClampNeg) - (48 : Int32)))] [])) _
              refine XS.iinc X0.here hx rfl (hb hby d3_109) rfl (l' := #[.val (.ref a0), .val (.int i1), .val (.int i2), .val (.int i3), .val (.int i4), .val (.long ((j5 * (10 : Int64)) + (((A_a0 i7.toNatClampNeg) - (48 : Int32)).toInt64))), .second, .val (.int (i7 + (1 : Int32))), .val (.int ((A_a0 i7.toNatClampNeg) - (48 : Int32)))]) rfl ?_
              show Steps p.tables e below (T0.setTop (mkF m 112 #[.val (.ref a0), .val (.int i1), .val (.int i2), .val (.int i3), .val (.int i4), .val (.long ((j5 * (10 : Int64)) + (((A_a0 i7.toNatClampNeg) - (48 : Int32)).toInt64))), .second, .val (.int (i7 + (1 : Int32))), .val (.int ((A_a0 i7.toNatClampNeg) - (48 : Int32)))] [])) _
              refine XS.goto X0.here hx rfl (pc0 := 112) (pc' := 49) rfl (hb hby d3_112) (by decide) (by decide) ?_
              exact kt
            have hI6 : n_a0.toInt ≤ 1000 ∧ 0 ≤ (i7 + (1 : Int32)).toInt ∧ i2.toInt ≤ n_a0.toInt := by exact own_pv2 hI hc52
            have hk6 : (i2.toInt - (i7 + (1 : Int32)).toInt).toNat < k := by exact own_pm hI hc52 hk
            obtain ⟨T6, X6, e6, st6⟩ := ih a0 i1 i2 i3 i4 ((j5 * (10 : Int64)) + (((A_a0 i7.toNatClampNeg) - (48 : Int32)).toInt64)) (i7 + (1 : Int32)) (.val (.int ((A_a0 i7.toNatClampNeg) - (48 : Int32)))) n_a0 A_a0 X0 e0 hcl hsl V_a0 hI6 hk6 (One.val rfl)
            have hv : (own_f3_49 (k + 1) i1 i2 i3 i4 j5 i7 n_a0 A_a0) = (own_f3_49 k i1 i2 i3 i4 ((j5 * (10 : Int64)) + (((A_a0 i7.toNatClampNeg) - (48 : Int32)).toInt64)) (i7 + (1 : Int32)) n_a0 A_a0) := by rw [own_f3_49_s]; rw [if_pos hc52, if_neg hc66, if_neg hc73, if_neg hc90]
            exact ⟨T6, X6, e6, fun fs hr => pre5 _ (st6 fs (by rw [hv] at hr; exact hr))⟩
    · have pre7 : ∀ target, Steps p.tables e below (T0.setTop (mkF m 116 #[.val (.ref a0), .val (.int i1), .val (.int i2), .val (.int i3), .val (.int i4), .val (.long j5), .second, .val (.int i7), s8] [(.int i3)])) target → Steps p.tables e below (T0.setTop (mkF m 49 #[.val (.ref a0), .val (.int i1), .val (.int i2), .val (.int i3), .val (.int i4), .val (.long j5), .second, .val (.int i7), s8] [])) target := by
        intro target kt
        refine pre1 target ?_
        show Steps p.tables e below (T0.setTop (mkF m 52 #[.val (.ref a0), .val (.int i1), .val (.int i2), .val (.int i3), .val (.int i4), .val (.long j5), .second, .val (.int i7), s8] [(.int i2), (.int i7)])) _
        refine XS.icmpYes X0.here hx rfl (pc0 := 52) (pc' := 115) rfl (hb hby d3_52) rfl (flt hc52).2.1 (by decide) (by decide) ?_
        show Steps p.tables e below (T0.setTop (mkF m 115 #[.val (.ref a0), .val (.int i1), .val (.int i2), .val (.int i3), .val (.int i4), .val (.long j5), .second, .val (.int i7), s8] [])) _
        refine XS.iloadN X0.here hx rfl (hb hby d3_115) rfl ?_
        exact kt
      by_cases hc116 : i3 = (0 : Int32)
      · refine ⟨T0, X0, e0, fun fs hr => ?_⟩
        have hv : (own_f3_49 (k + 1) i1 i2 i3 i4 j5 i7 n_a0 A_a0) = j5 := by rw [own_f3_49_s]; rw [if_neg hc52, if_pos hc116]
        rw [hv] at hr
        refine pre7 _ ?_
        show Steps p.tables e below (T0.setTop (mkF m 116 #[.val (.ref a0), .val (.int i1), .val (.int i2), .val (.int i3), .val (.int i4), .val (.long j5), .second, .val (.int i7), s8] [(.int i3)])) _
        refine XS.ifYes X0.here hx rfl (pc0 := 116) (pc' := 125) rfl (hb hby d3_116) rfl ((if0 _ _).trans (teq hc116).1) (by decide) (by decide) ?_
        show Steps p.tables e below (T0.setTop (mkF m 125 #[.val (.ref a0), .val (.int i1), .val (.int i2), .val (.int i3), .val (.int i4), .val (.long j5), .second, .val (.int i7), s8] [])) _
        refine XS.lload X0.here hx rfl (hb hby d3_125) rfl ?_
        show Steps p.tables e below (T0.setTop (mkF m 127 #[.val (.ref a0), .val (.int i1), .val (.int i2), .val (.int i3), .val (.int i4), .val (.long j5), .second, .val (.int i7), s8] [(.long j5)])) _
        exact X0.lreturnOut hx hret (hb hby d3_127) hr
      · refine ⟨T0, X0, e0, fun fs hr => ?_⟩
        have hv : (own_f3_49 (k + 1) i1 i2 i3 i4 j5 i7 n_a0 A_a0) = (-j5) := by rw [own_f3_49_s]; rw [if_neg hc52, if_neg hc116]
        rw [hv] at hr
        refine pre7 _ ?_
        show Steps p.tables e below (T0.setTop (mkF m 116 #[.val (.ref a0), .val (.int i1), .val (.int i2), .val (.int i3), .val (.int i4), .val (.long j5), .second, .val (.int i7), s8] [(.int i3)])) _
        refine XS.ifNo X0.here hx rfl (hb hby d3_116) rfl ((if0 _ _).trans (feq hc116).1) ?_
        show Steps p.tables e below (T0.setTop (mkF m 119 #[.val (.ref a0), .val (.int i1), .val (.int i2), .val (.int i3), .val (.int i4), .val (.long j5), .second, .val (.int i7), s8] [])) _
        refine XS.lload X0.here hx rfl (hb hby d3_119) rfl ?_
        show Steps p.tables e below (T0.setTop (mkF m 121 #[.val (.ref a0), .val (.int i1), .val (.int i2), .val (.int i3), .val (.int i4), .val (.long j5), .second, .val (.int i7), s8] [(.long j5)])) _
        refine XS.lneg X0.here hx rfl (hb hby d3_121) rfl ?_
        show Steps p.tables e below (T0.setTop (mkF m 122 #[.val (.ref a0), .val (.int i1), .val (.int i2), .val (.int i3), .val (.int i4), .val (.long j5), .second, .val (.int i7), s8] [(.long (-j5))])) _
        refine XS.goto X0.here hx rfl (pc0 := 122) (pc' := 127) rfl (hb hby d3_122) (by decide) (by decide) ?_
        show Steps p.tables e below (T0.setTop (mkF m 127 #[.val (.ref a0), .val (.int i1), .val (.int i2), .val (.int i3), .val (.int i4), .val (.long j5), .second, .val (.int i7), s8] [(.long (-j5))])) _
        exact X0.lreturnOut hx hret (hb hby d3_127) hr
set_option maxRecDepth 65536 in
set_option maxHeartbeats 40000000 in
theorem own_b3_30 {p : Program} {l : Launch} {e : Env} {s : State} {m : MethodId} {args : Array Value} {below : List Frame} {meth : Method} {c : Code} {Z : State} {a0_ : Array Value} (hx : p.tables.exec = Jvm.exec) (hZ : Z.Warmed39 s.vm) (hw : ∀ d ∈ tables_1, d.before a0_ Z = true) (hby : c.code = prog_28_method_2_code) (hml : c.maxLocals = 9) (hown : s.vm.findClass "com/example/rollcalldb/rollcalldb/resp/Decimal" = some m.cls) (hret : meth.sig.returnType = some .long) {T0 : State} {locs : List Loc} {cells slots : Nat} {h0 : Heap} (a0 : Addr) (i1 : Int32) (i2 : Int32) (i3 : Int32) (u0 : Int32) (n_a0 : Int32) (A_a0 : Nat → Int32)
    (X0 : Stand p l e ({ frames := 0, cells := 0, slots := 0, locals := 0 } : Room) s m args below meth c T0 locs cells slots) (e0 : T0.heap = h0) (hcl : cells ≤ ({ frames := 0, cells := 0, slots := 0, locals := 0 } : Room).cells) (hsl : slots ≤ ({ frames := 0, cells := 0, slots := 0, locals := 0 } : Room).slots) (V_a0 : own_Ar Z h0 a0 .byte n_a0 A_a0) (hI : n_a0.toInt ≤ 1000 ∧ 0 ≤ i1.toInt ∧ i1.toInt ≤ 1000 ∧ i2.toInt ≤ n_a0.toInt ∧ 0 ≤ u0.toInt) :
    ∃ T', Stand p l e ({ frames := 0, cells := 0, slots := 0, locals := 0 } : Room) s m args below meth c T' locs cells slots ∧ T'.heap = h0 ∧ ∀ fs, (∀ (f : JFrame) (acts : List Action), f.method = m → f.locked = none → f.entered = [] → (doReturn e (T'.setTop f) acts (some (.long (own_f3_30 i1 i2 i3 u0 n_a0 A_a0)))).1 = T'.setFrames fs) → Steps p.tables e below (T0.setTop (mkF m 30 #[.val (.ref a0), .val (.int i1), .val (.int i2), .val (.int i3), .unset, .unset, .unset, .unset, .unset] [(.int u0)])) (T'.setFrames fs) := by
  have pre1 : ∀ target, Steps p.tables e below (T0.setTop (mkF m 35 #[.val (.ref a0), .val (.int i1), .val (.int i2), .val (.int i3), .val (.int u0), .unset, .unset, .unset, .unset] [(.int i2), (.int u0)])) target → Steps p.tables e below (T0.setTop (mkF m 30 #[.val (.ref a0), .val (.int i1), .val (.int i2), .val (.int i3), .unset, .unset, .unset, .unset, .unset] [(.int u0)])) target := by
    intro target kt
    show Steps p.tables e below (T0.setTop (mkF m 30 #[.val (.ref a0), .val (.int i1), .val (.int i2), .val (.int i3), .unset, .unset, .unset, .unset, .unset] [(.int u0)])) _
    refine XS.istore X0.here hx rfl (hb hby d3_30) rfl (l' := #[.val (.ref a0), .val (.int i1), .val (.int i2), .val (.int i3), .val (.int u0), .unset, .unset, .unset, .unset]) rfl ?_
    show Steps p.tables e below (T0.setTop (mkF m 32 #[.val (.ref a0), .val (.int i1), .val (.int i2), .val (.int i3), .val (.int u0), .unset, .unset, .unset, .unset] [])) _
    refine XS.iload X0.here hx rfl (hb hby d3_32) rfl ?_
    show Steps p.tables e below (T0.setTop (mkF m 34 #[.val (.ref a0), .val (.int i1), .val (.int i2), .val (.int i3), .val (.int u0), .unset, .unset, .unset, .unset] [(.int u0)])) _
    refine XS.iloadN X0.here hx rfl (hb hby d3_34) rfl ?_
    exact kt
  by_cases hc35 : u0 = i2
  · refine ⟨T0, X0, e0, fun fs hr => ?_⟩
    have hv : (own_f3_30 i1 i2 i3 u0 n_a0 A_a0) = (-9223372036854775808 : Int64) := by unfold own_f3_30; rw [if_pos hc35]
    rw [hv] at hr
    refine pre1 _ ?_
    show Steps p.tables e below (T0.setTop (mkF m 35 #[.val (.ref a0), .val (.int i1), .val (.int i2), .val (.int i3), .val (.int u0), .unset, .unset, .unset, .unset] [(.int i2), (.int u0)])) _
    refine XS.icmpNo X0.here hx rfl (hb hby d3_35) rfl (teq hc35).2 ?_
    show Steps p.tables e below (T0.setTop (mkF m 38 #[.val (.ref a0), .val (.int i1), .val (.int i2), .val (.int i3), .val (.int u0), .unset, .unset, .unset, .unset] [])) _
    refine X0.ldc2Long hx hown (mvT hZ (hw _ (List.mem_of_getElem? (i := 18) rfl))) (g := (mkF m 38 #[.val (.ref a0), .val (.int i1), .val (.int i2), .val (.int i3), .val (.int u0), .unset, .unset, .unset, .unset] [])) rfl (hb hby d3_38) _ ?_
    show Steps p.tables e below (T0.setTop (mkF m 41 #[.val (.ref a0), .val (.int i1), .val (.int i2), .val (.int i3), .val (.int u0), .unset, .unset, .unset, .unset] [(.long (-9223372036854775808 : Int64))])) _
    exact X0.lreturnOut hx hret (hb hby d3_41) hr
  · have pre2 : ∀ target, Steps p.tables e below (T0.setTop (mkF m 49 #[.val (.ref a0), .val (.int i1), .val (.int i2), .val (.int i3), .val (.int u0), .val (.long (0 : Int64)), .second, .val (.int u0), .unset] [])) target → Steps p.tables e below (T0.setTop (mkF m 30 #[.val (.ref a0), .val (.int i1), .val (.int i2), .val (.int i3), .unset, .unset, .unset, .unset, .unset] [(.int u0)])) target := by
      intro target kt
      refine pre1 target ?_
      show Steps p.tables e below (T0.setTop (mkF m 35 #[.val (.ref a0), .val (.int i1), .val (.int i2), .val (.int i3), .val (.int u0), .unset, .unset, .unset, .unset] [(.int i2), (.int u0)])) _
      refine XS.icmpYes X0.here hx rfl (pc0 := 35) (pc' := 42) rfl (hb hby d3_35) rfl (feq hc35).2 (by decide) (by decide) ?_
      show Steps p.tables e below (T0.setTop (mkF m 42 #[.val (.ref a0), .val (.int i1), .val (.int i2), .val (.int i3), .val (.int u0), .unset, .unset, .unset, .unset] [])) _
      refine XS.lconst X0.here hx rfl (hb hby d3_42) ?_
      show Steps p.tables e below (T0.setTop (mkF m 43 #[.val (.ref a0), .val (.int i1), .val (.int i2), .val (.int i3), .val (.int u0), .unset, .unset, .unset, .unset] [(.long (0 : Int64))])) _
      refine XS.lstore X0.here hx rfl (hb hby d3_43) rfl (l' := #[.val (.ref a0), .val (.int i1), .val (.int i2), .val (.int i3), .val (.int u0), .val (.long (0 : Int64)), .second, .unset, .unset]) rfl ?_
      show Steps p.tables e below (T0.setTop (mkF m 45 #[.val (.ref a0), .val (.int i1), .val (.int i2), .val (.int i3), .val (.int u0), .val (.long (0 : Int64)), .second, .unset, .unset] [])) _
      refine XS.iload X0.here hx rfl (hb hby d3_45) rfl ?_
      show Steps p.tables e below (T0.setTop (mkF m 47 #[.val (.ref a0), .val (.int i1), .val (.int i2), .val (.int i3), .val (.int u0), .val (.long (0 : Int64)), .second, .unset, .unset] [(.int u0)])) _
      refine XS.istore X0.here hx rfl (hb hby d3_47) rfl (l' := #[.val (.ref a0), .val (.int i1), .val (.int i2), .val (.int i3), .val (.int u0), .val (.long (0 : Int64)), .second, .val (.int u0), .unset]) rfl ?_
      exact kt
    have hI3 : n_a0.toInt ≤ 1000 ∧ 0 ≤ u0.toInt ∧ i2.toInt ≤ n_a0.toInt := by exact ⟨hI.1, hI.2.2.2.2, hI.2.2.2.1⟩
    have hk3 : (i2.toInt - u0.toInt).toNat < (i2.toInt - u0.toInt).toNat + 1 := by exact Nat.lt_succ_self _
    obtain ⟨T3, X3, e3, st3⟩ := own_b3_49 hx hZ hw hby hml hown hret ((i2.toInt - u0.toInt).toNat + 1) a0 i1 i2 i3 u0 (0 : Int64) u0 (.unset) n_a0 A_a0 X0 e0 hcl hsl V_a0 hI3 hk3 One.u
    have hv : (own_f3_30 i1 i2 i3 u0 n_a0 A_a0) = (own_f3_49 ((i2.toInt - u0.toInt).toNat + 1) i1 i2 i3 u0 (0 : Int64) u0 n_a0 A_a0) := by unfold own_f3_30; rw [if_neg hc35]
    exact ⟨T3, X3, e3, fun fs hr => pre2 _ (st3 fs (by rw [hv] at hr; exact hr))⟩
set_option maxRecDepth 65536 in
set_option maxHeartbeats 40000000 in
theorem own_b3_18 {p : Program} {l : Launch} {e : Env} {s : State} {m : MethodId} {args : Array Value} {below : List Frame} {meth : Method} {c : Code} {Z : State} {a0_ : Array Value} (hx : p.tables.exec = Jvm.exec) (hZ : Z.Warmed39 s.vm) (hw : ∀ d ∈ tables_1, d.before a0_ Z = true) (hby : c.code = prog_28_method_2_code) (hml : c.maxLocals = 9) (hown : s.vm.findClass "com/example/rollcalldb/rollcalldb/resp/Decimal" = some m.cls) (hret : meth.sig.returnType = some .long) {T0 : State} {locs : List Loc} {cells slots : Nat} {h0 : Heap} (a0 : Addr) (i1 : Int32) (i2 : Int32) (u0 : Int32) (n_a0 : Int32) (A_a0 : Nat → Int32)
    (X0 : Stand p l e ({ frames := 0, cells := 0, slots := 0, locals := 0 } : Room) s m args below meth c T0 locs cells slots) (e0 : T0.heap = h0) (hcl : cells ≤ ({ frames := 0, cells := 0, slots := 0, locals := 0 } : Room).cells) (hsl : slots ≤ ({ frames := 0, cells := 0, slots := 0, locals := 0 } : Room).slots) (V_a0 : own_Ar Z h0 a0 .byte n_a0 A_a0) (hI : n_a0.toInt ≤ 1000 ∧ 0 ≤ i1.toInt ∧ i1.toInt ≤ 1000 ∧ i2.toInt ≤ n_a0.toInt) :
    ∃ T', Stand p l e ({ frames := 0, cells := 0, slots := 0, locals := 0 } : Room) s m args below meth c T' locs cells slots ∧ T'.heap = h0 ∧ ∀ fs, (∀ (f : JFrame) (acts : List Action), f.method = m → f.locked = none → f.entered = [] → (doReturn e (T'.setTop f) acts (some (.long (own_f3_18 i1 i2 u0 n_a0 A_a0)))).1 = T'.setFrames fs) → Steps p.tables e below (T0.setTop (mkF m 18 #[.val (.ref a0), .val (.int i1), .val (.int i2), .unset, .unset, .unset, .unset, .unset, .unset] [(.int u0)])) (T'.setFrames fs) := by
  have pre1 : ∀ target, Steps p.tables e below (T0.setTop (mkF m 20 #[.val (.ref a0), .val (.int i1), .val (.int i2), .val (.int u0), .unset, .unset, .unset, .unset, .unset] [(.int u0)])) target → Steps p.tables e below (T0.setTop (mkF m 18 #[.val (.ref a0), .val (.int i1), .val (.int i2), .unset, .unset, .unset, .unset, .unset, .unset] [(.int u0)])) target := by
    intro target kt
    show Steps p.tables e below (T0.setTop (mkF m 18 #[.val (.ref a0), .val (.int i1), .val (.int i2), .unset, .unset, .unset, .unset, .unset, .unset] [(.int u0)])) _
    refine XS.istoreN X0.here hx rfl (hb hby d3_18) rfl (l' := #[.val (.ref a0), .val (.int i1), .val (.int i2), .val (.int u0), .unset, .unset, .unset, .unset, .unset]) rfl ?_
    show Steps p.tables e below (T0.setTop (mkF m 19 #[.val (.ref a0), .val (.int i1), .val (.int i2), .val (.int u0), .unset, .unset, .unset, .unset, .unset] [])) _
    refine XS.iloadN X0.here hx rfl (hb hby d3_19) rfl ?_
    exact kt
  by_cases hc20 : u0 = (0 : Int32)
  · have pre2 : ∀ target, Steps p.tables e below (T0.setTop (mkF m 30 #[.val (.ref a0), .val (.int i1), .val (.int i2), .val (.int u0), .unset, .unset, .unset, .unset, .unset] [(.int i1)])) target → Steps p.tables e below (T0.setTop (mkF m 18 #[.val (.ref a0), .val (.int i1), .val (.int i2), .unset, .unset, .unset, .unset, .unset, .unset] [(.int u0)])) target := by
      intro target kt
      refine pre1 target ?_
      show Steps p.tables e below (T0.setTop (mkF m 20 #[.val (.ref a0), .val (.int i1), .val (.int i2), .val (.int u0), .unset, .unset, .unset, .unset, .unset] [(.int u0)])) _
      refine XS.ifYes X0.here hx rfl (pc0 := 20) (pc' := 29) rfl (hb hby d3_20) rfl ((if0 _ _).trans (teq hc20).1) (by decide) (by decide) ?_
      show Steps p.tables e below (T0.setTop (mkF m 29 #[.val (.ref a0), .val (.int i1), .val (.int i2), .val (.int u0), .unset, .unset, .unset, .unset, .unset] [])) _
      refine XS.iloadN X0.here hx rfl (hb hby d3_29) rfl ?_
      exact kt
    have hI3 : n_a0.toInt ≤ 1000 ∧ 0 ≤ i1.toInt ∧ i1.toInt ≤ 1000 ∧ i2.toInt ≤ n_a0.toInt ∧ 0 ≤ i1.toInt := by first | exact own_pv0 hI | exact own_pv1 hI
    obtain ⟨T3, X3, e3, st3⟩ := own_b3_30 hx hZ hw hby hml hown hret a0 i1 i2 u0 i1 n_a0 A_a0 X0 e0 hcl hsl V_a0 hI3
    have hv : (own_f3_18 i1 i2 u0 n_a0 A_a0) = (own_f3_30 i1 i2 u0 i1 n_a0 A_a0) := by unfold own_f3_18; rw [if_pos hc20]
    exact ⟨T3, X3, e3, fun fs hr => pre2 _ (st3 fs (by rw [hv] at hr; exact hr))⟩
  · have pre4 : ∀ target, Steps p.tables e below (T0.setTop (mkF m 30 #[.val (.ref a0), .val (.int i1), .val (.int i2), .val (.int u0), .unset, .unset, .unset, .unset, .unset] [(.int (i1 + (1 : Int32)))])) target → Steps p.tables e below (T0.setTop (mkF m 18 #[.val (.ref a0), .val (.int i1), .val (.int i2), .unset, .unset, .unset, .unset, .unset, .unset] [(.int u0)])) target := by
      intro target kt
      refine pre1 target ?_
      show Steps p.tables e below (T0.setTop (mkF m 20 #[.val (.ref a0), .val (.int i1), .val (.int i2), .val (.int u0), .unset, .unset, .unset, .unset, .unset] [(.int u0)])) _
      refine XS.ifNo X0.here hx rfl (hb hby d3_20) rfl ((if0 _ _).trans (feq hc20).1) ?_
      show Steps p.tables e below (T0.setTop (mkF m 23 #[.val (.ref a0), .val (.int i1), .val (.int i2), .val (.int u0), .unset, .unset, .unset, .unset, .unset] [])) _
      refine XS.iloadN X0.here hx rfl (hb hby d3_23) rfl ?_
      show Steps p.tables e below (T0.setTop (mkF m 24 #[.val (.ref a0), .val (.int i1), .val (.int i2), .val (.int u0), .unset, .unset, .unset, .unset, .unset] [(.int i1)])) _
      refine XS.iconst X0.here hx rfl (hb hby d3_24) ?_
      show Steps p.tables e below (T0.setTop (mkF m 25 #[.val (.ref a0), .val (.int i1), .val (.int i2), .val (.int u0), .unset, .unset, .unset, .unset, .unset] [(.int (1 : Int32)), (.int i1)])) _
      refine XS.iadd X0.here hx rfl (hb hby d3_25) rfl ?_
      show Steps p.tables e below (T0.setTop (mkF m 26 #[.val (.ref a0), .val (.int i1), .val (.int i2), .val (.int u0), .unset, .unset, .unset, .unset, .unset] [(.int (i1 + (1 : Int32)))])) _
      refine XS.goto X0.here hx rfl (pc0 := 26) (pc' := 30) rfl (hb hby d3_26) (by decide) (by decide) ?_
      exact kt
    have hI5 : n_a0.toInt ≤ 1000 ∧ 0 ≤ i1.toInt ∧ i1.toInt ≤ 1000 ∧ i2.toInt ≤ n_a0.toInt ∧ 0 ≤ (i1 + (1 : Int32)).toInt := by first | exact own_pv0 hI | exact own_pv1 hI
    obtain ⟨T5, X5, e5, st5⟩ := own_b3_30 hx hZ hw hby hml hown hret a0 i1 i2 u0 (i1 + (1 : Int32)) n_a0 A_a0 X0 e0 hcl hsl V_a0 hI5
    have hv : (own_f3_18 i1 i2 u0 n_a0 A_a0) = (own_f3_30 i1 i2 u0 (i1 + (1 : Int32)) n_a0 A_a0) := by unfold own_f3_18; rw [if_neg hc20]
    exact ⟨T5, X5, e5, fun fs hr => pre4 _ (st5 fs (by rw [hv] at hr; exact hr))⟩
set_option maxRecDepth 65536 in
set_option maxHeartbeats 40000000 in
theorem own_b3_17 {p : Program} {l : Launch} {e : Env} {s : State} {m : MethodId} {args : Array Value} {below : List Frame} {meth : Method} {c : Code} {Z : State} {a0_ : Array Value} (hx : p.tables.exec = Jvm.exec) (hZ : Z.Warmed39 s.vm) (hw : ∀ d ∈ tables_1, d.before a0_ Z = true) (hby : c.code = prog_28_method_2_code) (hml : c.maxLocals = 9) (hown : s.vm.findClass "com/example/rollcalldb/rollcalldb/resp/Decimal" = some m.cls) (hret : meth.sig.returnType = some .long) {T0 : State} {locs : List Loc} {cells slots : Nat} {h0 : Heap} (a0 : Addr) (i1 : Int32) (i2 : Int32) (n_a0 : Int32) (A_a0 : Nat → Int32)
    (X0 : Stand p l e ({ frames := 0, cells := 0, slots := 0, locals := 0 } : Room) s m args below meth c T0 locs cells slots) (e0 : T0.heap = h0) (hcl : cells ≤ ({ frames := 0, cells := 0, slots := 0, locals := 0 } : Room).cells) (hsl : slots ≤ ({ frames := 0, cells := 0, slots := 0, locals := 0 } : Room).slots) (V_a0 : own_Ar Z h0 a0 .byte n_a0 A_a0) (hI : n_a0.toInt ≤ 1000 ∧ 0 ≤ i1.toInt ∧ i1.toInt ≤ 1000 ∧ i2.toInt ≤ n_a0.toInt) :
    ∃ T', Stand p l e ({ frames := 0, cells := 0, slots := 0, locals := 0 } : Room) s m args below meth c T' locs cells slots ∧ T'.heap = h0 ∧ ∀ fs, (∀ (f : JFrame) (acts : List Action), f.method = m → f.locked = none → f.entered = [] → (doReturn e (T'.setTop f) acts (some (.long (own_f3_17 i1 i2 n_a0 A_a0)))).1 = T'.setFrames fs) → Steps p.tables e below (T0.setTop (mkF m 17 #[.val (.ref a0), .val (.int i1), .val (.int i2), .unset, .unset, .unset, .unset, .unset, .unset] [])) (T'.setFrames fs) := by
  have pre1 : ∀ target, Steps p.tables e below (T0.setTop (mkF m 18 #[.val (.ref a0), .val (.int i1), .val (.int i2), .unset, .unset, .unset, .unset, .unset, .unset] [(.int (0 : Int32))])) target → Steps p.tables e below (T0.setTop (mkF m 17 #[.val (.ref a0), .val (.int i1), .val (.int i2), .unset, .unset, .unset, .unset, .unset, .unset] [])) target := by
    intro target kt
    show Steps p.tables e below (T0.setTop (mkF m 17 #[.val (.ref a0), .val (.int i1), .val (.int i2), .unset, .unset, .unset, .unset, .unset, .unset] [])) _
    refine XS.iconst X0.here hx rfl (hb hby d3_17) ?_
    exact kt
  have hI2 : n_a0.toInt ≤ 1000 ∧ 0 ≤ i1.toInt ∧ i1.toInt ≤ 1000 ∧ i2.toInt ≤ n_a0.toInt := by exact hI
  obtain ⟨T2, X2, e2, st2⟩ := own_b3_18 hx hZ hw hby hml hown hret a0 i1 i2 (0 : Int32) n_a0 A_a0 X0 e0 hcl hsl V_a0 hI2
  have hv : (own_f3_17 i1 i2 n_a0 A_a0) = (own_f3_18 i1 i2 (0 : Int32) n_a0 A_a0) := by unfold own_f3_17; rfl
  exact ⟨T2, X2, e2, fun fs hr => pre1 _ (st2 fs (by rw [hv] at hr; exact hr))⟩
set_option maxRecDepth 65536 in
set_option maxHeartbeats 40000000 in
theorem own_b3_0 {p : Program} {l : Launch} {e : Env} {s : State} {m : MethodId} {args : Array Value} {below : List Frame} {meth : Method} {c : Code} {Z : State} {a0_ : Array Value} (hx : p.tables.exec = Jvm.exec) (hZ : Z.Warmed39 s.vm) (hw : ∀ d ∈ tables_1, d.before a0_ Z = true) (hby : c.code = prog_28_method_2_code) (hml : c.maxLocals = 9) (hown : s.vm.findClass "com/example/rollcalldb/rollcalldb/resp/Decimal" = some m.cls) (hret : meth.sig.returnType = some .long) {T0 : State} {locs : List Loc} {cells slots : Nat} {h0 : Heap} (a0 : Addr) (i1 : Int32) (i2 : Int32) (n_a0 : Int32) (A_a0 : Nat → Int32)
    (X0 : Stand p l e ({ frames := 0, cells := 0, slots := 0, locals := 0 } : Room) s m args below meth c T0 locs cells slots) (e0 : T0.heap = h0) (hcl : cells ≤ ({ frames := 0, cells := 0, slots := 0, locals := 0 } : Room).cells) (hsl : slots ≤ ({ frames := 0, cells := 0, slots := 0, locals := 0 } : Room).slots) (V_a0 : own_Ar Z h0 a0 .byte n_a0 A_a0) (hI : n_a0.toInt ≤ 1000 ∧ 0 ≤ i1.toInt ∧ i1.toInt ≤ 1000 ∧ i2.toInt ≤ n_a0.toInt) :
    ∃ T', Stand p l e ({ frames := 0, cells := 0, slots := 0, locals := 0 } : Room) s m args below meth c T' locs cells slots ∧ T'.heap = h0 ∧ ∀ fs, (∀ (f : JFrame) (acts : List Action), f.method = m → f.locked = none → f.entered = [] → (doReturn e (T'.setTop f) acts (some (.long (own_f3_0 i1 i2 n_a0 A_a0)))).1 = T'.setFrames fs) → Steps p.tables e below (T0.setTop (mkF m 0 #[.val (.ref a0), .val (.int i1), .val (.int i2), .unset, .unset, .unset, .unset, .unset, .unset] [])) (T'.setFrames fs) := by
  have pre1 : ∀ target, Steps p.tables e below (T0.setTop (mkF m 2 #[.val (.ref a0), .val (.int i1), .val (.int i2), .unset, .unset, .unset, .unset, .unset, .unset] [(.int i1), (.int i2)])) target → Steps p.tables e below (T0.setTop (mkF m 0 #[.val (.ref a0), .val (.int i1), .val (.int i2), .unset, .unset, .unset, .unset, .unset, .unset] [])) target := by
    intro target kt
    show Steps p.tables e below (T0.setTop (mkF m 0 #[.val (.ref a0), .val (.int i1), .val (.int i2), .unset, .unset, .unset, .unset, .unset, .unset] [])) _
    refine XS.iloadN X0.here hx rfl (hb hby d3_0) rfl ?_
    show Steps p.tables e below (T0.setTop (mkF m 1 #[.val (.ref a0), .val (.int i1), .val (.int i2), .unset, .unset, .unset, .unset, .unset, .unset] [(.int i2)])) _
    refine XS.iloadN X0.here hx rfl (hb hby d3_1) rfl ?_
    exact kt
  by_cases hc2 : i1 < i2
  · have hix7 : ¬ i1 < 0 ∧ i1 < n_a0 := by exact own_px0 hI hc2
    have pre2 : ∀ target, Steps p.tables e below (T0.setTop (mkF m 10 #[.val (.ref a0), .val (.int i1), .val (.int i2), .unset, .unset, .unset, .unset, .unset, .unset] [(.int (45 : Int32)), (.int (A_a0 i1.toNatClampNeg))])) target → Steps p.tables e below (T0.setTop (mkF m 0 #[.val (.ref a0), .val (.int i1), .val (.int i2), .unset, .unset, .unset, .unset, .unset, .unset] [])) target := by
      intro target kt
      refine pre1 target ?_
      show Steps p.tables e below (T0.setTop (mkF m 2 #[.val (.ref a0), .val (.int i1), .val (.int i2), .unset, .unset, .unset, .unset, .unset, .unset] [(.int i1), (.int i2)])) _
      refine XS.icmpNo X0.here hx rfl (hb hby d3_2) rfl (tlt hc2).2.2.2 ?_
      show Steps p.tables e below (T0.setTop (mkF m 5 #[.val (.ref a0), .val (.int i1), .val (.int i2), .unset, .unset, .unset, .unset, .unset, .unset] [])) _
      refine XS.aloadN X0.here hx rfl (hb hby d3_5) rfl rfl ?_
      show Steps p.tables e below (T0.setTop (mkF m 6 #[.val (.ref a0), .val (.int i1), .val (.int i2), .unset, .unset, .unset, .unset, .unset, .unset] [(.ref a0)])) _
      refine XS.iloadN X0.here hx rfl (hb hby d3_6) rfl ?_
      show Steps p.tables e below (T0.setTop (mkF m 7 #[.val (.ref a0), .val (.int i1), .val (.int i2), .unset, .unset, .unset, .unset, .unset, .unset] [(.int i1), (.ref a0)])) _
      refine own_ldB X0 hx hZ e0 V_a0 hix7 (g := (mkF m 7 #[.val (.ref a0), .val (.int i1), .val (.int i2), .unset, .unset, .unset, .unset, .unset, .unset] [(.int i1), (.ref a0)])) rfl rfl (hb hby d3_7) _ ?_
      show Steps p.tables e below (T0.setTop (mkF m 8 #[.val (.ref a0), .val (.int i1), .val (.int i2), .unset, .unset, .unset, .unset, .unset, .unset] [(.int (A_a0 i1.toNatClampNeg))])) _
      refine XS.bipush X0.here hx rfl (hb hby d3_8) ?_
      exact kt
    by_cases hc10 : (A_a0 i1.toNatClampNeg) = (45 : Int32)
    · have pre3 : ∀ target, Steps p.tables e below (T0.setTop (mkF m 18 #[.val (.ref a0), .val (.int i1), .val (.int i2), .unset, .unset, .unset, .unset, .unset, .unset] [(.int (1 : Int32))])) target → Steps p.tables e below (T0.setTop (mkF m 0 #[.val (.ref a0), .val (.int i1), .val (.int i2), .unset, .unset, .unset, .unset, .unset, .unset] [])) target := by
        intro target kt
        refine pre2 target ?_
        show Steps p.tables e below (T0.setTop (mkF m 10 #[.val (.ref a0), .val (.int i1), .val (.int i2), .unset, .unset, .unset, .unset, .unset, .unset] [(.int (45 : Int32)), (.int (A_a0 i1.toNatClampNeg))])) _
        refine XS.icmpNo X0.here hx rfl (hb hby d3_10) rfl (teq hc10).2 ?_
        show Steps p.tables e below (T0.setTop (mkF m 13 #[.val (.ref a0), .val (.int i1), .val (.int i2), .unset, .unset, .unset, .unset, .unset, .unset] [])) _
        refine XS.iconst X0.here hx rfl (hb hby d3_13) ?_
        show Steps p.tables e below (T0.setTop (mkF m 14 #[.val (.ref a0), .val (.int i1), .val (.int i2), .unset, .unset, .unset, .unset, .unset, .unset] [(.int (1 : Int32))])) _
        refine XS.goto X0.here hx rfl (pc0 := 14) (pc' := 18) rfl (hb hby d3_14) (by decide) (by decide) ?_
        exact kt
      have hI4 : n_a0.toInt ≤ 1000 ∧ 0 ≤ i1.toInt ∧ i1.toInt ≤ 1000 ∧ i2.toInt ≤ n_a0.toInt := by exact hI
      obtain ⟨T4, X4, e4, st4⟩ := own_b3_18 hx hZ hw hby hml hown hret a0 i1 i2 (1 : Int32) n_a0 A_a0 X0 e0 hcl hsl V_a0 hI4
      have hv : (own_f3_0 i1 i2 n_a0 A_a0) = (own_f3_18 i1 i2 (1 : Int32) n_a0 A_a0) := by unfold own_f3_0; rw [if_pos hc2, if_pos hc10]
      exact ⟨T4, X4, e4, fun fs hr => pre3 _ (st4 fs (by rw [hv] at hr; exact hr))⟩
    · have pre5 : ∀ target, Steps p.tables e below (T0.setTop (mkF m 17 #[.val (.ref a0), .val (.int i1), .val (.int i2), .unset, .unset, .unset, .unset, .unset, .unset] [])) target → Steps p.tables e below (T0.setTop (mkF m 0 #[.val (.ref a0), .val (.int i1), .val (.int i2), .unset, .unset, .unset, .unset, .unset, .unset] [])) target := by
        intro target kt
        refine pre2 target ?_
        show Steps p.tables e below (T0.setTop (mkF m 10 #[.val (.ref a0), .val (.int i1), .val (.int i2), .unset, .unset, .unset, .unset, .unset, .unset] [(.int (45 : Int32)), (.int (A_a0 i1.toNatClampNeg))])) _
        refine XS.icmpYes X0.here hx rfl (pc0 := 10) (pc' := 17) rfl (hb hby d3_10) rfl (feq hc10).2 (by decide) (by decide) ?_
        exact kt
      have hI6 : n_a0.toInt ≤ 1000 ∧ 0 ≤ i1.toInt ∧ i1.toInt ≤ 1000 ∧ i2.toInt ≤ n_a0.toInt := by exact hI
      obtain ⟨T6, X6, e6, st6⟩ := own_b3_17 hx hZ hw hby hml hown hret a0 i1 i2 n_a0 A_a0 X0 e0 hcl hsl V_a0 hI6
      have hv : (own_f3_0 i1 i2 n_a0 A_a0) = (own_f3_17 i1 i2 n_a0 A_a0) := by unfold own_f3_0; rw [if_pos hc2, if_neg hc10]
      exact ⟨T6, X6, e6, fun fs hr => pre5 _ (st6 fs (by rw [hv] at hr; exact hr))⟩
  · have pre7 : ∀ target, Steps p.tables e below (T0.setTop (mkF m 17 #[.val (.ref a0), .val (.int i1), .val (.int i2), .unset, .unset, .unset, .unset, .unset, .unset] [])) target → Steps p.tables e below (T0.setTop (mkF m 0 #[.val (.ref a0), .val (.int i1), .val (.int i2), .unset, .unset, .unset, .unset, .unset, .unset] [])) target := by
      intro target kt
      refine pre1 target ?_
      show Steps p.tables e below (T0.setTop (mkF m 2 #[.val (.ref a0), .val (.int i1), .val (.int i2), .unset, .unset, .unset, .unset, .unset, .unset] [(.int i1), (.int i2)])) _
      refine XS.icmpYes X0.here hx rfl (pc0 := 2) (pc' := 17) rfl (hb hby d3_2) rfl (flt hc2).2.2.2 (by decide) (by decide) ?_
      exact kt
    have hI8 : n_a0.toInt ≤ 1000 ∧ 0 ≤ i1.toInt ∧ i1.toInt ≤ 1000 ∧ i2.toInt ≤ n_a0.toInt := by exact hI
    obtain ⟨T8, X8, e8, st8⟩ := own_b3_17 hx hZ hw hby hml hown hret a0 i1 i2 n_a0 A_a0 X0 e0 hcl hsl V_a0 hI8
    have hv : (own_f3_0 i1 i2 n_a0 A_a0) = (own_f3_17 i1 i2 n_a0 A_a0) := by unfold own_f3_0; rw [if_neg hc2]
    exact ⟨T8, X8, e8, fun fs hr => pre7 _ (st8 fs (by rw [hv] at hr; exact hr))⟩
def Q3 (Z : State) (a0 : Addr) (i1 : Int32) (i2 : Int32) (n_a0 : Int32) (A_a0 : Nat → Int32) (h0 : Heap) (n0 : Nat) (v : Option Value) (h : Heap) (L : List Loc) : Prop := v = some (.long (own_f3_0 i1 i2 n_a0 A_a0)) ∧ L = [] ∧ h = h0
set_option maxRecDepth 65536 in
set_option maxHeartbeats 40000000 in
theorem rm3 (l : Launch) (Z : State) (a0_ : Array Value) (hw : ∀ d ∈ tables_1, d.before a0_ Z = true) (ws : List Jvm.Cond) (a0 : Addr) (i1 : Int32) (i2 : Int32) (n_a0 : Int32) (A_a0 : Nat → Int32) (h0 : Heap) (n0 : Nat) (Z0 : n0 ≤ h0.size) (V_a0 : own_Ar Z h0 a0 .byte n_a0 A_a0) (hI : n_a0.toInt ≤ 1000 ∧ 0 ≤ i1.toInt ∧ i1.toInt ≤ 1000 ∧ i2.toInt ≤ n_a0.toInt) :
    MetFree l (⟨"com/example/rollcalldb/rollcalldb/resp/Decimal", "parse", "([BII)J"⟩ : MethodName) (head1 (Jvm.Cond.code (⟨"com/example/rollcalldb/rollcalldb/resp/Decimal", "parse", "([BII)J"⟩ : MethodName) prog_28_method_2_code 9 (some .long) :: ws) ({ frames := 0, cells := 0, slots := 0, locals := 0 } : Room)) (fun a U => a = #[(.ref a0), (.int i1), (.int i2)] ∧ Z.Warmed39 U.vm ∧ U.heap = h0) (fun _ _ _ _ _ => True) (fun _ U o U' => ∃ v L, o = .returned v ∧ Q3 Z a0 i1 i2 n_a0 A_a0 h0 n0 v U'.heap L ∧ FrameEnd U o U' L ({ frames := 0, cells := 0, slots := 0, locals := 0 } : Room).cells ({ frames := 0, cells := 0, slots := 0, locals := 0 } : Room).slots) := by
  refine MetFree.of_bodySF (plainFor_of_name pn_3) hisR ?_
  intro p e s m args below meth c s₁ Bd hml0 hP hK
  obtain ⟨rfl, hZ, hh⟩ := hP
  have hx := Bd.exec
  have hby := Bd.bytes
  have hml : c.maxLocals = 9 := hml0
  have hown : s.vm.findClass "com/example/rollcalldb/rollcalldb/resp/Decimal" = some m.cls := findClass_of_methodNamed Bd.named
  have X0 : Stand p l e ({ frames := 0, cells := 0, slots := 0, locals := 0 } : Room) s m #[(.ref a0), (.int i1), (.int i2)] below meth c s₁ [] 0 0 := Stand.of_body Bd
  have e0 : s₁.heap = h0 := by rw [← hh, Bd.state]; rfl
  obtain ⟨T', X', e', st'⟩ := own_b3_0 hx hZ hw hby hml hown Bd.returns  a0 i1 i2 n_a0 A_a0 X0 e0 (by decide) (by decide) V_a0 hI
  obtain ⟨fs, hr, hrun, hended, hW, hsame⟩ := X'.leave (v := some (.long (own_f3_0 i1 i2 n_a0 A_a0))) (fun h => by rw [Bd.returns] at h; cases h)
  refine ⟨_, _, castTop (ef_3 m a0 i1 i2) (st' fs hr), hrun, hended, _, _, rfl, ?_, ⟨_, rfl⟩, hW, hsame.mono (by decide) (by decide)⟩
  exact ⟨rfl, rfl, e'⟩
/-- the number that k digits from place i spell, behind v -/
def own_h (A : Nat → Int32) : Nat → Nat → Nat → Nat
  | _, 0, v => v
  | i, k + 1, v => own_h A (i + 1) k (v * 10 + ((A i).toInt - 48).toNat)
theorem own_h0 (A : Nat → Int32) (i v : Nat) : own_h A i 0 v = v := by unfold own_h; rfl
theorem own_hs (A : Nat → Int32) (i k v : Nat) : own_h A i (k + 1) v = own_h A (i + 1) k (v * 10 + ((A i).toInt - 48).toNat) := by rw [own_h]
def own_ok (A : Nat → Int32) (i k : Nat) : Prop := ∀ j, i ≤ j → j < i + k → 48 ≤ (A j).toInt ∧ (A j).toInt ≤ 57
theorem own_h_mul (A : Nat → Int32) : ∀ k i v, v * 10 ^ k ≤ own_h A i k v := by
  intro k
  induction k with
  | zero => intro i v; rw [own_h0]; omega
  | succ k ih =>
    intro i v
    rw [own_hs]
    refine Nat.le_trans ?_ (ih (i + 1) (v * 10 + ((A i).toInt - 48).toNat))
    rw [Nat.pow_succ, Nat.mul_comm (10 ^ k) 10, ← Nat.mul_assoc]
    exact Nat.mul_le_mul_right _ (Nat.le_add_right _ _)
theorem own_h_ge (A : Nat → Int32) (k i v : Nat) : v ≤ own_h A i k v := by
  refine Nat.le_trans ?_ (own_h_mul A k i v)
  exact Nat.le_mul_of_pos_right _ (Nat.pow_pos (by decide +kernel))
theorem own_h_app (A : Nat → Int32) : ∀ k l i v, own_h A i (k + l) v = own_h A (i + k) l (own_h A i k v) := by
  intro k
  induction k with
  | zero => intro l i v; rw [own_h0, Nat.zero_add, Nat.add_zero]
  | succ k ih =>
    intro l i v
    rw [show k + 1 + l = (k + l) + 1 by omega, own_hs, own_hs, ih, show i + 1 + k = i + (k + 1) by omega]
theorem own_h_congr (A B : Nat → Int32) : ∀ k i v, (∀ j, i ≤ j → j < i + k → A j = B j) → own_h A i k v = own_h B i k v := by
  intro k
  induction k with
  | zero => intro i v _; rw [own_h0, own_h0]
  | succ k ih =>
    intro i v h
    rw [own_hs, own_hs, h i (Nat.le_refl _) (by omega)]
    exact ih _ _ fun j h1 h2 => h j (by omega) (by omega)
theorem own_h_zero (A : Nat → Int32) : ∀ k i, (∀ j, i ≤ j → j < i + k → A j = 48) → own_h A i k 0 = 0 := by
  intro k
  induction k with
  | zero => intro i _; rw [own_h0]
  | succ k ih =>
    intro i h
    have l : (48 : Int32).toInt = 48 := by decide +kernel
    rw [own_hs, h i (Nat.le_refl _) (by omega), l]
    exact ih _ fun j h1 h2 => h j (by omega) (by omega)
theorem own_hdig (A : Nat → Int32) : ∀ (c i m : Nat), (∀ j, i ≤ j → j < i + c → (A j).toInt = 48 + ((m / 10 ^ (i + c - 1 - j) % 10 : Nat) : Int)) → own_h A i c (m / 10 ^ c) = m := by
  intro c
  induction c with
  | zero => intro i m _; rw [own_h0, Nat.pow_zero, Nat.div_one]
  | succ c ih =>
    intro i m h
    have e : m / 10 ^ (c + 1) * 10 + ((A i).toInt - 48).toNat = m / 10 ^ c := by
      have a := h i (Nat.le_refl _) (by omega)
      rw [show i + (c + 1) - 1 - i = c by omega] at a
      have p : m / 10 ^ (c + 1) = m / 10 ^ c / 10 := by rw [Nat.pow_succ, Nat.div_div_eq_div_mul]
      rw [p]
      omega
    rw [own_hs, e]
    refine ih (i + 1) m fun j h1 h2 => ?_
    rw [h j (by omega) (by omega), show i + (c + 1) - 1 - j = i + 1 + c - 1 - j by omega]
theorem own_bm32 {x y : Int} (h : (x - y) % 4294967296 = 0) (r : -2147483648 ≤ x ∧ x < 2147483648) (s : -2147483648 ≤ y ∧ y < 2147483648) : x = y := by omega
theorem own_bm64 {x y : Int} (h : (x - y) % 18446744073709551616 = 0) (r : -9223372036854775808 ≤ x ∧ x < 9223372036854775808) (s : -9223372036854775808 ≤ y ∧ y < 9223372036854775808) : x = y := by omega
theorem own_q0 (a b : Int) (h : (a - (b - 48)) % 4294967296 = 0) (r : -2147483648 ≤ a ∧ a < 2147483648) (s : -2147483648 ≤ b ∧ b < 2147483648) (c1 : ¬ a < 0) (c2 : ¬ 9 < a) : 48 ≤ b ∧ b ≤ 57 := by omega
theorem own_l48 : (48 : Int32).toInt = 48 := by decide +kernel
theorem own_l0 : (0 : Int32).toInt = 0 := by decide +kernel
theorem own_l9 : (9 : Int32).toInt = 9 := by decide +kernel
theorem own_L10 : (10 : Int64).toInt = 10 := by decide +kernel
theorem own_LM : (9223372036854775807 : Int64).toInt = 9223372036854775807 := by decide +kernel
theorem own_r48 (b : Int) (h1 : 48 ≤ b) (h2 : b ≤ 57) : -2147483648 ≤ b - 48 ∧ b - 48 < 2147483648 := by omega
theorem own_sub48 (x : Int32) (g : 48 ≤ x.toInt ∧ x.toInt ≤ 57) : (x - 48).toInt = x.toInt - 48 := by
  have d := c_isub x 48
  rw [own_l48] at d
  exact own_bm32 d (rng32 _) (own_r48 _ g.1 g.2)
/-- a byte that passes both tests is a digit -/
theorem own_isd (x : Int32) (c1 : ¬ (x - 48) < (0 : Int32)) (c2 : ¬ (9 : Int32) < (x - 48)) : 48 ≤ x.toInt ∧ x.toInt ≤ 57 := by
  rw [Int32.lt_iff_toInt_lt, own_l0] at c1
  rw [Int32.lt_iff_toInt_lt, own_l9] at c2
  have d := c_isub x 48
  rw [own_l48] at d
  exact own_q0 _ _ d (rng32 _) (rng32 _) c1 c2
theorem own_q1 (b : Int) (h1 : 48 ≤ b) (h2 : b ≤ 57) : -9223372036854775808 ≤ 9223372036854775807 - (b - 48) ∧ 9223372036854775807 - (b - 48) < 9223372036854775808 := by omega
theorem own_q2 (b : Int) (h2 : b ≤ 57) : 0 ≤ 9223372036854775807 - (b - 48) := by omega
theorem own_q3 (b : Int) (v : Nat) (h1 : 48 ≤ b) : (9223372036854775807 - (b - 48)) / 10 < (v : Int) ↔ 9223372036854775807 < v * 10 + (b - 48).toNat := by omega
theorem own_q4 (b : Int) (v : Nat) (h1 : 48 ≤ b) (h : v * 10 + (b - 48).toNat ≤ 9223372036854775807) : -9223372036854775808 ≤ (v : Int) * 10 ∧ (v : Int) * 10 < 9223372036854775808 := by omega
theorem own_q5 (b : Int) (v : Nat) (h1 : 48 ≤ b) (h : v * 10 + (b - 48).toNat ≤ 9223372036854775807) : -9223372036854775808 ≤ (v : Int) * 10 + (b - 48) ∧ (v : Int) * 10 + (b - 48) < 9223372036854775808 := by omega
theorem own_q6 (b : Int) (v : Nat) (h1 : 48 ≤ b) : (v : Int) * 10 + (b - 48) = ((v * 10 + (b - 48).toNat : Nat) : Int) := by omega
theorem own_cmp (x : Int32) (j5 : Int64) (v : Nat) (h : j5.toInt = v) (g : 48 ≤ x.toInt ∧ x.toInt ≤ 57) :
    (((9223372036854775807 : Int64) - ((x - 48).toInt64)) / (10 : Int64)) < j5 ↔ 9223372036854775807 < v * 10 + (x.toInt - 48).toNat := by
  have s := c_lsub (9223372036854775807 : Int64) ((x - 48).toInt64)
  rw [c_i2l, own_LM, own_sub48 x g] at s
  have s' := own_bm64 s (rng64 _) (own_q1 _ g.1 g.2)
  have q := (c_ldiv ((9223372036854775807 : Int64) - ((x - 48).toInt64)) 10 10 own_L10 (by decide +kernel)).1
  rw [s'] at q
  rw [Int64.lt_iff_toInt_lt, q (own_q2 _ g.2), h]
  exact own_q3 _ v g.1
theorem own_nxt (x : Int32) (j5 : Int64) (v : Nat) (h : j5.toInt = v) (g : 48 ≤ x.toInt ∧ x.toInt ≤ 57) (b : v * 10 + (x.toInt - 48).toNat ≤ 9223372036854775807) :
    (j5 * 10 + (x - 48).toInt64).toInt = ((v * 10 + (x.toInt - 48).toNat : Nat) : Int) := by
  have m := c_lmul j5 10
  rw [own_L10, h] at m
  have m' := own_bm64 m (rng64 _) (own_q4 _ v g.1 b)
  have a := c_ladd (j5 * 10) ((x - 48).toInt64)
  rw [m', c_i2l, own_sub48 x g] at a
  rw [own_bm64 a (rng64 _) (own_q5 _ v g.1 b)]
  exact own_q6 _ v g.1
theorem own_ndig (x : Int32) (g : 48 ≤ x.toInt ∧ x.toInt ≤ 57) : ¬ (x - 48) < (0 : Int32) ∧ ¬ (9 : Int32) < (x - 48) := by
  rw [Int32.lt_iff_toInt_lt, Int32.lt_iff_toInt_lt, own_l0, own_l9, own_sub48 x g]
  generalize x.toInt = X at g ⊢
  omega
theorem own_ix (i7 : Int32) (i : Nat) (h : i7.toInt = i) : i7.toNatClampNeg = i := by
  show i7.toInt.toNat = i
  rw [h]; exact Int.toNat_natCast i
theorem own_stp (i7 : Int32) (i : Nat) (h : i7.toInt = i) (b : i ≤ 1000) : (i7 + (1 : Int32)).toInt = ((i + 1 : Nat) : Int) := by
  rw [own_inc i7 (by rw [h]; omega), h]; omega
theorem own_pgood : ∀ (c k : Nat) (i1 i2 i3 i4 : Int32) (j5 : Int64) (i7 n : Int32) (A : Nat → Int32) (i v : Nat), i7.toInt = i → i2.toInt = (i : Int) + c → i + c ≤ 1000 → j5.toInt = v → c < k → own_ok A i c → own_h A i c v ≤ 9223372036854775807 →
    ∃ r : Int64, r.toInt = own_h A i c v ∧ own_f3_49 k i1 i2 i3 i4 j5 i7 n A = if i3 = (0 : Int32) then r else (-r) := by
  intro c
  induction c with
  | zero =>
    intro k i1 i2 i3 i4 j5 i7 n A i v h1 h2 h3 h4 h5 h6 h7
    obtain ⟨k, rfl⟩ : ∃ k', k = k' + 1 := ⟨k - 1, by omega⟩
    refine ⟨j5, by rw [own_h0, h4], ?_⟩
    rw [own_f3_49_s, if_neg (by rw [Int32.lt_iff_toInt_lt, h1, h2]; omega)]
  | succ c ih =>
    intro k i1 i2 i3 i4 j5 i7 n A i v h1 h2 h3 h4 h5 h6 h7
    obtain ⟨k, rfl⟩ : ∃ k', k = k' + 1 := ⟨k - 1, by omega⟩
    have g := h6 i (Nat.le_refl _) (by omega)
    rw [own_f3_49_s, if_pos (by rw [Int32.lt_iff_toInt_lt, h1, h2]; omega), own_ix i7 i h1]
    rw [own_hs] at h7 ⊢
    have b := Nat.le_trans (own_h_ge A c (i + 1) (v * 10 + ((A i).toInt - 48).toNat)) h7
    have nd := own_ndig (A i) g
    rw [if_neg nd.1, if_neg nd.2, if_neg (fun z => Nat.not_lt.mpr b ((own_cmp (A i) j5 v h4 g).mp z))]
    exact ih k i1 i2 i3 i4 _ _ n A (i + 1) (v * 10 + ((A i).toInt - 48).toNat) (own_stp i7 i h1 (by omega)) (by rw [h2]; omega) (by omega) (own_nxt (A i) j5 v h4 g b) (by omega) (fun j p1 p2 => h6 j (by omega) (by omega)) h7
theorem own_pbad : ∀ (c k : Nat) (i1 i2 i3 i4 : Int32) (j5 : Int64) (i7 n : Int32) (A : Nat → Int32) (i v : Nat), i7.toInt = i → i2.toInt = (i : Int) + c → i + c ≤ 1000 → j5.toInt = v → c < k → ¬ (own_ok A i c ∧ own_h A i c v ≤ 9223372036854775807) →
    own_f3_49 k i1 i2 i3 i4 j5 i7 n A = (-9223372036854775808 : Int64) := by
  intro c
  induction c with
  | zero =>
    intro k i1 i2 i3 i4 j5 i7 n A i v h1 h2 h3 h4 h5 h6
    have r := rng64 j5
    rw [h4] at r
    exact absurd ⟨fun j p1 p2 => absurd p2 (by omega), by rw [own_h0]; omega⟩ h6
  | succ c ih =>
    intro k i1 i2 i3 i4 j5 i7 n A i v h1 h2 h3 h4 h5 h6
    obtain ⟨k, rfl⟩ : ∃ k', k = k' + 1 := ⟨k - 1, by omega⟩
    rw [own_f3_49_s, if_pos (by rw [Int32.lt_iff_toInt_lt, h1, h2]; omega), own_ix i7 i h1]
    by_cases c1 : (A i - 48) < (0 : Int32)
    · rw [if_pos c1]
    rw [if_neg c1]
    by_cases c2 : (9 : Int32) < (A i - 48)
    · rw [if_pos c2]
    rw [if_neg c2]
    have g := own_isd (A i) c1 c2
    by_cases c3 : (((9223372036854775807 : Int64) - ((A i - 48).toInt64)) / (10 : Int64)) < j5
    · rw [if_pos c3]
    rw [if_neg c3]
    have b := Nat.not_lt.mp (fun z => c3 ((own_cmp (A i) j5 v h4 g).mpr z))
    refine ih k i1 i2 i3 i4 _ _ n A (i + 1) (v * 10 + ((A i).toInt - 48).toNat) (own_stp i7 i h1 (by omega)) (by rw [h2]; omega) (by omega) (own_nxt (A i) j5 v h4 g b) (by omega) fun z => h6 ⟨fun j p1 p2 => ?_, by rw [own_hs]; exact z.2⟩
    by_cases hj : j = i
    · rw [hj]; exact g
    · exact z.1 j (by omega) (by omega)
theorem own_q7 (X j s x u : Int) (m : Nat) (hm : m < 10) (hX : (X - (48 - j)) % 18446744073709551616 = 0) (rX : -9223372036854775808 ≤ X ∧ X < 9223372036854775808) (hj : j = -(m : Int)) (hs : (s - X) % 4294967296 = 0) (rs : -2147483648 ≤ s ∧ s < 2147483648) (hx : (x - s) % 256 = 0 ∧ -128 ≤ x ∧ x < 128) (hu : (u - x) % 256 = 0 ∧ -128 ≤ u ∧ u < 128) : u = 48 + (m : Int) := by
  obtain ⟨x0, x1, x2⟩ := hx
  obtain ⟨u0, u1, u2⟩ := hu
  have a : X = 48 + (m : Int) := by omega
  have b : s = 48 + (m : Int) := by omega
  have c : x = 48 + (m : Int) := by omega
  omega
theorem own_ofN (x : Nat) : (Int32.ofNat (48 + x % 10)).toInt = 48 + ((x % 10 : Nat) : Int) := by
  have h : 48 + x % 10 < 2147483648 := by omega
  rw [Int32.toInt_ofNat_small h]
  omega
theorem own_q8 (z : Int) (h : z < 0) : -((-z) % 10) = -((z.natAbs % 10 : Nat) : Int) := by omega
theorem own_q9 (z : Int) (h : 0 ≤ z) (h' : z ≤ 0) : z % 10 = -((z.natAbs % 10 : Nat) : Int) := by omega
theorem own_dig (j4 : Int64) (h : j4.toInt ≤ 0) : (((((48 : Int64) - (j4 - (j4 / (10 : Int64)) * (10 : Int64))).toInt32).toInt8.toInt32).toInt8.toInt32) = Int32.ofNat (48 + j4.toInt.natAbs % 10) := by
  have l48 : (48 : Int64).toInt = 48 := by decide +kernel
  have q := c_lrem j4 10 10 own_L10
  have e : (j4 - (j4 / (10 : Int64)) * (10 : Int64)).toInt = -((j4.toInt.natAbs % 10 : Nat) : Int) := by
    by_cases z : 0 ≤ j4.toInt
    · rw [q.1 z]; exact own_q9 _ z h
    · rw [q.2 (Int.not_le.mp z)]; exact own_q8 _ (Int.not_le.mp z)
  generalize (j4 - (j4 / (10 : Int64)) * (10 : Int64)) = J at e ⊢
  have s := c_lsub (48 : Int64) J
  rw [l48] at s
  apply Int32.toInt_inj.mp
  rw [own_ofN]
  exact own_q7 _ _ _ _ _ _ (Nat.mod_lt _ (by decide +kernel)) s (rng64 _) e (c_l2i _) (rng32 _) (c_i2b _) (c_i2b _)
theorem own_tdiv (j4 : Int64) (m : Nat) (h : j4.toInt = -(m : Int)) : (j4 / (10 : Int64)).toInt = -((m / 10 : Nat) : Int) := by
  have l : (10 : Int64).toInt = 10 := by decide +kernel
  have d := c_ldiv j4 10 10 l (by decide +kernel)
  by_cases z : 0 ≤ j4.toInt
  · rw [d.1 z]; omega
  · rw [d.2 (by omega)]; omega
theorem own_fe {i3 : Int32} {t : Nat} (h1 : i3.toInt = t) (h4 : 2 ≤ t) : (i3 + (-1 : Int32)).toInt = ((t - 1 : Nat) : Int) ∧ (i3 + (-1 : Int32)).toNatClampNeg = t - 1 := by
  have a : (i3 + (-1 : Int32)).toInt = ((t - 1 : Nat) : Int) := by
    rw [own_neg1 i3 (by rw [h1]; omega), h1]
    omega
  exact ⟨a, own_ix _ _ a⟩
theorem own_fe2 {i3 : Int32} {t : Nat} (h1 : i3.toInt = t) (h4 : 2 ≤ t) : ((i3 + (-1 : Int32)) + (-1 : Int32)).toInt = ((t - 2 : Nat) : Int) ∧ ((i3 + (-1 : Int32)) + (-1 : Int32)).toNatClampNeg = t - 2 := by
  have b := (own_fe h1 h4).1
  have a : ((i3 + (-1 : Int32)) + (-1 : Int32)).toInt = ((t - 2 : Nat) : Int) := by
    rw [own_neg1 (i3 + (-1 : Int32)) (by rw [b]; omega), b]
    omega
  exact ⟨a, own_ix _ _ a⟩
theorem own_np (m : Nat) : -(m : Int) ≤ 0 := by omega
theorem own_mz {m : Nat} (h : (0 : Int) = -((m / 10 : Nat) : Int)) : m < 10 := by omega
theorem own_pa {m d : Nat} (h : m / 10 < 10 ^ d) : m < 10 ^ (d + 1) := by
  rw [Nat.pow_succ]
  generalize (10 : Nat) ^ d = P at h ⊢
  omega
theorem own_pb {m d : Nat} (h1 : 1 ≤ d) (h : 10 ^ (d - 1) ≤ m / 10) : 10 ^ (d + 1 - 1) ≤ m := by
  have e : d + 1 - 1 = (d - 1) + 1 := by omega
  rw [e, Nat.pow_succ]
  generalize (10 : Nat) ^ (d - 1) = P at h ⊢
  omega
theorem own_fmt : ∀ (k : Nat) (j0 : Int64) (i3 : Int32) (j4 : Int64) (n : Int32) (A : Nat → Int32) (t m : Nat), i3.toInt = t → j4.toInt = -(m : Int) → m < k → 2 ≤ t → m < 10 ^ (t - 1) →
    ∃ d : Nat, 1 ≤ d ∧ d + 1 ≤ t ∧ m < 10 ^ d ∧ (m ≠ 0 → 10 ^ (d - 1) ≤ m) ∧ (m = 0 → d = 1) ∧
      (own_f1_17 k j0 i3 j4 n A).toInt = (if j0 < (0 : Int64) then (t : Int) - d - 1 else (t : Int) - d) ∧
      (∀ j, t - d ≤ j → j < t → own_o1_A_17 k j0 i3 j4 n A j = Int32.ofNat (48 + m / 10 ^ (t - 1 - j) % 10)) ∧
      (j0 < (0 : Int64) → own_o1_A_17 k j0 i3 j4 n A (t - d - 1) = 45) ∧
      (∀ j, (j + 1 < t - d ∨ t ≤ j ∨ (¬ j0 < (0 : Int64) ∧ j < t - d)) → own_o1_A_17 k j0 i3 j4 n A j = A j) := by
  intro k
  induction k with
  | zero => intro j0 i3 j4 n A t m h1 h2 h3; exact absurd h3 (Nat.not_lt_zero _)
  | succ k ih =>
    intro j0 i3 j4 n A t m h1 h2 h3 h4 h5
    have l0 : (0 : Int64).toInt = 0 := by decide +kernel
    obtain ⟨E1, x1⟩ := own_fe h1 h4
    obtain ⟨E2, x2⟩ := own_fe2 h1 h4
    have dg := own_dig j4 (by rw [h2]; exact own_np m)
    have nm : j4.toInt.natAbs = m := by rw [h2, Int.natAbs_neg, Int.natAbs_natCast]
    rw [nm] at dg
    have td := own_tdiv j4 m h2
    rw [own_f1_17_s, own_o1_A_17_s, x1, x2, dg]
    clear dg x1 x2
    by_cases hz : (j4 / (10 : Int64)) = (0 : Int64)
    · have hm : m < 10 := by rw [hz, l0] at td; exact own_mz td
      rw [if_pos hz, if_pos hz]
      clear td nm h1 h2 h5 l0 ih hz
      refine ⟨1, Nat.le_refl 1, h4, by rw [Nat.pow_one]; exact hm, fun q => ?_, fun _ => rfl, ?_, ?_, ?_, ?_⟩
      · show 10 ^ 0 ≤ m
        rw [Nat.pow_zero]
        exact Nat.pos_of_ne_zero q
      · by_cases hj : j0 < (0 : Int64)
        · rw [if_pos hj, if_pos hj, E2]; clear E1 E2; omega
        · rw [if_neg hj, if_neg hj, E1]; clear E1 E2; omega
      · clear E1 E2
        intro j p1 p2
        obtain rfl : j = t - 1 := by omega
        rw [Nat.sub_self, Nat.pow_zero, Nat.div_one]
        by_cases hj : j0 < (0 : Int64)
        · rw [if_pos hj, own_up_miss _ _ _ (by omega), own_up_hit]
        · rw [if_neg hj, own_up_hit]
      · clear E1 E2
        intro hj
        have e : t - 1 - 1 = t - 2 := by omega
        rw [if_pos hj, e, own_up_hit]
        decide +kernel
      · clear E1 E2
        intro j p
        by_cases hj : j0 < (0 : Int64)
        · have p' : j + 1 < t - 1 ∨ t ≤ j := by
            rcases p with p | p | p
            · exact Or.inl p
            · exact Or.inr p
            · exact absurd hj p.1
          clear p
          rw [if_pos hj, own_up_miss _ _ _ (by omega), own_up_miss _ _ _ (by omega)]
        · have p' : ¬ j = t - 1 := by
            rcases p with p | p | p
            · omega
            · omega
            · have := p.2; omega
          rw [if_neg hj, own_up_miss _ _ _ p']
    · rw [if_neg hz, if_neg hz]
      have hm : 10 ≤ m := by rw [← nm]; exact own_div0 hz
      have pw := own_pw m t h5 hm h4
      clear h1 h2 h5 nm E2 l0 hz
      have t3 := pw.1
      have k1 : m / 10 < k := by clear ih pw E1 td; omega
      have k2 : 2 ≤ t - 1 := by clear ih pw E1 td; omega
      obtain ⟨d, d1, d2, d3, d4, d5, d6, d7, d8, d9⟩ := ih j0 (i3 + (-1 : Int32)) (j4 / (10 : Int64)) n (own_up A (t - 1) (Int32.ofNat (48 + m % 10))) (t - 1) (m / 10) E1 td k1 k2 pw.2
      have m0 : m / 10 ≠ 0 := by clear ih pw E1 td d1 d2 d3 d4 d5 d6 d7 d8 d9; omega
      have p3 := own_pa d3
      have p4 := own_pb d1 (d4 m0)
      clear ih pw E1 td d3 d4 d5
      refine ⟨d + 1, Nat.le_add_left 1 d, ?_, p3, fun _ => p4, ?_, ?_, ?_, ?_, ?_⟩
      · clear p3 p4 d6 d7 d8 d9; omega
      · clear p3 p4 d6 d7 d8 d9; omega
      · rw [d6]
        clear p3 p4 d6 d7 d8 d9
        by_cases hj : j0 < (0 : Int64)
        · rw [if_pos hj, if_pos hj]; omega
        · rw [if_neg hj, if_neg hj]; omega
      · clear p3 p4 d6 d8
        intro j p1 p2
        by_cases hj : j = t - 1
        · subst hj
          have f : (t - 1) + 1 < t - 1 - d ∨ t - 1 ≤ t - 1 ∨ (¬ j0 < (0 : Int64) ∧ t - 1 < t - 1 - d) := Or.inr (Or.inl (Nat.le_refl _))
          rw [d9 _ f, own_up_hit, Nat.sub_self, Nat.pow_zero, Nat.div_one]
        · have f1 : t - 1 - d ≤ j := by clear d7 d9; omega
          have f2 : j < t - 1 := by clear d7 d9; omega
          have f3 : t - 1 - j = (t - 1 - 1 - j) + 1 := by clear d7 d9; omega
          rw [d7 j f1 f2]
          have u : m / 10 / 10 ^ (t - 1 - 1 - j) = m / 10 ^ (t - 1 - j) := by
            rw [Nat.div_div_eq_div_mul, f3, Nat.pow_succ, Nat.mul_comm]
          rw [u]
      · intro hj
        have e : t - (d + 1) - 1 = t - 1 - d - 1 := by clear p3 p4 d6 d7 d8 d9; omega
        rw [e]
        exact d8 hj
      · clear p3 p4 d6 d7 d8
        intro j p
        have e : t - (d + 1) = t - 1 - d := by clear d9; omega
        rw [e] at p
        have f : j + 1 < t - 1 - d ∨ t - 1 ≤ j ∨ (¬ j0 < (0 : Int64) ∧ j < t - 1 - d) := by
          rcases p with p | p | p
          · exact Or.inl p
          · exact Or.inr (Or.inl (Nat.le_trans (Nat.sub_le _ _) p))
          · exact Or.inr (Or.inr p)
        have g : ¬ j = t - 1 := by
          clear d9 f
          rcases p with p | p | p
          · omega
          · omega
          · have := p.2; omega
        rw [d9 j f, own_up_miss _ _ _ g]
theorem own_fmt0 (j0 : Int64) (n : Int32) (A : Nat → Int32) (t : Nat) (hn : n.toInt = t) (ht : 20 ≤ t) :
    ∃ d : Nat, 1 ≤ d ∧ d + 1 ≤ t ∧ j0.toInt.natAbs < 10 ^ d ∧ (j0.toInt.natAbs ≠ 0 → 10 ^ (d - 1) ≤ j0.toInt.natAbs) ∧ (j0.toInt.natAbs = 0 → d = 1) ∧
      (own_f1_0 j0 n A).toInt = (if j0 < (0 : Int64) then (t : Int) - d - 1 else (t : Int) - d) ∧
      (∀ j, t - d ≤ j → j < t → own_o1_A j0 n A j = Int32.ofNat (48 + j0.toInt.natAbs / 10 ^ (t - 1 - j) % 10)) ∧
      (j0 < (0 : Int64) → own_o1_A j0 n A (t - d - 1) = 45) ∧
      (∀ j, (j + 1 < t - d ∨ t ≤ j ∨ (¬ j0 < (0 : Int64) ∧ j < t - d)) → own_o1_A j0 n A j = A j) := by
  have l0 : (0 : Int64).toInt = 0 := by decide +kernel
  have r := rng64 j0
  have p : (10 : Nat) ^ 19 ≤ 10 ^ (t - 1) := Nat.pow_le_pow_right (by decide +kernel) (by omega)
  have q : (10 : Nat) ^ 19 = 10000000000000000000 := by decide +kernel
  unfold own_f1_0 own_o1_A
  by_cases hj : j0 < (0 : Int64)
  · rw [if_pos hj, if_pos hj]
    have hj' := hj
    rw [Int64.lt_iff_toInt_lt, l0] at hj'
    exact own_fmt _ j0 n j0 n A t j0.toInt.natAbs hn (by omega) (Nat.lt_succ_self _) (by omega) (by omega)
  · rw [if_neg hj, if_neg hj]
    have hj' := hj
    rw [Int64.lt_iff_toInt_lt, l0] at hj'
    have g := c_lneg j0
    have gr := rng64 (-j0)
    have e : (-j0).toInt = -(j0.toInt.natAbs : Int) := by omega
    exact own_fmt _ j0 n (-j0) n A t j0.toInt.natAbs hn e (by omega) (by omega) (by omega)
theorem own_ptop_neg (i1 i2 n : Int32) (A : Nat → Int32) (i c : Nat) (h1 : i1.toInt = i) (h2 : i2.toInt = (i : Int) + 1 + c) (hc : 1 ≤ c) (h3 : i + 1 + c ≤ 1000) (hA : A i = 45) (ok : own_ok A (i + 1) c) (hle : own_h A (i + 1) c 0 ≤ 9223372036854775807) :
    (own_f3_0 i1 i2 n A).toInt = -(own_h A (i + 1) c 0 : Int) := by
  have ei : i1.toNatClampNeg = i := by show i1.toInt.toNat = i; omega
  have e1 := own_inc i1 (by omega)
  unfold own_f3_0
  rw [if_pos (by rw [Int32.lt_iff_toInt_lt]; omega), ei, if_pos hA]
  unfold own_f3_18
  rw [if_neg (by decide +kernel)]
  unfold own_f3_30
  rw [if_neg (fun z => by rw [z] at e1; omega)]
  obtain ⟨r, r1, r2⟩ := own_pgood c _ i1 i2 1 (i1 + 1) 0 (i1 + 1) n A (i + 1) 0 (by omega) (by omega) (by omega) (by decide +kernel) (by omega : c < (i2.toInt - (i1 + (1 : Int32)).toInt).toNat + 1) ok hle
  rw [r2, if_neg (by decide +kernel)]
  have g := c_lneg r
  have gr := rng64 (-r)
  omega
theorem own_ptop_pos (i1 i2 n : Int32) (A : Nat → Int32) (i c : Nat) (h1 : i1.toInt = i) (h2 : i2.toInt = (i : Int) + c) (hc : 1 ≤ c) (h3 : i + c ≤ 1000) (hA : ¬ A i = 45) (ok : own_ok A i c) (hle : own_h A i c 0 ≤ 9223372036854775807) :
    (own_f3_0 i1 i2 n A).toInt = (own_h A i c 0 : Int) := by
  have ei : i1.toNatClampNeg = i := by show i1.toInt.toNat = i; omega
  unfold own_f3_0
  rw [if_pos (by rw [Int32.lt_iff_toInt_lt]; omega), ei, if_neg hA]
  unfold own_f3_17 own_f3_18
  rw [if_pos rfl]
  unfold own_f3_30
  rw [if_neg (fun z => by rw [z] at h1; omega)]
  obtain ⟨r, r1, r2⟩ := own_pgood c _ i1 i2 0 i1 0 i1 n A i 0 (by omega) (by omega) (by omega) (by decide +kernel) (by omega : c < (i2.toInt - i1.toInt).toNat + 1) ok hle
  rw [r2, if_pos rfl]
  omega
theorem own_d19 {d m : Nat} (h : m ≤ 9223372036854775808) (h5 : m = 0 → d = 1) (h4 : m ≠ 0 → 10 ^ (d - 1) ≤ m) : d ≤ 19 := by
  by_cases z : m = 0
  · rw [h5 z]; decide +kernel
  · refine Nat.le_of_not_lt fun q => ?_
    have a : (10 : Nat) ^ 19 ≤ 10 ^ (d - 1) := Nat.pow_le_pow_right (by decide +kernel) (by omega)
    have b : (10 : Nat) ^ 19 = 10000000000000000000 := by decide +kernel
    have := h4 z
    omega
theorem own_fb (j0 : Int64) : 4 ≤ (own_f1_0 j0 (24 : Int32) (fun _ => 0)).toInt ∧ (own_f1_0 j0 (24 : Int32) (fun _ => 0)).toInt ≤ 23 := by
  have l24 : (24 : Int32).toInt = ((24 : Nat) : Int) := by decide +kernel
  obtain ⟨d, d1, d2, d3, d4, d5, d6, -⟩ := own_fmt0 j0 24 (fun _ => 0) 24 l24 (by decide +kernel)
  have r := rng64 j0
  have q := own_d19 (by omega) d5 d4
  rw [d6]
  by_cases hj : j0 < (0 : Int64)
  · rw [if_pos hj]; omega
  · rw [if_neg hj]; omega
theorem pn_0 : plainName "com/example/rollcalldb/rollcalldb/resp/DecimalParsePinLaw" = true := by first | (simp [plainName, overriddenIn]; done) | decide +kernel
theorem pd_0_0 : parseMethodDescriptor "(J[B)I" = some ⟨[.long, (.array .byte)], some .int⟩ := by decide +kernel
theorem pd_0_1 : parseMethodDescriptor "(J)J" = some ⟨[.long], some .long⟩ := by decide +kernel
theorem pd_0_2 : parseMethodDescriptor "([BII)J" = some ⟨[(.array .byte), .int, .int], some .long⟩ := by decide +kernel
theorem ef_0 (m : MethodId) (j0 : Int64) (i2 : Int32) (i3 : Int32) (i4 : Int32) : entryFrame m #[(.long j0), (.int i2), (.int i3), (.int i4)] maxLocals = mkF m 0 #[.val (.long j0), .second, .val (.int i2), .val (.int i3), .val (.int i4), .unset, .unset, .unset, .unset, .unset, .unset, .unset, .unset, .unset, .unset, .unset, .unset, .unset, .unset, .unset, .unset, .unset, .unset, .unset, .unset, .unset] [] := by first | (simp [entryFrame, mkF, argsToLocals, Value.category, maxLocals]; done) | rfl
def own_f0_433 (j0 : Int64) (i2 : Int32) (i3 : Int32) (i4 : Int32) (j5 : Int64) (i8 : Int32) (i9 : Int32) (j10 : Int64) (i12 : Int32) (i13 : Int32) (i14 : Int32) (i15 : Int32) (i16 : Int32) (i17 : Int32) (i18 : Int32) (i19 : Int32) (j20 : Int64) (n_a7 : Int32) (A_a7 : Nat → Int32) : Int32 :=
  (if (own_f3_0 i18 i19 n_a7 A_a7) = j20 then (1 : Int32) else (0 : Int32))
def own_f0_424 (j0 : Int64) (i2 : Int32) (i3 : Int32) (i4 : Int32) (j5 : Int64) (i8 : Int32) (i9 : Int32) (j10 : Int64) (i12 : Int32) (i13 : Int32) (i14 : Int32) (i15 : Int32) (i16 : Int32) (i17 : Int32) (i18 : Int32) (i19 : Int32) (i22 : Int32) (i23 : Int32) (j24 : Int64) (v0 : Int64) (n_a7 : Int32) (A_a7 : Nat → Int32) : Int32 :=
  (own_f0_433 j0 i2 i3 i4 j5 i8 i9 j10 i12 i13 i14 i15 i16 i17 i18 i19 v0 n_a7 A_a7)
def own_f0_399 (j0 : Int64) (i2 : Int32) (i3 : Int32) (i4 : Int32) (j5 : Int64) (i8 : Int32) (i9 : Int32) (j10 : Int64) (i12 : Int32) (i13 : Int32) (i14 : Int32) (i15 : Int32) (i16 : Int32) (i17 : Int32) (i18 : Int32) (i19 : Int32) (i22 : Int32) (i23 : Int32) (n_a7 : Int32) (A_a7 : Nat → Int32) : Int32 :=
  (if i9 = (0 : Int32) then (own_f0_424 j0 i2 i3 i4 j5 i8 i9 j10 i12 i13 i14 i15 i16 i17 i18 i19 i22 i23 ((j10 * (10 : Int64)) + (i23.toInt64)) ((j10 * (10 : Int64)) + (i23.toInt64)) n_a7 A_a7) else (own_f0_424 j0 i2 i3 i4 j5 i8 i9 j10 i12 i13 i14 i15 i16 i17 i18 i19 i22 i23 ((j10 * (10 : Int64)) + (i23.toInt64)) (-((j10 * (10 : Int64)) + (i23.toInt64))) n_a7 A_a7))
def own_f0_369 (j0 : Int64) (i2 : Int32) (i3 : Int32) (i4 : Int32) (j5 : Int64) (i8 : Int32) (i9 : Int32) (j10 : Int64) (i12 : Int32) (i13 : Int32) (i14 : Int32) (i15 : Int32) (i16 : Int32) (i17 : Int32) (i18 : Int32) (i19 : Int32) (i22 : Int32) (n_a7 : Int32) (A_a7 : Nat → Int32) : Int32 :=
  (own_f0_433 j0 i2 i3 i4 j5 i8 i9 j10 i12 i13 i14 i15 i16 i17 i18 i19 j5 n_a7 A_a7)
def own_f0_334 (j0 : Int64) (i2 : Int32) (i3 : Int32) (i4 : Int32) (j5 : Int64) (i8 : Int32) (i9 : Int32) (j10 : Int64) (i12 : Int32) (i13 : Int32) (i14 : Int32) (i15 : Int32) (i16 : Int32) (i17 : Int32) (i18 : Int32) (i19 : Int32) (v0 : Int64) (n_a7 : Int32) (A_a7 : Nat → Int32) : Int32 :=
  (own_f0_433 j0 i2 i3 i4 j5 i8 i9 j10 i12 i13 i14 i15 i16 i17 i18 i19 v0 n_a7 A_a7)
def own_f0_321 (j0 : Int64) (i2 : Int32) (i3 : Int32) (i4 : Int32) (j5 : Int64) (i8 : Int32) (i9 : Int32) (j10 : Int64) (i12 : Int32) (i13 : Int32) (i14 : Int32) (i15 : Int32) (i16 : Int32) (i17 : Int32) (i18 : Int32) (i19 : Int32) (n_a7 : Int32) (A_a7 : Nat → Int32) : Int32 :=
  (if i9 = (0 : Int32) then (own_f0_334 j0 i2 i3 i4 j5 i8 i9 j10 i12 i13 i14 i15 i16 i17 i18 i19 j10 n_a7 A_a7) else (own_f0_334 j0 i2 i3 i4 j5 i8 i9 j10 i12 i13 i14 i15 i16 i17 i18 i19 (-j10) n_a7 A_a7))
def own_f0_285 (j0 : Int64) (i2 : Int32) (i3 : Int32) (i4 : Int32) (j5 : Int64) (i8 : Int32) (i9 : Int32) (j10 : Int64) (i12 : Int32) (i13 : Int32) (i14 : Int32) (i15 : Int32) (i16 : Int32) (i17 : Int32) (i18 : Int32) (i19 : Int32) (n_a7 : Int32) (A_a7 : Nat → Int32) : Int32 :=
  (if i13 < (2 : Int32) then (if i13 = (1 : Int32) then (if j10 = (0 : Int64) then (if i12 = (0 : Int32) then (own_f0_334 j0 i2 i3 i4 j5 i8 i9 j10 i12 i13 i14 i15 i16 i17 i18 i19 j5 n_a7 A_a7) else (own_f0_321 j0 i2 i3 i4 j5 i8 i9 j10 i12 i13 i14 i15 i16 i17 i18 i19 n_a7 A_a7)) else (own_f0_321 j0 i2 i3 i4 j5 i8 i9 j10 i12 i13 i14 i15 i16 i17 i18 i19 n_a7 A_a7)) else (if i17 = (0 : Int32) then (if (i2.toInt8.toInt32) < (48 : Int32) then (own_f0_369 j0 i2 i3 i4 j5 i8 i9 j10 i12 i13 i14 i15 i16 i17 i18 i19 (i2.toInt8.toInt32) n_a7 A_a7) else (if (57 : Int32) < (i2.toInt8.toInt32) then (own_f0_369 j0 i2 i3 i4 j5 i8 i9 j10 i12 i13 i14 i15 i16 i17 i18 i19 (i2.toInt8.toInt32) n_a7 A_a7) else (if j10 < (922337203685477580 : Int64) then (own_f0_399 j0 i2 i3 i4 j5 i8 i9 j10 i12 i13 i14 i15 i16 i17 i18 i19 (i2.toInt8.toInt32) ((i2.toInt8.toInt32) - (48 : Int32)) n_a7 A_a7) else (if (7 : Int32) < ((i2.toInt8.toInt32) - (48 : Int32)) then (own_f0_433 j0 i2 i3 i4 j5 i8 i9 j10 i12 i13 i14 i15 i16 i17 i18 i19 j5 n_a7 A_a7) else (own_f0_399 j0 i2 i3 i4 j5 i8 i9 j10 i12 i13 i14 i15 i16 i17 i18 i19 (i2.toInt8.toInt32) ((i2.toInt8.toInt32) - (48 : Int32)) n_a7 A_a7))))) else (own_f0_433 j0 i2 i3 i4 j5 i8 i9 j10 i12 i13 i14 i15 i16 i17 i18 i19 j5 n_a7 A_a7))) else (own_f0_433 j0 i2 i3 i4 j5 i8 i9 j10 i12 i13 i14 i15 i16 i17 i18 i19 j5 n_a7 A_a7))
def own_f0_220 (j0 : Int64) (i2 : Int32) (i3 : Int32) (i4 : Int32) (j5 : Int64) (i8 : Int32) (i9 : Int32) (j10 : Int64) (i12 : Int32) (i13 : Int32) (i14 : Int32) (i15 : Int32) (i16 : Int32) (i17 : Int32) (n_a7 : Int32) (A_a7 : Nat → Int32) : Int32 :=
  (if i13 = (1 : Int32) then (own_f0_285 j0 i2 i3 i4 j5 i8 i9 j10 i12 i13 i14 i15 i16 i17 i15 (23 : Int32) n_a7 (own_up (own_up A_a7 (23 : Int32).toNatClampNeg ((i2.toInt8.toInt32).toInt8.toInt32)) (i15 - (1 : Int32)).toNatClampNeg ((i4.toInt8.toInt32).toInt8.toInt32))) else (if i13 = (2 : Int32) then (own_f0_285 j0 i2 i3 i4 j5 i8 i9 j10 i12 i13 i14 i15 i16 i17 i15 i15 n_a7 (own_up (own_up A_a7 (23 : Int32).toNatClampNeg ((i2.toInt8.toInt32).toInt8.toInt32)) (i15 - (1 : Int32)).toNatClampNeg ((i4.toInt8.toInt32).toInt8.toInt32))) else (if i13 = (3 : Int32) then (own_f0_285 j0 i2 i3 i4 j5 i8 i9 j10 i12 i13 i14 i15 i16 i17 (24 : Int32) (24 : Int32) n_a7 (own_up (own_up A_a7 (23 : Int32).toNatClampNeg ((i2.toInt8.toInt32).toInt8.toInt32)) (i15 - (1 : Int32)).toNatClampNeg ((i4.toInt8.toInt32).toInt8.toInt32))) else (own_f0_285 j0 i2 i3 i4 j5 i8 i9 j10 i12 i13 i14 i15 i16 i17 i15 (24 : Int32) n_a7 (own_up (own_up A_a7 (23 : Int32).toNatClampNeg ((i2.toInt8.toInt32).toInt8.toInt32)) (i15 - (1 : Int32)).toNatClampNeg ((i4.toInt8.toInt32).toInt8.toInt32))))))
def own_f0_213 (j0 : Int64) (i2 : Int32) (i3 : Int32) (i4 : Int32) (j5 : Int64) (i8 : Int32) (i9 : Int32) (j10 : Int64) (i12 : Int32) (i13 : Int32) (i14 : Int32) (i15 : Int32) (i16 : Int32) (i17 : Int32) (u0 : Int32) (n_a7 : Int32) (A_a7 : Nat → Int32) : Int32 :=
  (own_f0_220 j0 i2 i3 i4 j5 i8 i9 j10 i12 i13 i14 i15 i16 i17 n_a7 (own_up A_a7 u0.toNatClampNeg ((((48 : Int32) + i14).toInt8.toInt32).toInt8.toInt32)))
def own_f0_190 (j0 : Int64) (i2 : Int32) (i3 : Int32) (i4 : Int32) (j5 : Int64) (i8 : Int32) (i9 : Int32) (j10 : Int64) (i12 : Int32) (i13 : Int32) (i14 : Int32) (i15 : Int32) (i16 : Int32) (u0 : Int32) (n_a7 : Int32) (A_a7 : Nat → Int32) : Int32 :=
  (if u0 = (0 : Int32) then (own_f0_220 j0 i2 i3 i4 j5 i8 i9 j10 i12 i13 i14 i15 i16 u0 n_a7 A_a7) else (if i9 = (0 : Int32) then (own_f0_213 j0 i2 i3 i4 j5 i8 i9 j10 i12 i13 i14 i15 i16 u0 i15 n_a7 A_a7) else (own_f0_213 j0 i2 i3 i4 j5 i8 i9 j10 i12 i13 i14 i15 i16 u0 (i15 + (1 : Int32)) n_a7 A_a7)))
def own_f0_189 (j0 : Int64) (i2 : Int32) (i3 : Int32) (i4 : Int32) (j5 : Int64) (i8 : Int32) (i9 : Int32) (j10 : Int64) (i12 : Int32) (i13 : Int32) (i14 : Int32) (i15 : Int32) (i16 : Int32) (n_a7 : Int32) (A_a7 : Nat → Int32) : Int32 :=
  (own_f0_190 j0 i2 i3 i4 j5 i8 i9 j10 i12 i13 i14 i15 i16 (0 : Int32) n_a7 A_a7)
def own_f0_155 (j0 : Int64) (i2 : Int32) (i3 : Int32) (i4 : Int32) (j5 : Int64) (i8 : Int32) (i9 : Int32) (j10 : Int64) (i12 : Int32) (i13 : Int32) (i14 : Int32) (i15 : Int32) (u0 : Int32) (n_a7 : Int32) (A_a7 : Nat → Int32) : Int32 :=
  (if i13 = (0 : Int32) then (if (0 : Int32) < i12 then (if i14 < (1 : Int32) then (own_f0_189 j0 i2 i3 i4 j5 i8 i9 j10 i12 i13 i14 i15 u0 n_a7 A_a7) else (if (9 : Int32) < i14 then (own_f0_189 j0 i2 i3 i4 j5 i8 i9 j10 i12 i13 i14 i15 u0 n_a7 A_a7) else (if u0 = (0 : Int32) then (own_f0_189 j0 i2 i3 i4 j5 i8 i9 j10 i12 i13 i14 i15 u0 n_a7 A_a7) else (own_f0_190 j0 i2 i3 i4 j5 i8 i9 j10 i12 i13 i14 i15 u0 (1 : Int32) n_a7 A_a7)))) else (own_f0_189 j0 i2 i3 i4 j5 i8 i9 j10 i12 i13 i14 i15 u0 n_a7 A_a7)) else (own_f0_189 j0 i2 i3 i4 j5 i8 i9 j10 i12 i13 i14 i15 u0 n_a7 A_a7))
def own_f0_134 (j0 : Int64) (i2 : Int32) (i3 : Int32) (i4 : Int32) (j5 : Int64) (i8 : Int32) (i9 : Int32) (j10 : Int64) (i12 : Int32) (i13 : Int32) (i14 : Int32) (n_a7 : Int32) (A_a7 : Nat → Int32) : Int32 :=
  (if j10 < (100000000000000000 : Int64) then (own_f0_155 j0 i2 i3 i4 j5 i8 i9 j10 i12 i13 i14 (i8 - i12) (0 : Int32) n_a7 A_a7) else (own_f0_155 j0 i2 i3 i4 j5 i8 i9 j10 i12 i13 i14 (i8 - i12) (1 : Int32) n_a7 A_a7))
def own_f0_107 (j0 : Int64) (i2 : Int32) (i3 : Int32) (i4 : Int32) (j5 : Int64) (i8 : Int32) (i9 : Int32) (j10 : Int64) (i12 : Int32) (i13 : Int32) (i14 : Int32) (n_a7 : Int32) (A_a7 : Nat → Int32) : Int32 :=
  (if i9 = (0 : Int32) then (own_f0_134 j0 i2 i3 i4 j5 i8 i9 j10 i12 i13 i14 n_a7 A_a7) else (if (0 : Int32) < i12 then (own_f0_134 j0 i2 i3 i4 j5 i8 i9 j10 i12 i13 i14 n_a7 (own_up (own_up A_a7 i8.toNatClampNeg ((48 : Int32).toInt8.toInt32)) (i8 - i12).toNatClampNeg ((45 : Int32).toInt8.toInt32))) else (own_f0_134 j0 i2 i3 i4 j5 i8 i9 j10 i12 i13 i14 n_a7 A_a7)))
def own_f0_92 (j0 : Int64) (i2 : Int32) (i3 : Int32) (i4 : Int32) (j5 : Int64) (i8 : Int32) (i9 : Int32) (j10 : Int64) (i12 : Int32) (i13 : Int32) (i14 : Int32) (n_a7 : Int32) (A_a7 : Nat → Int32) : Int32 :=
  (if i12 < (3 : Int32) then (own_f0_107 j0 i2 i3 i4 j5 i8 i9 j10 i12 i13 i14 n_a7 A_a7) else (own_f0_107 j0 i2 i3 i4 j5 i8 i9 j10 i12 i13 i14 n_a7 (own_up A_a7 (i8 - (3 : Int32)).toNatClampNeg ((48 : Int32).toInt8.toInt32))))
def own_f0_77 (j0 : Int64) (i2 : Int32) (i3 : Int32) (i4 : Int32) (j5 : Int64) (i8 : Int32) (i9 : Int32) (j10 : Int64) (i12 : Int32) (i13 : Int32) (i14 : Int32) (n_a7 : Int32) (A_a7 : Nat → Int32) : Int32 :=
  (if i12 < (2 : Int32) then (own_f0_92 j0 i2 i3 i4 j5 i8 i9 j10 i12 i13 i14 n_a7 A_a7) else (own_f0_92 j0 i2 i3 i4 j5 i8 i9 j10 i12 i13 i14 n_a7 (own_up A_a7 (i8 - (2 : Int32)).toNatClampNeg ((48 : Int32).toInt8.toInt32))))
def own_f0_30 (j0 : Int64) (i2 : Int32) (i3 : Int32) (i4 : Int32) (j5 : Int64) (i8 : Int32) (u0 : Int32) (n_a7 : Int32) (A_a7 : Nat → Int32) : Int32 :=
  (if (i3 &&& (3 : Int32)) < (1 : Int32) then (own_f0_77 j0 i2 i3 i4 j5 i8 u0 (own_f2_0 (j0 / (10 : Int64))) (i3 &&& (3 : Int32)) (((i3.toUInt32 >>> ((2 : Int32) &&& 31).toUInt32).toInt32) &&& (3 : Int32)) (((i3.toUInt32 >>> ((4 : Int32) &&& 31).toUInt32).toInt32) &&& (15 : Int32)) n_a7 A_a7) else (own_f0_77 j0 i2 i3 i4 j5 i8 u0 (own_f2_0 (j0 / (10 : Int64))) (i3 &&& (3 : Int32)) (((i3.toUInt32 >>> ((2 : Int32) &&& 31).toUInt32).toInt32) &&& (3 : Int32)) (((i3.toUInt32 >>> ((4 : Int32) &&& 31).toUInt32).toInt32) &&& (15 : Int32)) n_a7 (own_up A_a7 (i8 - (1 : Int32)).toNatClampNeg ((48 : Int32).toInt8.toInt32))))
def own_f0_0 (j0 : Int64) (i2 : Int32) (i3 : Int32) (i4 : Int32) : Int32 :=
  (if j0 < (0 : Int64) then (own_f0_30 j0 i2 i3 i4 (-9223372036854775808 : Int64) (own_f1_0 j0 (24 : Int32) (fun _ => 0)) (1 : Int32) (24 : Int32) (own_o1_A j0 (24 : Int32) (fun _ => 0))) else (own_f0_30 j0 i2 i3 i4 (-9223372036854775808 : Int64) (own_f1_0 j0 (24 : Int32) (fun _ => 0)) (0 : Int32) (24 : Int32) (own_o1_A j0 (24 : Int32) (fun _ => 0))))
set_option maxRecDepth 65536 in
set_option maxHeartbeats 40000000 in
theorem own_b0_433 {p : Program} {l : Launch} {e : Env} {s : State} {m : MethodId} {args : Array Value} {below : List Frame} {meth : Method} {c : Code} {Z : State} {a0_ : Array Value} {n0 : Nat} (hx : p.tables.exec = Jvm.exec) (hZ : Z.Warmed39 s.vm) (hw : ∀ d ∈ tables_1, d.before a0_ Z = true) (hby : c.code = code) (hml : c.maxLocals = 26) (hown : s.vm.findClass "com/example/rollcalldb/rollcalldb/resp/DecimalParsePinLaw" = some m.cls) (hret : meth.sig.returnType = some .boolean) {T0 : State} {locs : List Loc} {h0 : Heap} (j0 : Int64) (i2 : Int32) (i3 : Int32) (i4 : Int32) (j5 : Int64) (a7 : Addr) (i8 : Int32) (i9 : Int32) (j10 : Int64) (i12 : Int32) (i13 : Int32) (i14 : Int32) (i15 : Int32) (i16 : Int32) (i17 : Int32) (i18 : Int32) (i19 : Int32) (j20 : Int64) (s22 : Slot) (s23 : Slot) (s24 : Slot) (s25 : Slot) (n_a7 : Int32) (A_a7 : Nat → Int32)
    (X0 : Stand p l e room_1 s m args below meth c T0 locs 1 24) (e0 : T0.heap = h0) (N0 : Fr n0 locs) (Z0 : n0 ≤ h0.size) (g_a7 : n0 ≤ a7) (V_a7 : own_Ar Z h0 a7 .byte n_a7 A_a7) (hI : n_a7 = 24 ∧ 0 ≤ i18.toInt ∧ i18.toInt ≤ 24 ∧ i19.toInt ≤ 24) :
    ∃ T' locs' cells' slots', Stand p l e room_1 s m args below meth c T' locs' cells' slots' ∧ Fr n0 locs' ∧ cells' ≤ room_1.cells ∧ slots' ≤ room_1.slots ∧ ∀ fs, (∀ (f : JFrame) (acts : List Action), f.method = m → f.locked = none → f.entered = [] → (doReturn e (T'.setTop f) acts (some (.int (own_f0_433 j0 i2 i3 i4 j5 i8 i9 j10 i12 i13 i14 i15 i16 i17 i18 i19 j20 n_a7 A_a7)))).1 = T'.setFrames fs) → Steps p.tables e below (T0.setTop (mkF m 433 #[.val (.long j0), .second, .val (.int i2), .val (.int i3), .val (.int i4), .val (.long j5), .second, .val (.ref a7), .val (.int i8), .val (.int i9), .val (.long j10), .second, .val (.int i12), .val (.int i13), .val (.int i14), .val (.int i15), .val (.int i16), .val (.int i17), .val (.int i18), .val (.int i19), .val (.long j20), .second, s22, s23, s24, s25] [])) (T'.setFrames fs) := by
  have hJ1 : n_a7.toInt ≤ 1000 ∧ 0 ≤ i18.toInt ∧ i18.toInt ≤ 1000 ∧ i19.toInt ≤ n_a7.toInt := by exact own_cp hI
  obtain ⟨_, _, ⟨T1, L1, k1, n1⟩, -, X1, ⟨Lc1, hQ1, l1, y1, z1⟩, st1⟩ := Jvm.LawKit.callS X0 hx (y := (⟨"com/example/rollcalldb/rollcalldb/resp/Decimal", "parse", "([BII)J"⟩ : MethodName)) hown (mvT hZ (hw _ (List.mem_of_getElem? (i := 14) rfl))) (mvT hZ (hw _ (List.mem_of_getElem? (i := 15) rfl))) (mvT hZ (hw _ (List.mem_of_getElem? (i := 4) rfl))) (mvT hZ (hw _ (List.mem_of_getElem? (i := 16) rfl))) (by decide) (backOf (W := 0) (rm3 l Z a0_ hw [] a7 i18 i19 n_a7 A_a7 h0 n0 Z0 V_a7 hJ1) hZ (hw _ (List.mem_of_getElem? (i := 16) rfl)) (hw _ (List.mem_of_getElem? (i := 4) rfl)) (by decide) (by decide)) (g := (mkF m 439 #[.val (.long j0), .second, .val (.int i2), .val (.int i3), .val (.int i4), .val (.long j5), .second, .val (.ref a7), .val (.int i8), .val (.int i9), .val (.long j10), .second, .val (.int i12), .val (.int i13), .val (.int i14), .val (.int i15), .val (.int i16), .val (.int i17), .val (.int i18), .val (.int i19), .val (.long j20), .second, s22, s23, s24, s25] [(.int i19), (.int i18), (.ref a7)])) rfl (by rw [hml]; rfl) (argsL := [(.ref a7), (.int i18), (.int i19)]) (rest := []) (lenOf pd_0_2 rfl) rfl (by show 2 * 0 + _ ≤ _; exact Nat.le_of_eq rfl) (hb hby at_439) (fun _ _ => ⟨rfl, e0, (by decide : 1 + 0 ≤ room_1.cells), (by decide : 24 + 0 ≤ room_1.slots)⟩)
  dsimp only [Pt.U, Pt.locs, Pt.cells, Pt.slots] at X1 l1 y1 z1 st1 hQ1
  subst l1 y1 z1
  obtain ⟨rfl, rfl, e1⟩ := hQ1
  rw [List.append_nil] at X1
  have pre2 : ∀ target, Steps p.tables e below (T1.setTop (mkF m 445 #[.val (.long j0), .second, .val (.int i2), .val (.int i3), .val (.int i4), .val (.long j5), .second, .val (.ref a7), .val (.int i8), .val (.int i9), .val (.long j10), .second, .val (.int i12), .val (.int i13), .val (.int i14), .val (.int i15), .val (.int i16), .val (.int i17), .val (.int i18), .val (.int i19), .val (.long j20), .second, s22, s23, s24, s25] [(.int (lcmpW (own_f3_0 i18 i19 n_a7 A_a7) j20))])) target → Steps p.tables e below (T0.setTop (mkF m 433 #[.val (.long j0), .second, .val (.int i2), .val (.int i3), .val (.int i4), .val (.long j5), .second, .val (.ref a7), .val (.int i8), .val (.int i9), .val (.long j10), .second, .val (.int i12), .val (.int i13), .val (.int i14), .val (.int i15), .val (.int i16), .val (.int i17), .val (.int i18), .val (.int i19), .val (.long j20), .second, s22, s23, s24, s25] [])) target := by
    intro target kt
    show Steps p.tables e below (T0.setTop (mkF m 433 #[.val (.long j0), .second, .val (.int i2), .val (.int i3), .val (.int i4), .val (.long j5), .second, .val (.ref a7), .val (.int i8), .val (.int i9), .val (.long j10), .second, .val (.int i12), .val (.int i13), .val (.int i14), .val (.int i15), .val (.int i16), .val (.int i17), .val (.int i18), .val (.int i19), .val (.long j20), .second, s22, s23, s24, s25] [])) _
    refine XS.aload X0.here hx rfl (hb hby at_433) rfl rfl ?_
    show Steps p.tables e below (T0.setTop (mkF m 435 #[.val (.long j0), .second, .val (.int i2), .val (.int i3), .val (.int i4), .val (.long j5), .second, .val (.ref a7), .val (.int i8), .val (.int i9), .val (.long j10), .second, .val (.int i12), .val (.int i13), .val (.int i14), .val (.int i15), .val (.int i16), .val (.int i17), .val (.int i18), .val (.int i19), .val (.long j20), .second, s22, s23, s24, s25] [(.ref a7)])) _
    refine XS.iload X0.here hx rfl (hb hby at_435) rfl ?_
    show Steps p.tables e below (T0.setTop (mkF m 437 #[.val (.long j0), .second, .val (.int i2), .val (.int i3), .val (.int i4), .val (.long j5), .second, .val (.ref a7), .val (.int i8), .val (.int i9), .val (.long j10), .second, .val (.int i12), .val (.int i13), .val (.int i14), .val (.int i15), .val (.int i16), .val (.int i17), .val (.int i18), .val (.int i19), .val (.long j20), .second, s22, s23, s24, s25] [(.int i18), (.ref a7)])) _
    refine XS.iload X0.here hx rfl (hb hby at_437) rfl ?_
    show Steps p.tables e below (T0.setTop (mkF m 439 #[.val (.long j0), .second, .val (.int i2), .val (.int i3), .val (.int i4), .val (.long j5), .second, .val (.ref a7), .val (.int i8), .val (.int i9), .val (.long j10), .second, .val (.int i12), .val (.int i13), .val (.int i14), .val (.int i15), .val (.int i16), .val (.int i17), .val (.int i18), .val (.int i19), .val (.long j20), .second, s22, s23, s24, s25] [(.int i19), (.int i18), (.ref a7)])) _
    refine st1 _ ?_
    show Steps p.tables e below (T1.setTop (mkF m 442 #[.val (.long j0), .second, .val (.int i2), .val (.int i3), .val (.int i4), .val (.long j5), .second, .val (.ref a7), .val (.int i8), .val (.int i9), .val (.long j10), .second, .val (.int i12), .val (.int i13), .val (.int i14), .val (.int i15), .val (.int i16), .val (.int i17), .val (.int i18), .val (.int i19), .val (.long j20), .second, s22, s23, s24, s25] [(.long (own_f3_0 i18 i19 n_a7 A_a7))])) _
    refine XS.lload X1.here hx rfl (hb hby at_442) rfl ?_
    show Steps p.tables e below (T1.setTop (mkF m 444 #[.val (.long j0), .second, .val (.int i2), .val (.int i3), .val (.int i4), .val (.long j5), .second, .val (.ref a7), .val (.int i8), .val (.int i9), .val (.long j10), .second, .val (.int i12), .val (.int i13), .val (.int i14), .val (.int i15), .val (.int i16), .val (.int i17), .val (.int i18), .val (.int i19), .val (.long j20), .second, s22, s23, s24, s25] [(.long j20), (.long (own_f3_0 i18 i19 n_a7 A_a7))])) _
    refine XS.lcmp X1.here hx rfl (hb hby at_444) rfl ?_
    exact kt
  by_cases hc445 : (own_f3_0 i18 i19 n_a7 A_a7) = j20
  · refine ⟨T1, _, _, _, X1, N0, (by decide), (by decide), fun fs hr => ?_⟩
    have hv : (own_f0_433 j0 i2 i3 i4 j5 i8 i9 j10 i12 i13 i14 i15 i16 i17 i18 i19 j20 n_a7 A_a7) = (1 : Int32) := by unfold own_f0_433; rw [if_pos hc445]
    rw [hv] at hr
    refine pre2 _ ?_
    show Steps p.tables e below (T1.setTop (mkF m 445 #[.val (.long j0), .second, .val (.int i2), .val (.int i3), .val (.int i4), .val (.long j5), .second, .val (.ref a7), .val (.int i8), .val (.int i9), .val (.long j10), .second, .val (.int i12), .val (.int i13), .val (.int i14), .val (.int i15), .val (.int i16), .val (.int i17), .val (.int i18), .val (.int i19), .val (.long j20), .second, s22, s23, s24, s25] [(.int (lcmpW (own_f3_0 i18 i19 n_a7 A_a7) j20))])) _
    refine XS.ifNo X1.here hx rfl (hb hby at_445) rfl ((if0 _ _).trans (teq ((lw_eq _ _).mpr hc445)).2) ?_
    show Steps p.tables e below (T1.setTop (mkF m 448 #[.val (.long j0), .second, .val (.int i2), .val (.int i3), .val (.int i4), .val (.long j5), .second, .val (.ref a7), .val (.int i8), .val (.int i9), .val (.long j10), .second, .val (.int i12), .val (.int i13), .val (.int i14), .val (.int i15), .val (.int i16), .val (.int i17), .val (.int i18), .val (.int i19), .val (.long j20), .second, s22, s23, s24, s25] [])) _
    refine XS.iconst X1.here hx rfl (hb hby at_448) ?_
    show Steps p.tables e below (T1.setTop (mkF m 449 #[.val (.long j0), .second, .val (.int i2), .val (.int i3), .val (.int i4), .val (.long j5), .second, .val (.ref a7), .val (.int i8), .val (.int i9), .val (.long j10), .second, .val (.int i12), .val (.int i13), .val (.int i14), .val (.int i15), .val (.int i16), .val (.int i17), .val (.int i18), .val (.int i19), .val (.long j20), .second, s22, s23, s24, s25] [(.int (1 : Int32))])) _
    refine XS.goto X1.here hx rfl (pc0 := 449) (pc' := 453) rfl (hb hby at_449) (by decide) (by decide) ?_
    show Steps p.tables e below (T1.setTop (mkF m 453 #[.val (.long j0), .second, .val (.int i2), .val (.int i3), .val (.int i4), .val (.long j5), .second, .val (.ref a7), .val (.int i8), .val (.int i9), .val (.long j10), .second, .val (.int i12), .val (.int i13), .val (.int i14), .val (.int i15), .val (.int i16), .val (.int i17), .val (.int i18), .val (.int i19), .val (.long j20), .second, s22, s23, s24, s25] [(.int (1 : Int32))])) _
    exact retN X1 hx (t := .boolean) hret (by simp) (hb hby at_453) hr
  · refine ⟨T1, _, _, _, X1, N0, (by decide), (by decide), fun fs hr => ?_⟩
    have hv : (own_f0_433 j0 i2 i3 i4 j5 i8 i9 j10 i12 i13 i14 i15 i16 i17 i18 i19 j20 n_a7 A_a7) = (0 : Int32) := by unfold own_f0_433; rw [if_neg hc445]
    rw [hv] at hr
    refine pre2 _ ?_
    show Steps p.tables e below (T1.setTop (mkF m 445 #[.val (.long j0), .second, .val (.int i2), .val (.int i3), .val (.int i4), .val (.long j5), .second, .val (.ref a7), .val (.int i8), .val (.int i9), .val (.long j10), .second, .val (.int i12), .val (.int i13), .val (.int i14), .val (.int i15), .val (.int i16), .val (.int i17), .val (.int i18), .val (.int i19), .val (.long j20), .second, s22, s23, s24, s25] [(.int (lcmpW (own_f3_0 i18 i19 n_a7 A_a7) j20))])) _
    refine XS.ifYes X1.here hx rfl (pc0 := 445) (pc' := 452) rfl (hb hby at_445) rfl ((if0 _ _).trans (feq (mt (lw_eq _ _).mp hc445)).2) (by decide) (by decide) ?_
    show Steps p.tables e below (T1.setTop (mkF m 452 #[.val (.long j0), .second, .val (.int i2), .val (.int i3), .val (.int i4), .val (.long j5), .second, .val (.ref a7), .val (.int i8), .val (.int i9), .val (.long j10), .second, .val (.int i12), .val (.int i13), .val (.int i14), .val (.int i15), .val (.int i16), .val (.int i17), .val (.int i18), .val (.int i19), .val (.long j20), .second, s22, s23, s24, s25] [])) _
    refine XS.iconst X1.here hx rfl (hb hby at_452) ?_
    show Steps p.tables e below (T1.setTop (mkF m 453 #[.val (.long j0), .second, .val (.int i2), .val (.int i3), .val (.int i4), .val (.long j5), .second, .val (.ref a7), .val (.int i8), .val (.int i9), .val (.long j10), .second, .val (.int i12), .val (.int i13), .val (.int i14), .val (.int i15), .val (.int i16), .val (.int i17), .val (.int i18), .val (.int i19), .val (.long j20), .second, s22, s23, s24, s25] [(.int (0 : Int32))])) _
    exact retN X1 hx (t := .boolean) hret (by simp) (hb hby at_453) hr
set_option maxRecDepth 65536 in
set_option maxHeartbeats 40000000 in
theorem own_b0_424 {p : Program} {l : Launch} {e : Env} {s : State} {m : MethodId} {args : Array Value} {below : List Frame} {meth : Method} {c : Code} {Z : State} {a0_ : Array Value} {n0 : Nat} (hx : p.tables.exec = Jvm.exec) (hZ : Z.Warmed39 s.vm) (hw : ∀ d ∈ tables_1, d.before a0_ Z = true) (hby : c.code = code) (hml : c.maxLocals = 26) (hown : s.vm.findClass "com/example/rollcalldb/rollcalldb/resp/DecimalParsePinLaw" = some m.cls) (hret : meth.sig.returnType = some .boolean) {T0 : State} {locs : List Loc} {h0 : Heap} (j0 : Int64) (i2 : Int32) (i3 : Int32) (i4 : Int32) (j5 : Int64) (a7 : Addr) (i8 : Int32) (i9 : Int32) (j10 : Int64) (i12 : Int32) (i13 : Int32) (i14 : Int32) (i15 : Int32) (i16 : Int32) (i17 : Int32) (i18 : Int32) (i19 : Int32) (i22 : Int32) (i23 : Int32) (j24 : Int64) (v0 : Int64) (n_a7 : Int32) (A_a7 : Nat → Int32)
    (X0 : Stand p l e room_1 s m args below meth c T0 locs 1 24) (e0 : T0.heap = h0) (N0 : Fr n0 locs) (Z0 : n0 ≤ h0.size) (g_a7 : n0 ≤ a7) (V_a7 : own_Ar Z h0 a7 .byte n_a7 A_a7) (hI : n_a7 = 24 ∧ 0 ≤ i18.toInt ∧ i18.toInt ≤ 24 ∧ i19.toInt ≤ 24) :
    ∃ T' locs' cells' slots', Stand p l e room_1 s m args below meth c T' locs' cells' slots' ∧ Fr n0 locs' ∧ cells' ≤ room_1.cells ∧ slots' ≤ room_1.slots ∧ ∀ fs, (∀ (f : JFrame) (acts : List Action), f.method = m → f.locked = none → f.entered = [] → (doReturn e (T'.setTop f) acts (some (.int (own_f0_424 j0 i2 i3 i4 j5 i8 i9 j10 i12 i13 i14 i15 i16 i17 i18 i19 i22 i23 j24 v0 n_a7 A_a7)))).1 = T'.setFrames fs) → Steps p.tables e below (T0.setTop (mkF m 424 #[.val (.long j0), .second, .val (.int i2), .val (.int i3), .val (.int i4), .val (.long j5), .second, .val (.ref a7), .val (.int i8), .val (.int i9), .val (.long j10), .second, .val (.int i12), .val (.int i13), .val (.int i14), .val (.int i15), .val (.int i16), .val (.int i17), .val (.int i18), .val (.int i19), .unset, .unset, .val (.int i22), .val (.int i23), .val (.long j24), .second] [(.long v0)])) (T'.setFrames fs) := by
  have pre1 : ∀ target, Steps p.tables e below (T0.setTop (mkF m 433 #[.val (.long j0), .second, .val (.int i2), .val (.int i3), .val (.int i4), .val (.long j5), .second, .val (.ref a7), .val (.int i8), .val (.int i9), .val (.long j10), .second, .val (.int i12), .val (.int i13), .val (.int i14), .val (.int i15), .val (.int i16), .val (.int i17), .val (.int i18), .val (.int i19), .val (.long v0), .second, .val (.int i22), .val (.int i23), .val (.long j24), .second] [])) target → Steps p.tables e below (T0.setTop (mkF m 424 #[.val (.long j0), .second, .val (.int i2), .val (.int i3), .val (.int i4), .val (.long j5), .second, .val (.ref a7), .val (.int i8), .val (.int i9), .val (.long j10), .second, .val (.int i12), .val (.int i13), .val (.int i14), .val (.int i15), .val (.int i16), .val (.int i17), .val (.int i18), .val (.int i19), .unset, .unset, .val (.int i22), .val (.int i23), .val (.long j24), .second] [(.long v0)])) target := by
    intro target kt
    show Steps p.tables e below (T0.setTop (mkF m 424 #[.val (.long j0), .second, .val (.int i2), .val (.int i3), .val (.int i4), .val (.long j5), .second, .val (.ref a7), .val (.int i8), .val (.int i9), .val (.long j10), .second, .val (.int i12), .val (.int i13), .val (.int i14), .val (.int i15), .val (.int i16), .val (.int i17), .val (.int i18), .val (.int i19), .unset, .unset, .val (.int i22), .val (.int i23), .val (.long j24), .second] [(.long v0)])) _
    refine XS.lstore X0.here hx rfl (hb hby at_424) rfl (l' := #[.val (.long j0), .second, .val (.int i2), .val (.int i3), .val (.int i4), .val (.long j5), .second, .val (.ref a7), .val (.int i8), .val (.int i9), .val (.long j10), .second, .val (.int i12), .val (.int i13), .val (.int i14), .val (.int i15), .val (.int i16), .val (.int i17), .val (.int i18), .val (.int i19), .val (.long v0), .second, .val (.int i22), .val (.int i23), .val (.long j24), .second]) rfl ?_
    show Steps p.tables e below (T0.setTop (mkF m 426 #[.val (.long j0), .second, .val (.int i2), .val (.int i3), .val (.int i4), .val (.long j5), .second, .val (.ref a7), .val (.int i8), .val (.int i9), .val (.long j10), .second, .val (.int i12), .val (.int i13), .val (.int i14), .val (.int i15), .val (.int i16), .val (.int i17), .val (.int i18), .val (.int i19), .val (.long v0), .second, .val (.int i22), .val (.int i23), .val (.long j24), .second] [])) _
    refine XS.goto X0.here hx rfl (pc0 := 426) (pc' := 433) rfl (hb hby at_426) (by decide) (by decide) ?_
    exact kt
  have hI2 : n_a7 = 24 ∧ 0 ≤ i18.toInt ∧ i18.toInt ≤ 24 ∧ i19.toInt ≤ 24 := by exact hI
  obtain ⟨T2, L2, k2, n2, X2, N2, hk2', hn2, st2⟩ := own_b0_433 hx hZ hw hby hml hown hret j0 i2 i3 i4 j5 a7 i8 i9 j10 i12 i13 i14 i15 i16 i17 i18 i19 v0 (.val (.int i22)) (.val (.int i23)) (.val (.long j24)) (.second) n_a7 A_a7 X0 e0 N0 Z0 g_a7 V_a7 hI2
  have hv : (own_f0_424 j0 i2 i3 i4 j5 i8 i9 j10 i12 i13 i14 i15 i16 i17 i18 i19 i22 i23 j24 v0 n_a7 A_a7) = (own_f0_433 j0 i2 i3 i4 j5 i8 i9 j10 i12 i13 i14 i15 i16 i17 i18 i19 v0 n_a7 A_a7) := by unfold own_f0_424; rfl
  exact ⟨T2, L2, k2, n2, X2, N2, hk2', hn2, fun fs hr => pre1 _ (st2 fs (by rw [hv] at hr; exact hr))⟩
set_option maxRecDepth 65536 in
set_option maxHeartbeats 40000000 in
theorem own_b0_399 {p : Program} {l : Launch} {e : Env} {s : State} {m : MethodId} {args : Array Value} {below : List Frame} {meth : Method} {c : Code} {Z : State} {a0_ : Array Value} {n0 : Nat} (hx : p.tables.exec = Jvm.exec) (hZ : Z.Warmed39 s.vm) (hw : ∀ d ∈ tables_1, d.before a0_ Z = true) (hby : c.code = code) (hml : c.maxLocals = 26) (hown : s.vm.findClass "com/example/rollcalldb/rollcalldb/resp/DecimalParsePinLaw" = some m.cls) (hret : meth.sig.returnType = some .boolean) {T0 : State} {locs : List Loc} {h0 : Heap} (j0 : Int64) (i2 : Int32) (i3 : Int32) (i4 : Int32) (j5 : Int64) (a7 : Addr) (i8 : Int32) (i9 : Int32) (j10 : Int64) (i12 : Int32) (i13 : Int32) (i14 : Int32) (i15 : Int32) (i16 : Int32) (i17 : Int32) (i18 : Int32) (i19 : Int32) (i22 : Int32) (i23 : Int32) (n_a7 : Int32) (A_a7 : Nat → Int32)
    (X0 : Stand p l e room_1 s m args below meth c T0 locs 1 24) (e0 : T0.heap = h0) (N0 : Fr n0 locs) (Z0 : n0 ≤ h0.size) (g_a7 : n0 ≤ a7) (V_a7 : own_Ar Z h0 a7 .byte n_a7 A_a7) (hI : n_a7 = 24 ∧ 0 ≤ i18.toInt ∧ i18.toInt ≤ 24 ∧ i19.toInt ≤ 24) :
    ∃ T' locs' cells' slots', Stand p l e room_1 s m args below meth c T' locs' cells' slots' ∧ Fr n0 locs' ∧ cells' ≤ room_1.cells ∧ slots' ≤ room_1.slots ∧ ∀ fs, (∀ (f : JFrame) (acts : List Action), f.method = m → f.locked = none → f.entered = [] → (doReturn e (T'.setTop f) acts (some (.int (own_f0_399 j0 i2 i3 i4 j5 i8 i9 j10 i12 i13 i14 i15 i16 i17 i18 i19 i22 i23 n_a7 A_a7)))).1 = T'.setFrames fs) → Steps p.tables e below (T0.setTop (mkF m 399 #[.val (.long j0), .second, .val (.int i2), .val (.int i3), .val (.int i4), .val (.long j5), .second, .val (.ref a7), .val (.int i8), .val (.int i9), .val (.long j10), .second, .val (.int i12), .val (.int i13), .val (.int i14), .val (.int i15), .val (.int i16), .val (.int i17), .val (.int i18), .val (.int i19), .unset, .unset, .val (.int i22), .val (.int i23), .unset, .unset] [])) (T'.setFrames fs) := by
  have pre1 : ∀ target, Steps p.tables e below (T0.setTop (mkF m 413 #[.val (.long j0), .second, .val (.int i2), .val (.int i3), .val (.int i4), .val (.long j5), .second, .val (.ref a7), .val (.int i8), .val (.int i9), .val (.long j10), .second, .val (.int i12), .val (.int i13), .val (.int i14), .val (.int i15), .val (.int i16), .val (.int i17), .val (.int i18), .val (.int i19), .unset, .unset, .val (.int i22), .val (.int i23), .val (.long ((j10 * (10 : Int64)) + (i23.toInt64))), .second] [(.int i9)])) target → Steps p.tables e below (T0.setTop (mkF m 399 #[.val (.long j0), .second, .val (.int i2), .val (.int i3), .val (.int i4), .val (.long j5), .second, .val (.ref a7), .val (.int i8), .val (.int i9), .val (.long j10), .second, .val (.int i12), .val (.int i13), .val (.int i14), .val (.int i15), .val (.int i16), .val (.int i17), .val (.int i18), .val (.int i19), .unset, .unset, .val (.int i22), .val (.int i23), .unset, .unset] [])) target := by
    intro target kt
    show Steps p.tables e below (T0.setTop (mkF m 399 #[.val (.long j0), .second, .val (.int i2), .val (.int i3), .val (.int i4), .val (.long j5), .second, .val (.ref a7), .val (.int i8), .val (.int i9), .val (.long j10), .second, .val (.int i12), .val (.int i13), .val (.int i14), .val (.int i15), .val (.int i16), .val (.int i17), .val (.int i18), .val (.int i19), .unset, .unset, .val (.int i22), .val (.int i23), .unset, .unset] [])) _
    refine XS.lload X0.here hx rfl (hb hby at_399) rfl ?_
    show Steps p.tables e below (T0.setTop (mkF m 401 #[.val (.long j0), .second, .val (.int i2), .val (.int i3), .val (.int i4), .val (.long j5), .second, .val (.ref a7), .val (.int i8), .val (.int i9), .val (.long j10), .second, .val (.int i12), .val (.int i13), .val (.int i14), .val (.int i15), .val (.int i16), .val (.int i17), .val (.int i18), .val (.int i19), .unset, .unset, .val (.int i22), .val (.int i23), .unset, .unset] [(.long j10)])) _
    refine X0.ldc2Long hx hown (mvT hZ (hw _ (List.mem_of_getElem? (i := 8) rfl))) (g := (mkF m 401 #[.val (.long j0), .second, .val (.int i2), .val (.int i3), .val (.int i4), .val (.long j5), .second, .val (.ref a7), .val (.int i8), .val (.int i9), .val (.long j10), .second, .val (.int i12), .val (.int i13), .val (.int i14), .val (.int i15), .val (.int i16), .val (.int i17), .val (.int i18), .val (.int i19), .unset, .unset, .val (.int i22), .val (.int i23), .unset, .unset] [(.long j10)])) rfl (hb hby at_401) _ ?_
    show Steps p.tables e below (T0.setTop (mkF m 404 #[.val (.long j0), .second, .val (.int i2), .val (.int i3), .val (.int i4), .val (.long j5), .second, .val (.ref a7), .val (.int i8), .val (.int i9), .val (.long j10), .second, .val (.int i12), .val (.int i13), .val (.int i14), .val (.int i15), .val (.int i16), .val (.int i17), .val (.int i18), .val (.int i19), .unset, .unset, .val (.int i22), .val (.int i23), .unset, .unset] [(.long (10 : Int64)), (.long j10)])) _
    refine XS.lmul X0.here hx rfl (hb hby at_404) rfl ?_
    show Steps p.tables e below (T0.setTop (mkF m 405 #[.val (.long j0), .second, .val (.int i2), .val (.int i3), .val (.int i4), .val (.long j5), .second, .val (.ref a7), .val (.int i8), .val (.int i9), .val (.long j10), .second, .val (.int i12), .val (.int i13), .val (.int i14), .val (.int i15), .val (.int i16), .val (.int i17), .val (.int i18), .val (.int i19), .unset, .unset, .val (.int i22), .val (.int i23), .unset, .unset] [(.long (j10 * (10 : Int64)))])) _
    refine XS.iload X0.here hx rfl (hb hby at_405) rfl ?_
    show Steps p.tables e below (T0.setTop (mkF m 407 #[.val (.long j0), .second, .val (.int i2), .val (.int i3), .val (.int i4), .val (.long j5), .second, .val (.ref a7), .val (.int i8), .val (.int i9), .val (.long j10), .second, .val (.int i12), .val (.int i13), .val (.int i14), .val (.int i15), .val (.int i16), .val (.int i17), .val (.int i18), .val (.int i19), .unset, .unset, .val (.int i22), .val (.int i23), .unset, .unset] [(.int i23), (.long (j10 * (10 : Int64)))])) _
    refine XS.i2l X0.here hx rfl (hb hby at_407) rfl ?_
    show Steps p.tables e below (T0.setTop (mkF m 408 #[.val (.long j0), .second, .val (.int i2), .val (.int i3), .val (.int i4), .val (.long j5), .second, .val (.ref a7), .val (.int i8), .val (.int i9), .val (.long j10), .second, .val (.int i12), .val (.int i13), .val (.int i14), .val (.int i15), .val (.int i16), .val (.int i17), .val (.int i18), .val (.int i19), .unset, .unset, .val (.int i22), .val (.int i23), .unset, .unset] [(.long (i23.toInt64)), (.long (j10 * (10 : Int64)))])) _
    refine XS.ladd X0.here hx rfl (hb hby at_408) rfl ?_
    show Steps p.tables e below (T0.setTop (mkF m 409 #[.val (.long j0), .second, .val (.int i2), .val (.int i3), .val (.int i4), .val (.long j5), .second, .val (.ref a7), .val (.int i8), .val (.int i9), .val (.long j10), .second, .val (.int i12), .val (.int i13), .val (.int i14), .val (.int i15), .val (.int i16), .val (.int i17), .val (.int i18), .val (.int i19), .unset, .unset, .val (.int i22), .val (.int i23), .unset, .unset] [(.long ((j10 * (10 : Int64)) + (i23.toInt64)))])) _
    refine XS.lstore X0.here hx rfl (hb hby at_409) rfl (l' := #[.val (.long j0), .second, .val (.int i2), .val (.int i3), .val (.int i4), .val (.long j5), .second, .val (.ref a7), .val (.int i8), .val (.int i9), .val (.long j10), .second, .val (.int i12), .val (.int i13), .val (.int i14), .val (.int i15), .val (.int i16), .val (.int i17), .val (.int i18), .val (.int i19), .unset, .unset, .val (.int i22), .val (.int i23), .val (.long ((j10 * (10 : Int64)) + (i23.toInt64))), .second]) rfl ?_
    show Steps p.tables e below (T0.setTop (mkF m 411 #[.val (.long j0), .second, .val (.int i2), .val (.int i3), .val (.int i4), .val (.long j5), .second, .val (.ref a7), .val (.int i8), .val (.int i9), .val (.long j10), .second, .val (.int i12), .val (.int i13), .val (.int i14), .val (.int i15), .val (.int i16), .val (.int i17), .val (.int i18), .val (.int i19), .unset, .unset, .val (.int i22), .val (.int i23), .val (.long ((j10 * (10 : Int64)) + (i23.toInt64))), .second] [])) _
    refine XS.iload X0.here hx rfl (hb hby at_411) rfl ?_
    exact kt
  by_cases hc413 : i9 = (0 : Int32)
  · have pre2 : ∀ target, Steps p.tables e below (T0.setTop (mkF m 424 #[.val (.long j0), .second, .val (.int i2), .val (.int i3), .val (.int i4), .val (.long j5), .second, .val (.ref a7), .val (.int i8), .val (.int i9), .val (.long j10), .second, .val (.int i12), .val (.int i13), .val (.int i14), .val (.int i15), .val (.int i16), .val (.int i17), .val (.int i18), .val (.int i19), .unset, .unset, .val (.int i22), .val (.int i23), .val (.long ((j10 * (10 : Int64)) + (i23.toInt64))), .second] [(.long ((j10 * (10 : Int64)) + (i23.toInt64)))])) target → Steps p.tables e below (T0.setTop (mkF m 399 #[.val (.long j0), .second, .val (.int i2), .val (.int i3), .val (.int i4), .val (.long j5), .second, .val (.ref a7), .val (.int i8), .val (.int i9), .val (.long j10), .second, .val (.int i12), .val (.int i13), .val (.int i14), .val (.int i15), .val (.int i16), .val (.int i17), .val (.int i18), .val (.int i19), .unset, .unset, .val (.int i22), .val (.int i23), .unset, .unset] [])) target := by
      intro target kt
      refine pre1 target ?_
      show Steps p.tables e below (T0.setTop (mkF m 413 #[.val (.long j0), .second, .val (.int i2), .val (.int i3), .val (.int i4), .val (.long j5), .second, .val (.ref a7), .val (.int i8), .val (.int i9), .val (.long j10), .second, .val (.int i12), .val (.int i13), .val (.int i14), .val (.int i15), .val (.int i16), .val (.int i17), .val (.int i18), .val (.int i19), .unset, .unset, .val (.int i22), .val (.int i23), .val (.long ((j10 * (10 : Int64)) + (i23.toInt64))), .second] [(.int i9)])) _
      refine XS.ifYes X0.here hx rfl (pc0 := 413) (pc' := 422) rfl (hb hby at_413) rfl ((if0 _ _).trans (teq hc413).1) (by decide) (by decide) ?_
      show Steps p.tables e below (T0.setTop (mkF m 422 #[.val (.long j0), .second, .val (.int i2), .val (.int i3), .val (.int i4), .val (.long j5), .second, .val (.ref a7), .val (.int i8), .val (.int i9), .val (.long j10), .second, .val (.int i12), .val (.int i13), .val (.int i14), .val (.int i15), .val (.int i16), .val (.int i17), .val (.int i18), .val (.int i19), .unset, .unset, .val (.int i22), .val (.int i23), .val (.long ((j10 * (10 : Int64)) + (i23.toInt64))), .second] [])) _
      refine XS.lload X0.here hx rfl (hb hby at_422) rfl ?_
      exact kt
    have hI3 : n_a7 = 24 ∧ 0 ≤ i18.toInt ∧ i18.toInt ≤ 24 ∧ i19.toInt ≤ 24 := by exact hI
    obtain ⟨T3, L3, k3, n3, X3, N3, hk3', hn3, st3⟩ := own_b0_424 hx hZ hw hby hml hown hret j0 i2 i3 i4 j5 a7 i8 i9 j10 i12 i13 i14 i15 i16 i17 i18 i19 i22 i23 ((j10 * (10 : Int64)) + (i23.toInt64)) ((j10 * (10 : Int64)) + (i23.toInt64)) n_a7 A_a7 X0 e0 N0 Z0 g_a7 V_a7 hI3
    have hv : (own_f0_399 j0 i2 i3 i4 j5 i8 i9 j10 i12 i13 i14 i15 i16 i17 i18 i19 i22 i23 n_a7 A_a7) = (own_f0_424 j0 i2 i3 i4 j5 i8 i9 j10 i12 i13 i14 i15 i16 i17 i18 i19 i22 i23 ((j10 * (10 : Int64)) + (i23.toInt64)) ((j10 * (10 : Int64)) + (i23.toInt64)) n_a7 A_a7) := by unfold own_f0_399; rw [if_pos hc413]
    exact ⟨T3, L3, k3, n3, X3, N3, hk3', hn3, fun fs hr => pre2 _ (st3 fs (by rw [hv] at hr; exact hr))⟩
  · have pre4 : ∀ target, Steps p.tables e below (T0.setTop (mkF m 424 #[.val (.long j0), .second, .val (.int i2), .val (.int i3), .val (.int i4), .val (.long j5), .second, .val (.ref a7), .val (.int i8), .val (.int i9), .val (.long j10), .second, .val (.int i12), .val (.int i13), .val (.int i14), .val (.int i15), .val (.int i16), .val (.int i17), .val (.int i18), .val (.int i19), .unset, .unset, .val (.int i22), .val (.int i23), .val (.long ((j10 * (10 : Int64)) + (i23.toInt64))), .second] [(.long (-((j10 * (10 : Int64)) + (i23.toInt64))))])) target → Steps p.tables e below (T0.setTop (mkF m 399 #[.val (.long j0), .second, .val (.int i2), .val (.int i3), .val (.int i4), .val (.long j5), .second, .val (.ref a7), .val (.int i8), .val (.int i9), .val (.long j10), .second, .val (.int i12), .val (.int i13), .val (.int i14), .val (.int i15), .val (.int i16), .val (.int i17), .val (.int i18), .val (.int i19), .unset, .unset, .val (.int i22), .val (.int i23), .unset, .unset] [])) target := by
      intro target kt
      refine pre1 target ?_
      show Steps p.tables e below (T0.setTop (mkF m 413 #[.val (.long j0), .second, .val (.int i2), .val (.int i3), .val (.int i4), .val (.long j5), .second, .val (.ref a7), .val (.int i8), .val (.int i9), .val (.long j10), .second, .val (.int i12), .val (.int i13), .val (.int i14), .val (.int i15), .val (.int i16), .val (.int i17), .val (.int i18), .val (.int i19), .unset, .unset, .val (.int i22), .val (.int i23), .val (.long ((j10 * (10 : Int64)) + (i23.toInt64))), .second] [(.int i9)])) _
      refine XS.ifNo X0.here hx rfl (hb hby at_413) rfl ((if0 _ _).trans (feq hc413).1) ?_
      show Steps p.tables e below (T0.setTop (mkF m 416 #[.val (.long j0), .second, .val (.int i2), .val (.int i3), .val (.int i4), .val (.long j5), .second, .val (.ref a7), .val (.int i8), .val (.int i9), .val (.long j10), .second, .val (.int i12), .val (.int i13), .val (.int i14), .val (.int i15), .val (.int i16), .val (.int i17), .val (.int i18), .val (.int i19), .unset, .unset, .val (.int i22), .val (.int i23), .val (.long ((j10 * (10 : Int64)) + (i23.toInt64))), .second] [])) _
      refine XS.lload X0.here hx rfl (hb hby at_416) rfl ?_
      show Steps p.tables e below (T0.setTop (mkF m 418 #[.val (.long j0), .second, .val (.int i2), .val (.int i3), .val (.int i4), .val (.long j5), .second, .val (.ref a7), .val (.int i8), .val (.int i9), .val (.long j10), .second, .val (.int i12), .val (.int i13), .val (.int i14), .val (.int i15), .val (.int i16), .val (.int i17), .val (.int i18), .val (.int i19), .unset, .unset, .val (.int i22), .val (.int i23), .val (.long ((j10 * (10 : Int64)) + (i23.toInt64))), .second] [(.long ((j10 * (10 : Int64)) + (i23.toInt64)))])) _
      refine XS.lneg X0.here hx rfl (hb hby at_418) rfl ?_
      show Steps p.tables e below (T0.setTop (mkF m 419 #[.val (.long j0), .second, .val (.int i2), .val (.int i3), .val (.int i4), .val (.long j5), .second, .val (.ref a7), .val (.int i8), .val (.int i9), .val (.long j10), .second, .val (.int i12), .val (.int i13), .val (.int i14), .val (.int i15), .val (.int i16), .val (.int i17), .val (.int i18), .val (.int i19), .unset, .unset, .val (.int i22), .val (.int i23), .val (.long ((j10 * (10 : Int64)) + (i23.toInt64))), .second] [(.long (-((j10 * (10 : Int64)) + (i23.toInt64))))])) _
      refine XS.goto X0.here hx rfl (pc0 := 419) (pc' := 424) rfl (hb hby at_419) (by decide) (by decide) ?_
      exact kt
    have hI5 : n_a7 = 24 ∧ 0 ≤ i18.toInt ∧ i18.toInt ≤ 24 ∧ i19.toInt ≤ 24 := by exact hI
    obtain ⟨T5, L5, k5, n5, X5, N5, hk5', hn5, st5⟩ := own_b0_424 hx hZ hw hby hml hown hret j0 i2 i3 i4 j5 a7 i8 i9 j10 i12 i13 i14 i15 i16 i17 i18 i19 i22 i23 ((j10 * (10 : Int64)) + (i23.toInt64)) (-((j10 * (10 : Int64)) + (i23.toInt64))) n_a7 A_a7 X0 e0 N0 Z0 g_a7 V_a7 hI5
    have hv : (own_f0_399 j0 i2 i3 i4 j5 i8 i9 j10 i12 i13 i14 i15 i16 i17 i18 i19 i22 i23 n_a7 A_a7) = (own_f0_424 j0 i2 i3 i4 j5 i8 i9 j10 i12 i13 i14 i15 i16 i17 i18 i19 i22 i23 ((j10 * (10 : Int64)) + (i23.toInt64)) (-((j10 * (10 : Int64)) + (i23.toInt64))) n_a7 A_a7) := by unfold own_f0_399; rw [if_neg hc413]
    exact ⟨T5, L5, k5, n5, X5, N5, hk5', hn5, fun fs hr => pre4 _ (st5 fs (by rw [hv] at hr; exact hr))⟩
set_option maxRecDepth 65536 in
set_option maxHeartbeats 40000000 in
theorem own_b0_369 {p : Program} {l : Launch} {e : Env} {s : State} {m : MethodId} {args : Array Value} {below : List Frame} {meth : Method} {c : Code} {Z : State} {a0_ : Array Value} {n0 : Nat} (hx : p.tables.exec = Jvm.exec) (hZ : Z.Warmed39 s.vm) (hw : ∀ d ∈ tables_1, d.before a0_ Z = true) (hby : c.code = code) (hml : c.maxLocals = 26) (hown : s.vm.findClass "com/example/rollcalldb/rollcalldb/resp/DecimalParsePinLaw" = some m.cls) (hret : meth.sig.returnType = some .boolean) {T0 : State} {locs : List Loc} {h0 : Heap} (j0 : Int64) (i2 : Int32) (i3 : Int32) (i4 : Int32) (j5 : Int64) (a7 : Addr) (i8 : Int32) (i9 : Int32) (j10 : Int64) (i12 : Int32) (i13 : Int32) (i14 : Int32) (i15 : Int32) (i16 : Int32) (i17 : Int32) (i18 : Int32) (i19 : Int32) (i22 : Int32) (n_a7 : Int32) (A_a7 : Nat → Int32)
    (X0 : Stand p l e room_1 s m args below meth c T0 locs 1 24) (e0 : T0.heap = h0) (N0 : Fr n0 locs) (Z0 : n0 ≤ h0.size) (g_a7 : n0 ≤ a7) (V_a7 : own_Ar Z h0 a7 .byte n_a7 A_a7) (hI : n_a7 = 24 ∧ 0 ≤ i18.toInt ∧ i18.toInt ≤ 24 ∧ i19.toInt ≤ 24) :
    ∃ T' locs' cells' slots', Stand p l e room_1 s m args below meth c T' locs' cells' slots' ∧ Fr n0 locs' ∧ cells' ≤ room_1.cells ∧ slots' ≤ room_1.slots ∧ ∀ fs, (∀ (f : JFrame) (acts : List Action), f.method = m → f.locked = none → f.entered = [] → (doReturn e (T'.setTop f) acts (some (.int (own_f0_369 j0 i2 i3 i4 j5 i8 i9 j10 i12 i13 i14 i15 i16 i17 i18 i19 i22 n_a7 A_a7)))).1 = T'.setFrames fs) → Steps p.tables e below (T0.setTop (mkF m 369 #[.val (.long j0), .second, .val (.int i2), .val (.int i3), .val (.int i4), .val (.long j5), .second, .val (.ref a7), .val (.int i8), .val (.int i9), .val (.long j10), .second, .val (.int i12), .val (.int i13), .val (.int i14), .val (.int i15), .val (.int i16), .val (.int i17), .val (.int i18), .val (.int i19), .unset, .unset, .val (.int i22), .unset, .unset, .unset] [])) (T'.setFrames fs) := by
  have pre1 : ∀ target, Steps p.tables e below (T0.setTop (mkF m 433 #[.val (.long j0), .second, .val (.int i2), .val (.int i3), .val (.int i4), .val (.long j5), .second, .val (.ref a7), .val (.int i8), .val (.int i9), .val (.long j10), .second, .val (.int i12), .val (.int i13), .val (.int i14), .val (.int i15), .val (.int i16), .val (.int i17), .val (.int i18), .val (.int i19), .val (.long j5), .second, .val (.int i22), .unset, .unset, .unset] [])) target → Steps p.tables e below (T0.setTop (mkF m 369 #[.val (.long j0), .second, .val (.int i2), .val (.int i3), .val (.int i4), .val (.long j5), .second, .val (.ref a7), .val (.int i8), .val (.int i9), .val (.long j10), .second, .val (.int i12), .val (.int i13), .val (.int i14), .val (.int i15), .val (.int i16), .val (.int i17), .val (.int i18), .val (.int i19), .unset, .unset, .val (.int i22), .unset, .unset, .unset] [])) target := by
    intro target kt
    show Steps p.tables e below (T0.setTop (mkF m 369 #[.val (.long j0), .second, .val (.int i2), .val (.int i3), .val (.int i4), .val (.long j5), .second, .val (.ref a7), .val (.int i8), .val (.int i9), .val (.long j10), .second, .val (.int i12), .val (.int i13), .val (.int i14), .val (.int i15), .val (.int i16), .val (.int i17), .val (.int i18), .val (.int i19), .unset, .unset, .val (.int i22), .unset, .unset, .unset] [])) _
    refine XS.lload X0.here hx rfl (hb hby at_369) rfl ?_
    show Steps p.tables e below (T0.setTop (mkF m 371 #[.val (.long j0), .second, .val (.int i2), .val (.int i3), .val (.int i4), .val (.long j5), .second, .val (.ref a7), .val (.int i8), .val (.int i9), .val (.long j10), .second, .val (.int i12), .val (.int i13), .val (.int i14), .val (.int i15), .val (.int i16), .val (.int i17), .val (.int i18), .val (.int i19), .unset, .unset, .val (.int i22), .unset, .unset, .unset] [(.long j5)])) _
    refine XS.lstore X0.here hx rfl (hb hby at_371) rfl (l' := #[.val (.long j0), .second, .val (.int i2), .val (.int i3), .val (.int i4), .val (.long j5), .second, .val (.ref a7), .val (.int i8), .val (.int i9), .val (.long j10), .second, .val (.int i12), .val (.int i13), .val (.int i14), .val (.int i15), .val (.int i16), .val (.int i17), .val (.int i18), .val (.int i19), .val (.long j5), .second, .val (.int i22), .unset, .unset, .unset]) rfl ?_
    show Steps p.tables e below (T0.setTop (mkF m 373 #[.val (.long j0), .second, .val (.int i2), .val (.int i3), .val (.int i4), .val (.long j5), .second, .val (.ref a7), .val (.int i8), .val (.int i9), .val (.long j10), .second, .val (.int i12), .val (.int i13), .val (.int i14), .val (.int i15), .val (.int i16), .val (.int i17), .val (.int i18), .val (.int i19), .val (.long j5), .second, .val (.int i22), .unset, .unset, .unset] [])) _
    refine XS.goto X0.here hx rfl (pc0 := 373) (pc' := 433) rfl (hb hby at_373) (by decide) (by decide) ?_
    exact kt
  have hI2 : n_a7 = 24 ∧ 0 ≤ i18.toInt ∧ i18.toInt ≤ 24 ∧ i19.toInt ≤ 24 := by exact hI
  obtain ⟨T2, L2, k2, n2, X2, N2, hk2', hn2, st2⟩ := own_b0_433 hx hZ hw hby hml hown hret j0 i2 i3 i4 j5 a7 i8 i9 j10 i12 i13 i14 i15 i16 i17 i18 i19 j5 (.val (.int i22)) (.unset) (.unset) (.unset) n_a7 A_a7 X0 e0 N0 Z0 g_a7 V_a7 hI2
  have hv : (own_f0_369 j0 i2 i3 i4 j5 i8 i9 j10 i12 i13 i14 i15 i16 i17 i18 i19 i22 n_a7 A_a7) = (own_f0_433 j0 i2 i3 i4 j5 i8 i9 j10 i12 i13 i14 i15 i16 i17 i18 i19 j5 n_a7 A_a7) := by unfold own_f0_369; rfl
  exact ⟨T2, L2, k2, n2, X2, N2, hk2', hn2, fun fs hr => pre1 _ (st2 fs (by rw [hv] at hr; exact hr))⟩
set_option maxRecDepth 65536 in
set_option maxHeartbeats 40000000 in
theorem own_b0_334 {p : Program} {l : Launch} {e : Env} {s : State} {m : MethodId} {args : Array Value} {below : List Frame} {meth : Method} {c : Code} {Z : State} {a0_ : Array Value} {n0 : Nat} (hx : p.tables.exec = Jvm.exec) (hZ : Z.Warmed39 s.vm) (hw : ∀ d ∈ tables_1, d.before a0_ Z = true) (hby : c.code = code) (hml : c.maxLocals = 26) (hown : s.vm.findClass "com/example/rollcalldb/rollcalldb/resp/DecimalParsePinLaw" = some m.cls) (hret : meth.sig.returnType = some .boolean) {T0 : State} {locs : List Loc} {h0 : Heap} (j0 : Int64) (i2 : Int32) (i3 : Int32) (i4 : Int32) (j5 : Int64) (a7 : Addr) (i8 : Int32) (i9 : Int32) (j10 : Int64) (i12 : Int32) (i13 : Int32) (i14 : Int32) (i15 : Int32) (i16 : Int32) (i17 : Int32) (i18 : Int32) (i19 : Int32) (v0 : Int64) (n_a7 : Int32) (A_a7 : Nat → Int32)
    (X0 : Stand p l e room_1 s m args below meth c T0 locs 1 24) (e0 : T0.heap = h0) (N0 : Fr n0 locs) (Z0 : n0 ≤ h0.size) (g_a7 : n0 ≤ a7) (V_a7 : own_Ar Z h0 a7 .byte n_a7 A_a7) (hI : n_a7 = 24 ∧ 0 ≤ i18.toInt ∧ i18.toInt ≤ 24 ∧ i19.toInt ≤ 24) :
    ∃ T' locs' cells' slots', Stand p l e room_1 s m args below meth c T' locs' cells' slots' ∧ Fr n0 locs' ∧ cells' ≤ room_1.cells ∧ slots' ≤ room_1.slots ∧ ∀ fs, (∀ (f : JFrame) (acts : List Action), f.method = m → f.locked = none → f.entered = [] → (doReturn e (T'.setTop f) acts (some (.int (own_f0_334 j0 i2 i3 i4 j5 i8 i9 j10 i12 i13 i14 i15 i16 i17 i18 i19 v0 n_a7 A_a7)))).1 = T'.setFrames fs) → Steps p.tables e below (T0.setTop (mkF m 334 #[.val (.long j0), .second, .val (.int i2), .val (.int i3), .val (.int i4), .val (.long j5), .second, .val (.ref a7), .val (.int i8), .val (.int i9), .val (.long j10), .second, .val (.int i12), .val (.int i13), .val (.int i14), .val (.int i15), .val (.int i16), .val (.int i17), .val (.int i18), .val (.int i19), .unset, .unset, .unset, .unset, .unset, .unset] [(.long v0)])) (T'.setFrames fs) := by
  have pre1 : ∀ target, Steps p.tables e below (T0.setTop (mkF m 433 #[.val (.long j0), .second, .val (.int i2), .val (.int i3), .val (.int i4), .val (.long j5), .second, .val (.ref a7), .val (.int i8), .val (.int i9), .val (.long j10), .second, .val (.int i12), .val (.int i13), .val (.int i14), .val (.int i15), .val (.int i16), .val (.int i17), .val (.int i18), .val (.int i19), .val (.long v0), .second, .unset, .unset, .unset, .unset] [])) target → Steps p.tables e below (T0.setTop (mkF m 334 #[.val (.long j0), .second, .val (.int i2), .val (.int i3), .val (.int i4), .val (.long j5), .second, .val (.ref a7), .val (.int i8), .val (.int i9), .val (.long j10), .second, .val (.int i12), .val (.int i13), .val (.int i14), .val (.int i15), .val (.int i16), .val (.int i17), .val (.int i18), .val (.int i19), .unset, .unset, .unset, .unset, .unset, .unset] [(.long v0)])) target := by
    intro target kt
    show Steps p.tables e below (T0.setTop (mkF m 334 #[.val (.long j0), .second, .val (.int i2), .val (.int i3), .val (.int i4), .val (.long j5), .second, .val (.ref a7), .val (.int i8), .val (.int i9), .val (.long j10), .second, .val (.int i12), .val (.int i13), .val (.int i14), .val (.int i15), .val (.int i16), .val (.int i17), .val (.int i18), .val (.int i19), .unset, .unset, .unset, .unset, .unset, .unset] [(.long v0)])) _
    refine XS.lstore X0.here hx rfl (hb hby at_334) rfl (l' := #[.val (.long j0), .second, .val (.int i2), .val (.int i3), .val (.int i4), .val (.long j5), .second, .val (.ref a7), .val (.int i8), .val (.int i9), .val (.long j10), .second, .val (.int i12), .val (.int i13), .val (.int i14), .val (.int i15), .val (.int i16), .val (.int i17), .val (.int i18), .val (.int i19), .val (.long v0), .second, .unset, .unset, .unset, .unset]) rfl ?_
    show Steps p.tables e below (T0.setTop (mkF m 336 #[.val (.long j0), .second, .val (.int i2), .val (.int i3), .val (.int i4), .val (.long j5), .second, .val (.ref a7), .val (.int i8), .val (.int i9), .val (.long j10), .second, .val (.int i12), .val (.int i13), .val (.int i14), .val (.int i15), .val (.int i16), .val (.int i17), .val (.int i18), .val (.int i19), .val (.long v0), .second, .unset, .unset, .unset, .unset] [])) _
    refine XS.goto X0.here hx rfl (pc0 := 336) (pc' := 433) rfl (hb hby at_336) (by decide) (by decide) ?_
    exact kt
  have hI2 : n_a7 = 24 ∧ 0 ≤ i18.toInt ∧ i18.toInt ≤ 24 ∧ i19.toInt ≤ 24 := by exact hI
  obtain ⟨T2, L2, k2, n2, X2, N2, hk2', hn2, st2⟩ := own_b0_433 hx hZ hw hby hml hown hret j0 i2 i3 i4 j5 a7 i8 i9 j10 i12 i13 i14 i15 i16 i17 i18 i19 v0 (.unset) (.unset) (.unset) (.unset) n_a7 A_a7 X0 e0 N0 Z0 g_a7 V_a7 hI2
  have hv : (own_f0_334 j0 i2 i3 i4 j5 i8 i9 j10 i12 i13 i14 i15 i16 i17 i18 i19 v0 n_a7 A_a7) = (own_f0_433 j0 i2 i3 i4 j5 i8 i9 j10 i12 i13 i14 i15 i16 i17 i18 i19 v0 n_a7 A_a7) := by unfold own_f0_334; rfl
  exact ⟨T2, L2, k2, n2, X2, N2, hk2', hn2, fun fs hr => pre1 _ (st2 fs (by rw [hv] at hr; exact hr))⟩
set_option maxRecDepth 65536 in
set_option maxHeartbeats 40000000 in
theorem own_b0_321 {p : Program} {l : Launch} {e : Env} {s : State} {m : MethodId} {args : Array Value} {below : List Frame} {meth : Method} {c : Code} {Z : State} {a0_ : Array Value} {n0 : Nat} (hx : p.tables.exec = Jvm.exec) (hZ : Z.Warmed39 s.vm) (hw : ∀ d ∈ tables_1, d.before a0_ Z = true) (hby : c.code = code) (hml : c.maxLocals = 26) (hown : s.vm.findClass "com/example/rollcalldb/rollcalldb/resp/DecimalParsePinLaw" = some m.cls) (hret : meth.sig.returnType = some .boolean) {T0 : State} {locs : List Loc} {h0 : Heap} (j0 : Int64) (i2 : Int32) (i3 : Int32) (i4 : Int32) (j5 : Int64) (a7 : Addr) (i8 : Int32) (i9 : Int32) (j10 : Int64) (i12 : Int32) (i13 : Int32) (i14 : Int32) (i15 : Int32) (i16 : Int32) (i17 : Int32) (i18 : Int32) (i19 : Int32) (n_a7 : Int32) (A_a7 : Nat → Int32)
    (X0 : Stand p l e room_1 s m args below meth c T0 locs 1 24) (e0 : T0.heap = h0) (N0 : Fr n0 locs) (Z0 : n0 ≤ h0.size) (g_a7 : n0 ≤ a7) (V_a7 : own_Ar Z h0 a7 .byte n_a7 A_a7) (hI : n_a7 = 24 ∧ 0 ≤ i18.toInt ∧ i18.toInt ≤ 24 ∧ i19.toInt ≤ 24) :
    ∃ T' locs' cells' slots', Stand p l e room_1 s m args below meth c T' locs' cells' slots' ∧ Fr n0 locs' ∧ cells' ≤ room_1.cells ∧ slots' ≤ room_1.slots ∧ ∀ fs, (∀ (f : JFrame) (acts : List Action), f.method = m → f.locked = none → f.entered = [] → (doReturn e (T'.setTop f) acts (some (.int (own_f0_321 j0 i2 i3 i4 j5 i8 i9 j10 i12 i13 i14 i15 i16 i17 i18 i19 n_a7 A_a7)))).1 = T'.setFrames fs) → Steps p.tables e below (T0.setTop (mkF m 321 #[.val (.long j0), .second, .val (.int i2), .val (.int i3), .val (.int i4), .val (.long j5), .second, .val (.ref a7), .val (.int i8), .val (.int i9), .val (.long j10), .second, .val (.int i12), .val (.int i13), .val (.int i14), .val (.int i15), .val (.int i16), .val (.int i17), .val (.int i18), .val (.int i19), .unset, .unset, .unset, .unset, .unset, .unset] [])) (T'.setFrames fs) := by
  have pre1 : ∀ target, Steps p.tables e below (T0.setTop (mkF m 323 #[.val (.long j0), .second, .val (.int i2), .val (.int i3), .val (.int i4), .val (.long j5), .second, .val (.ref a7), .val (.int i8), .val (.int i9), .val (.long j10), .second, .val (.int i12), .val (.int i13), .val (.int i14), .val (.int i15), .val (.int i16), .val (.int i17), .val (.int i18), .val (.int i19), .unset, .unset, .unset, .unset, .unset, .unset] [(.int i9)])) target → Steps p.tables e below (T0.setTop (mkF m 321 #[.val (.long j0), .second, .val (.int i2), .val (.int i3), .val (.int i4), .val (.long j5), .second, .val (.ref a7), .val (.int i8), .val (.int i9), .val (.long j10), .second, .val (.int i12), .val (.int i13), .val (.int i14), .val (.int i15), .val (.int i16), .val (.int i17), .val (.int i18), .val (.int i19), .unset, .unset, .unset, .unset, .unset, .unset] [])) target := by
    intro target kt
    show Steps p.tables e below (T0.setTop (mkF m 321 #[.val (.long j0), .second, .val (.int i2), .val (.int i3), .val (.int i4), .val (.long j5), .second, .val (.ref a7), .val (.int i8), .val (.int i9), .val (.long j10), .second, .val (.int i12), .val (.int i13), .val (.int i14), .val (.int i15), .val (.int i16), .val (.int i17), .val (.int i18), .val (.int i19), .unset, .unset, .unset, .unset, .unset, .unset] [])) _
    refine XS.iload X0.here hx rfl (hb hby at_321) rfl ?_
    exact kt
  by_cases hc323 : i9 = (0 : Int32)
  · have pre2 : ∀ target, Steps p.tables e below (T0.setTop (mkF m 334 #[.val (.long j0), .second, .val (.int i2), .val (.int i3), .val (.int i4), .val (.long j5), .second, .val (.ref a7), .val (.int i8), .val (.int i9), .val (.long j10), .second, .val (.int i12), .val (.int i13), .val (.int i14), .val (.int i15), .val (.int i16), .val (.int i17), .val (.int i18), .val (.int i19), .unset, .unset, .unset, .unset, .unset, .unset] [(.long j10)])) target → Steps p.tables e below (T0.setTop (mkF m 321 #[.val (.long j0), .second, .val (.int i2), .val (.int i3), .val (.int i4), .val (.long j5), .second, .val (.ref a7), .val (.int i8), .val (.int i9), .val (.long j10), .second, .val (.int i12), .val (.int i13), .val (.int i14), .val (.int i15), .val (.int i16), .val (.int i17), .val (.int i18), .val (.int i19), .unset, .unset, .unset, .unset, .unset, .unset] [])) target := by
      intro target kt
      refine pre1 target ?_
      show Steps p.tables e below (T0.setTop (mkF m 323 #[.val (.long j0), .second, .val (.int i2), .val (.int i3), .val (.int i4), .val (.long j5), .second, .val (.ref a7), .val (.int i8), .val (.int i9), .val (.long j10), .second, .val (.int i12), .val (.int i13), .val (.int i14), .val (.int i15), .val (.int i16), .val (.int i17), .val (.int i18), .val (.int i19), .unset, .unset, .unset, .unset, .unset, .unset] [(.int i9)])) _
      refine XS.ifYes X0.here hx rfl (pc0 := 323) (pc' := 332) rfl (hb hby at_323) rfl ((if0 _ _).trans (teq hc323).1) (by decide) (by decide) ?_
      show Steps p.tables e below (T0.setTop (mkF m 332 #[.val (.long j0), .second, .val (.int i2), .val (.int i3), .val (.int i4), .val (.long j5), .second, .val (.ref a7), .val (.int i8), .val (.int i9), .val (.long j10), .second, .val (.int i12), .val (.int i13), .val (.int i14), .val (.int i15), .val (.int i16), .val (.int i17), .val (.int i18), .val (.int i19), .unset, .unset, .unset, .unset, .unset, .unset] [])) _
      refine XS.lload X0.here hx rfl (hb hby at_332) rfl ?_
      exact kt
    have hI3 : n_a7 = 24 ∧ 0 ≤ i18.toInt ∧ i18.toInt ≤ 24 ∧ i19.toInt ≤ 24 := by exact hI
    obtain ⟨T3, L3, k3, n3, X3, N3, hk3', hn3, st3⟩ := own_b0_334 hx hZ hw hby hml hown hret j0 i2 i3 i4 j5 a7 i8 i9 j10 i12 i13 i14 i15 i16 i17 i18 i19 j10 n_a7 A_a7 X0 e0 N0 Z0 g_a7 V_a7 hI3
    have hv : (own_f0_321 j0 i2 i3 i4 j5 i8 i9 j10 i12 i13 i14 i15 i16 i17 i18 i19 n_a7 A_a7) = (own_f0_334 j0 i2 i3 i4 j5 i8 i9 j10 i12 i13 i14 i15 i16 i17 i18 i19 j10 n_a7 A_a7) := by unfold own_f0_321; rw [if_pos hc323]
    exact ⟨T3, L3, k3, n3, X3, N3, hk3', hn3, fun fs hr => pre2 _ (st3 fs (by rw [hv] at hr; exact hr))⟩
  · have pre4 : ∀ target, Steps p.tables e below (T0.setTop (mkF m 334 #[.val (.long j0), .second, .val (.int i2), .val (.int i3), .val (.int i4), .val (.long j5), .second, .val (.ref a7), .val (.int i8), .val (.int i9), .val (.long j10), .second, .val (.int i12), .val (.int i13), .val (.int i14), .val (.int i15), .val (.int i16), .val (.int i17), .val (.int i18), .val (.int i19), .unset, .unset, .unset, .unset, .unset, .unset] [(.long (-j10))])) target → Steps p.tables e below (T0.setTop (mkF m 321 #[.val (.long j0), .second, .val (.int i2), .val (.int i3), .val (.int i4), .val (.long j5), .second, .val (.ref a7), .val (.int i8), .val (.int i9), .val (.long j10), .second, .val (.int i12), .val (.int i13), .val (.int i14), .val (.int i15), .val (.int i16), .val (.int i17), .val (.int i18), .val (.int i19), .unset, .unset, .unset, .unset, .unset, .unset] [])) target := by
      intro target kt
      refine pre1 target ?_
      show Steps p.tables e below (T0.setTop (mkF m 323 #[.val (.long j0), .second, .val (.int i2), .val (.int i3), .val (.int i4), .val (.long j5), .second, .val (.ref a7), .val (.int i8), .val (.int i9), .val (.long j10), .second, .val (.int i12), .val (.int i13), .val (.int i14), .val (.int i15), .val (.int i16), .val (.int i17), .val (.int i18), .val (.int i19), .unset, .unset, .unset, .unset, .unset, .unset] [(.int i9)])) _
      refine XS.ifNo X0.here hx rfl (hb hby at_323) rfl ((if0 _ _).trans (feq hc323).1) ?_
      show Steps p.tables e below (T0.setTop (mkF m 326 #[.val (.long j0), .second, .val (.int i2), .val (.int i3), .val (.int i4), .val (.long j5), .second, .val (.ref a7), .val (.int i8), .val (.int i9), .val (.long j10), .second, .val (.int i12), .val (.int i13), .val (.int i14), .val (.int i15), .val (.int i16), .val (.int i17), .val (.int i18), .val (.int i19), .unset, .unset, .unset, .unset, .unset, .unset] [])) _
      refine XS.lload X0.here hx rfl (hb hby at_326) rfl ?_
      show Steps p.tables e below (T0.setTop (mkF m 328 #[.val (.long j0), .second, .val (.int i2), .val (.int i3), .val (.int i4), .val (.long j5), .second, .val (.ref a7), .val (.int i8), .val (.int i9), .val (.long j10), .second, .val (.int i12), .val (.int i13), .val (.int i14), .val (.int i15), .val (.int i16), .val (.int i17), .val (.int i18), .val (.int i19), .unset, .unset, .unset, .unset, .unset, .unset] [(.long j10)])) _
      refine XS.lneg X0.here hx rfl (hb hby at_328) rfl ?_
      show Steps p.tables e below (T0.setTop (mkF m 329 #[.val (.long j0), .second, .val (.int i2), .val (.int i3), .val (.int i4), .val (.long j5), .second, .val (.ref a7), .val (.int i8), .val (.int i9), .val (.long j10), .second, .val (.int i12), .val (.int i13), .val (.int i14), .val (.int i15), .val (.int i16), .val (.int i17), .val (.int i18), .val (.int i19), .unset, .unset, .unset, .unset, .unset, .unset] [(.long (-j10))])) _
      refine XS.goto X0.here hx rfl (pc0 := 329) (pc' := 334) rfl (hb hby at_329) (by decide) (by decide) ?_
      exact kt
    have hI5 : n_a7 = 24 ∧ 0 ≤ i18.toInt ∧ i18.toInt ≤ 24 ∧ i19.toInt ≤ 24 := by exact hI
    obtain ⟨T5, L5, k5, n5, X5, N5, hk5', hn5, st5⟩ := own_b0_334 hx hZ hw hby hml hown hret j0 i2 i3 i4 j5 a7 i8 i9 j10 i12 i13 i14 i15 i16 i17 i18 i19 (-j10) n_a7 A_a7 X0 e0 N0 Z0 g_a7 V_a7 hI5
    have hv : (own_f0_321 j0 i2 i3 i4 j5 i8 i9 j10 i12 i13 i14 i15 i16 i17 i18 i19 n_a7 A_a7) = (own_f0_334 j0 i2 i3 i4 j5 i8 i9 j10 i12 i13 i14 i15 i16 i17 i18 i19 (-j10) n_a7 A_a7) := by unfold own_f0_321; rw [if_neg hc323]
    exact ⟨T5, L5, k5, n5, X5, N5, hk5', hn5, fun fs hr => pre4 _ (st5 fs (by rw [hv] at hr; exact hr))⟩
set_option maxRecDepth 65536 in
set_option maxHeartbeats 40000000 in
theorem own_b0_285 {p : Program} {l : Launch} {e : Env} {s : State} {m : MethodId} {args : Array Value} {below : List Frame} {meth : Method} {c : Code} {Z : State} {a0_ : Array Value} {n0 : Nat} (hx : p.tables.exec = Jvm.exec) (hZ : Z.Warmed39 s.vm) (hw : ∀ d ∈ tables_1, d.before a0_ Z = true) (hby : c.code = code) (hml : c.maxLocals = 26) (hown : s.vm.findClass "com/example/rollcalldb/rollcalldb/resp/DecimalParsePinLaw" = some m.cls) (hret : meth.sig.returnType = some .boolean) {T0 : State} {locs : List Loc} {h0 : Heap} (j0 : Int64) (i2 : Int32) (i3 : Int32) (i4 : Int32) (j5 : Int64) (a7 : Addr) (i8 : Int32) (i9 : Int32) (j10 : Int64) (i12 : Int32) (i13 : Int32) (i14 : Int32) (i15 : Int32) (i16 : Int32) (i17 : Int32) (i18 : Int32) (i19 : Int32) (n_a7 : Int32) (A_a7 : Nat → Int32)
    (X0 : Stand p l e room_1 s m args below meth c T0 locs 1 24) (e0 : T0.heap = h0) (N0 : Fr n0 locs) (Z0 : n0 ≤ h0.size) (g_a7 : n0 ≤ a7) (V_a7 : own_Ar Z h0 a7 .byte n_a7 A_a7) (hI : n_a7 = 24 ∧ 0 ≤ i18.toInt ∧ i18.toInt ≤ 24 ∧ i19.toInt ≤ 24) :
    ∃ T' locs' cells' slots', Stand p l e room_1 s m args below meth c T' locs' cells' slots' ∧ Fr n0 locs' ∧ cells' ≤ room_1.cells ∧ slots' ≤ room_1.slots ∧ ∀ fs, (∀ (f : JFrame) (acts : List Action), f.method = m → f.locked = none → f.entered = [] → (doReturn e (T'.setTop f) acts (some (.int (own_f0_285 j0 i2 i3 i4 j5 i8 i9 j10 i12 i13 i14 i15 i16 i17 i18 i19 n_a7 A_a7)))).1 = T'.setFrames fs) → Steps p.tables e below (T0.setTop (mkF m 285 #[.val (.long j0), .second, .val (.int i2), .val (.int i3), .val (.int i4), .val (.long j5), .second, .val (.ref a7), .val (.int i8), .val (.int i9), .val (.long j10), .second, .val (.int i12), .val (.int i13), .val (.int i14), .val (.int i15), .val (.int i16), .val (.int i17), .val (.int i18), .val (.int i19), .unset, .unset, .unset, .unset, .unset, .unset] [])) (T'.setFrames fs) := by
  have pre1 : ∀ target, Steps p.tables e below (T0.setTop (mkF m 288 #[.val (.long j0), .second, .val (.int i2), .val (.int i3), .val (.int i4), .val (.long j5), .second, .val (.ref a7), .val (.int i8), .val (.int i9), .val (.long j10), .second, .val (.int i12), .val (.int i13), .val (.int i14), .val (.int i15), .val (.int i16), .val (.int i17), .val (.int i18), .val (.int i19), .unset, .unset, .unset, .unset, .unset, .unset] [(.int (2 : Int32)), (.int i13)])) target → Steps p.tables e below (T0.setTop (mkF m 285 #[.val (.long j0), .second, .val (.int i2), .val (.int i3), .val (.int i4), .val (.long j5), .second, .val (.ref a7), .val (.int i8), .val (.int i9), .val (.long j10), .second, .val (.int i12), .val (.int i13), .val (.int i14), .val (.int i15), .val (.int i16), .val (.int i17), .val (.int i18), .val (.int i19), .unset, .unset, .unset, .unset, .unset, .unset] [])) target := by
    intro target kt
    show Steps p.tables e below (T0.setTop (mkF m 285 #[.val (.long j0), .second, .val (.int i2), .val (.int i3), .val (.int i4), .val (.long j5), .second, .val (.ref a7), .val (.int i8), .val (.int i9), .val (.long j10), .second, .val (.int i12), .val (.int i13), .val (.int i14), .val (.int i15), .val (.int i16), .val (.int i17), .val (.int i18), .val (.int i19), .unset, .unset, .unset, .unset, .unset, .unset] [])) _
    refine XS.iload X0.here hx rfl (hb hby at_285) rfl ?_
    show Steps p.tables e below (T0.setTop (mkF m 287 #[.val (.long j0), .second, .val (.int i2), .val (.int i3), .val (.int i4), .val (.long j5), .second, .val (.ref a7), .val (.int i8), .val (.int i9), .val (.long j10), .second, .val (.int i12), .val (.int i13), .val (.int i14), .val (.int i15), .val (.int i16), .val (.int i17), .val (.int i18), .val (.int i19), .unset, .unset, .unset, .unset, .unset, .unset] [(.int i13)])) _
    refine XS.iconst X0.here hx rfl (hb hby at_287) ?_
    exact kt
  by_cases hc288 : i13 < (2 : Int32)
  · have pre2 : ∀ target, Steps p.tables e below (T0.setTop (mkF m 301 #[.val (.long j0), .second, .val (.int i2), .val (.int i3), .val (.int i4), .val (.long j5), .second, .val (.ref a7), .val (.int i8), .val (.int i9), .val (.long j10), .second, .val (.int i12), .val (.int i13), .val (.int i14), .val (.int i15), .val (.int i16), .val (.int i17), .val (.int i18), .val (.int i19), .unset, .unset, .unset, .unset, .unset, .unset] [(.int (1 : Int32)), (.int i13)])) target → Steps p.tables e below (T0.setTop (mkF m 285 #[.val (.long j0), .second, .val (.int i2), .val (.int i3), .val (.int i4), .val (.long j5), .second, .val (.ref a7), .val (.int i8), .val (.int i9), .val (.long j10), .second, .val (.int i12), .val (.int i13), .val (.int i14), .val (.int i15), .val (.int i16), .val (.int i17), .val (.int i18), .val (.int i19), .unset, .unset, .unset, .unset, .unset, .unset] [])) target := by
      intro target kt
      refine pre1 target ?_
      show Steps p.tables e below (T0.setTop (mkF m 288 #[.val (.long j0), .second, .val (.int i2), .val (.int i3), .val (.int i4), .val (.long j5), .second, .val (.ref a7), .val (.int i8), .val (.int i9), .val (.long j10), .second, .val (.int i12), .val (.int i13), .val (.int i14), .val (.int i15), .val (.int i16), .val (.int i17), .val (.int i18), .val (.int i19), .unset, .unset, .unset, .unset, .unset, .unset] [(.int (2 : Int32)), (.int i13)])) _
      refine XS.icmpYes X0.here hx rfl (pc0 := 288) (pc' := 298) rfl (hb hby at_288) rfl (tlt hc288).1 (by decide) (by decide) ?_
      show Steps p.tables e below (T0.setTop (mkF m 298 #[.val (.long j0), .second, .val (.int i2), .val (.int i3), .val (.int i4), .val (.long j5), .second, .val (.ref a7), .val (.int i8), .val (.int i9), .val (.long j10), .second, .val (.int i12), .val (.int i13), .val (.int i14), .val (.int i15), .val (.int i16), .val (.int i17), .val (.int i18), .val (.int i19), .unset, .unset, .unset, .unset, .unset, .unset] [])) _
      refine XS.iload X0.here hx rfl (hb hby at_298) rfl ?_
      show Steps p.tables e below (T0.setTop (mkF m 300 #[.val (.long j0), .second, .val (.int i2), .val (.int i3), .val (.int i4), .val (.long j5), .second, .val (.ref a7), .val (.int i8), .val (.int i9), .val (.long j10), .second, .val (.int i12), .val (.int i13), .val (.int i14), .val (.int i15), .val (.int i16), .val (.int i17), .val (.int i18), .val (.int i19), .unset, .unset, .unset, .unset, .unset, .unset] [(.int i13)])) _
      refine XS.iconst X0.here hx rfl (hb hby at_300) ?_
      exact kt
    by_cases hc301 : i13 = (1 : Int32)
    · have pre3 : ∀ target, Steps p.tables e below (T0.setTop (mkF m 308 #[.val (.long j0), .second, .val (.int i2), .val (.int i3), .val (.int i4), .val (.long j5), .second, .val (.ref a7), .val (.int i8), .val (.int i9), .val (.long j10), .second, .val (.int i12), .val (.int i13), .val (.int i14), .val (.int i15), .val (.int i16), .val (.int i17), .val (.int i18), .val (.int i19), .unset, .unset, .unset, .unset, .unset, .unset] [(.int (lcmpW j10 (0 : Int64)))])) target → Steps p.tables e below (T0.setTop (mkF m 285 #[.val (.long j0), .second, .val (.int i2), .val (.int i3), .val (.int i4), .val (.long j5), .second, .val (.ref a7), .val (.int i8), .val (.int i9), .val (.long j10), .second, .val (.int i12), .val (.int i13), .val (.int i14), .val (.int i15), .val (.int i16), .val (.int i17), .val (.int i18), .val (.int i19), .unset, .unset, .unset, .unset, .unset, .unset] [])) target := by
        intro target kt
        refine pre2 target ?_
        show Steps p.tables e below (T0.setTop (mkF m 301 #[.val (.long j0), .second, .val (.int i2), .val (.int i3), .val (.int i4), .val (.long j5), .second, .val (.ref a7), .val (.int i8), .val (.int i9), .val (.long j10), .second, .val (.int i12), .val (.int i13), .val (.int i14), .val (.int i15), .val (.int i16), .val (.int i17), .val (.int i18), .val (.int i19), .unset, .unset, .unset, .unset, .unset, .unset] [(.int (1 : Int32)), (.int i13)])) _
        refine XS.icmpNo X0.here hx rfl (hb hby at_301) rfl (teq hc301).2 ?_
        show Steps p.tables e below (T0.setTop (mkF m 304 #[.val (.long j0), .second, .val (.int i2), .val (.int i3), .val (.int i4), .val (.long j5), .second, .val (.ref a7), .val (.int i8), .val (.int i9), .val (.long j10), .second, .val (.int i12), .val (.int i13), .val (.int i14), .val (.int i15), .val (.int i16), .val (.int i17), .val (.int i18), .val (.int i19), .unset, .unset, .unset, .unset, .unset, .unset] [])) _
        refine XS.lload X0.here hx rfl (hb hby at_304) rfl ?_
        show Steps p.tables e below (T0.setTop (mkF m 306 #[.val (.long j0), .second, .val (.int i2), .val (.int i3), .val (.int i4), .val (.long j5), .second, .val (.ref a7), .val (.int i8), .val (.int i9), .val (.long j10), .second, .val (.int i12), .val (.int i13), .val (.int i14), .val (.int i15), .val (.int i16), .val (.int i17), .val (.int i18), .val (.int i19), .unset, .unset, .unset, .unset, .unset, .unset] [(.long j10)])) _
        refine XS.lconst X0.here hx rfl (hb hby at_306) ?_
        show Steps p.tables e below (T0.setTop (mkF m 307 #[.val (.long j0), .second, .val (.int i2), .val (.int i3), .val (.int i4), .val (.long j5), .second, .val (.ref a7), .val (.int i8), .val (.int i9), .val (.long j10), .second, .val (.int i12), .val (.int i13), .val (.int i14), .val (.int i15), .val (.int i16), .val (.int i17), .val (.int i18), .val (.int i19), .unset, .unset, .unset, .unset, .unset, .unset] [(.long (0 : Int64)), (.long j10)])) _
        refine XS.lcmp X0.here hx rfl (hb hby at_307) rfl ?_
        exact kt
      by_cases hc308 : j10 = (0 : Int64)
      · have pre4 : ∀ target, Steps p.tables e below (T0.setTop (mkF m 313 #[.val (.long j0), .second, .val (.int i2), .val (.int i3), .val (.int i4), .val (.long j5), .second, .val (.ref a7), .val (.int i8), .val (.int i9), .val (.long j10), .second, .val (.int i12), .val (.int i13), .val (.int i14), .val (.int i15), .val (.int i16), .val (.int i17), .val (.int i18), .val (.int i19), .unset, .unset, .unset, .unset, .unset, .unset] [(.int i12)])) target → Steps p.tables e below (T0.setTop (mkF m 285 #[.val (.long j0), .second, .val (.int i2), .val (.int i3), .val (.int i4), .val (.long j5), .second, .val (.ref a7), .val (.int i8), .val (.int i9), .val (.long j10), .second, .val (.int i12), .val (.int i13), .val (.int i14), .val (.int i15), .val (.int i16), .val (.int i17), .val (.int i18), .val (.int i19), .unset, .unset, .unset, .unset, .unset, .unset] [])) target := by
          intro target kt
          refine pre3 target ?_
          show Steps p.tables e below (T0.setTop (mkF m 308 #[.val (.long j0), .second, .val (.int i2), .val (.int i3), .val (.int i4), .val (.long j5), .second, .val (.ref a7), .val (.int i8), .val (.int i9), .val (.long j10), .second, .val (.int i12), .val (.int i13), .val (.int i14), .val (.int i15), .val (.int i16), .val (.int i17), .val (.int i18), .val (.int i19), .unset, .unset, .unset, .unset, .unset, .unset] [(.int (lcmpW j10 (0 : Int64)))])) _
          refine XS.ifNo X0.here hx rfl (hb hby at_308) rfl ((if0 _ _).trans (teq ((lw_eq _ _).mpr hc308)).2) ?_
          show Steps p.tables e below (T0.setTop (mkF m 311 #[.val (.long j0), .second, .val (.int i2), .val (.int i3), .val (.int i4), .val (.long j5), .second, .val (.ref a7), .val (.int i8), .val (.int i9), .val (.long j10), .second, .val (.int i12), .val (.int i13), .val (.int i14), .val (.int i15), .val (.int i16), .val (.int i17), .val (.int i18), .val (.int i19), .unset, .unset, .unset, .unset, .unset, .unset] [])) _
          refine XS.iload X0.here hx rfl (hb hby at_311) rfl ?_
          exact kt
        by_cases hc313 : i12 = (0 : Int32)
        · have pre5 : ∀ target, Steps p.tables e below (T0.setTop (mkF m 334 #[.val (.long j0), .second, .val (.int i2), .val (.int i3), .val (.int i4), .val (.long j5), .second, .val (.ref a7), .val (.int i8), .val (.int i9), .val (.long j10), .second, .val (.int i12), .val (.int i13), .val (.int i14), .val (.int i15), .val (.int i16), .val (.int i17), .val (.int i18), .val (.int i19), .unset, .unset, .unset, .unset, .unset, .unset] [(.long j5)])) target → Steps p.tables e below (T0.setTop (mkF m 285 #[.val (.long j0), .second, .val (.int i2), .val (.int i3), .val (.int i4), .val (.long j5), .second, .val (.ref a7), .val (.int i8), .val (.int i9), .val (.long j10), .second, .val (.int i12), .val (.int i13), .val (.int i14), .val (.int i15), .val (.int i16), .val (.int i17), .val (.int i18), .val (.int i19), .unset, .unset, .unset, .unset, .unset, .unset] [])) target := by
            intro target kt
            refine pre4 target ?_
            show Steps p.tables e below (T0.setTop (mkF m 313 #[.val (.long j0), .second, .val (.int i2), .val (.int i3), .val (.int i4), .val (.long j5), .second, .val (.ref a7), .val (.int i8), .val (.int i9), .val (.long j10), .second, .val (.int i12), .val (.int i13), .val (.int i14), .val (.int i15), .val (.int i16), .val (.int i17), .val (.int i18), .val (.int i19), .unset, .unset, .unset, .unset, .unset, .unset] [(.int i12)])) _
            refine XS.ifNo X0.here hx rfl (hb hby at_313) rfl ((if0 _ _).trans (teq hc313).2) ?_
            show Steps p.tables e below (T0.setTop (mkF m 316 #[.val (.long j0), .second, .val (.int i2), .val (.int i3), .val (.int i4), .val (.long j5), .second, .val (.ref a7), .val (.int i8), .val (.int i9), .val (.long j10), .second, .val (.int i12), .val (.int i13), .val (.int i14), .val (.int i15), .val (.int i16), .val (.int i17), .val (.int i18), .val (.int i19), .unset, .unset, .unset, .unset, .unset, .unset] [])) _
            refine XS.lload X0.here hx rfl (hb hby at_316) rfl ?_
            show Steps p.tables e below (T0.setTop (mkF m 318 #[.val (.long j0), .second, .val (.int i2), .val (.int i3), .val (.int i4), .val (.long j5), .second, .val (.ref a7), .val (.int i8), .val (.int i9), .val (.long j10), .second, .val (.int i12), .val (.int i13), .val (.int i14), .val (.int i15), .val (.int i16), .val (.int i17), .val (.int i18), .val (.int i19), .unset, .unset, .unset, .unset, .unset, .unset] [(.long j5)])) _
            refine XS.goto X0.here hx rfl (pc0 := 318) (pc' := 334) rfl (hb hby at_318) (by decide) (by decide) ?_
            exact kt
          have hI6 : n_a7 = 24 ∧ 0 ≤ i18.toInt ∧ i18.toInt ≤ 24 ∧ i19.toInt ≤ 24 := by exact hI
          obtain ⟨T6, L6, k6, n6, X6, N6, hk6', hn6, st6⟩ := own_b0_334 hx hZ hw hby hml hown hret j0 i2 i3 i4 j5 a7 i8 i9 j10 i12 i13 i14 i15 i16 i17 i18 i19 j5 n_a7 A_a7 X0 e0 N0 Z0 g_a7 V_a7 hI6
          have hv : (own_f0_285 j0 i2 i3 i4 j5 i8 i9 j10 i12 i13 i14 i15 i16 i17 i18 i19 n_a7 A_a7) = (own_f0_334 j0 i2 i3 i4 j5 i8 i9 j10 i12 i13 i14 i15 i16 i17 i18 i19 j5 n_a7 A_a7) := by unfold own_f0_285; rw [if_pos hc288, if_pos hc301, if_pos hc308, if_pos hc313]
          exact ⟨T6, L6, k6, n6, X6, N6, hk6', hn6, fun fs hr => pre5 _ (st6 fs (by rw [hv] at hr; exact hr))⟩
        · have pre7 : ∀ target, Steps p.tables e below (T0.setTop (mkF m 321 #[.val (.long j0), .second, .val (.int i2), .val (.int i3), .val (.int i4), .val (.long j5), .second, .val (.ref a7), .val (.int i8), .val (.int i9), .val (.long j10), .second, .val (.int i12), .val (.int i13), .val (.int i14), .val (.int i15), .val (.int i16), .val (.int i17), .val (.int i18), .val (.int i19), .unset, .unset, .unset, .unset, .unset, .unset] [])) target → Steps p.tables e below (T0.setTop (mkF m 285 #[.val (.long j0), .second, .val (.int i2), .val (.int i3), .val (.int i4), .val (.long j5), .second, .val (.ref a7), .val (.int i8), .val (.int i9), .val (.long j10), .second, .val (.int i12), .val (.int i13), .val (.int i14), .val (.int i15), .val (.int i16), .val (.int i17), .val (.int i18), .val (.int i19), .unset, .unset, .unset, .unset, .unset, .unset] [])) target := by
            intro target kt
            refine pre4 target ?_
            show Steps p.tables e below (T0.setTop (mkF m 313 #[.val (.long j0), .second, .val (.int i2), .val (.int i3), .val (.int i4), .val (.long j5), .second, .val (.ref a7), .val (.int i8), .val (.int i9), .val (.long j10), .second, .val (.int i12), .val (.int i13), .val (.int i14), .val (.int i15), .val (.int i16), .val (.int i17), .val (.int i18), .val (.int i19), .unset, .unset, .unset, .unset, .unset, .unset] [(.int i12)])) _
            refine XS.ifYes X0.here hx rfl (pc0 := 313) (pc' := 321) rfl (hb hby at_313) rfl ((if0 _ _).trans (feq hc313).2) (by decide) (by decide) ?_
            exact kt
          have hI8 : n_a7 = 24 ∧ 0 ≤ i18.toInt ∧ i18.toInt ≤ 24 ∧ i19.toInt ≤ 24 := by exact hI
          obtain ⟨T8, L8, k8, n8, X8, N8, hk8', hn8, st8⟩ := own_b0_321 hx hZ hw hby hml hown hret j0 i2 i3 i4 j5 a7 i8 i9 j10 i12 i13 i14 i15 i16 i17 i18 i19 n_a7 A_a7 X0 e0 N0 Z0 g_a7 V_a7 hI8
          have hv : (own_f0_285 j0 i2 i3 i4 j5 i8 i9 j10 i12 i13 i14 i15 i16 i17 i18 i19 n_a7 A_a7) = (own_f0_321 j0 i2 i3 i4 j5 i8 i9 j10 i12 i13 i14 i15 i16 i17 i18 i19 n_a7 A_a7) := by unfold own_f0_285; rw [if_pos hc288, if_pos hc301, if_pos hc308, if_neg hc313]
          exact ⟨T8, L8, k8, n8, X8, N8, hk8', hn8, fun fs hr => pre7 _ (st8 fs (by rw [hv] at hr; exact hr))⟩
      · have pre9 : ∀ target, Steps p.tables e below (T0.setTop (mkF m 321 #[.val (.long j0), .second, .val (.int i2), .val (.int i3), .val (.int i4), .val (.long j5), .second, .val (.ref a7), .val (.int i8), .val (.int i9), .val (.long j10), .second, .val (.int i12), .val (.int i13), .val (.int i14), .val (.int i15), .val (.int i16), .val (.int i17), .val (.int i18), .val (.int i19), .unset, .unset, .unset, .unset, .unset, .unset] [])) target → Steps p.tables e below (T0.setTop (mkF m 285 #[.val (.long j0), .second, .val (.int i2), .val (.int i3), .val (.int i4), .val (.long j5), .second, .val (.ref a7), .val (.int i8), .val (.int i9), .val (.long j10), .second, .val (.int i12), .val (.int i13), .val (.int i14), .val (.int i15), .val (.int i16), .val (.int i17), .val (.int i18), .val (.int i19), .unset, .unset, .unset, .unset, .unset, .unset] [])) target := by
          intro target kt
          refine pre3 target ?_
          show Steps p.tables e below (T0.setTop (mkF m 308 #[.val (.long j0), .second, .val (.int i2), .val (.int i3), .val (.int i4), .val (.long j5), .second, .val (.ref a7), .val (.int i8), .val (.int i9), .val (.long j10), .second, .val (.int i12), .val (.int i13), .val (.int i14), .val (.int i15), .val (.int i16), .val (.int i17), .val (.int i18), .val (.int i19), .unset, .unset, .unset, .unset, .unset, .unset] [(.int (lcmpW j10 (0 : Int64)))])) _
          refine XS.ifYes X0.here hx rfl (pc0 := 308) (pc' := 321) rfl (hb hby at_308) rfl ((if0 _ _).trans (feq (mt (lw_eq _ _).mp hc308)).2) (by decide) (by decide) ?_
          exact kt
        have hI10 : n_a7 = 24 ∧ 0 ≤ i18.toInt ∧ i18.toInt ≤ 24 ∧ i19.toInt ≤ 24 := by exact hI
        obtain ⟨T10, L10, k10, n10, X10, N10, hk10', hn10, st10⟩ := own_b0_321 hx hZ hw hby hml hown hret j0 i2 i3 i4 j5 a7 i8 i9 j10 i12 i13 i14 i15 i16 i17 i18 i19 n_a7 A_a7 X0 e0 N0 Z0 g_a7 V_a7 hI10
        have hv : (own_f0_285 j0 i2 i3 i4 j5 i8 i9 j10 i12 i13 i14 i15 i16 i17 i18 i19 n_a7 A_a7) = (own_f0_321 j0 i2 i3 i4 j5 i8 i9 j10 i12 i13 i14 i15 i16 i17 i18 i19 n_a7 A_a7) := by unfold own_f0_285; rw [if_pos hc288, if_pos hc301, if_neg hc308]
        exact ⟨T10, L10, k10, n10, X10, N10, hk10', hn10, fun fs hr => pre9 _ (st10 fs (by rw [hv] at hr; exact hr))⟩
    · have pre11 : ∀ target, Steps p.tables e below (T0.setTop (mkF m 341 #[.val (.long j0), .second, .val (.int i2), .val (.int i3), .val (.int i4), .val (.long j5), .second, .val (.ref a7), .val (.int i8), .val (.int i9), .val (.long j10), .second, .val (.int i12), .val (.int i13), .val (.int i14), .val (.int i15), .val (.int i16), .val (.int i17), .val (.int i18), .val (.int i19), .unset, .unset, .unset, .unset, .unset, .unset] [(.int i17)])) target → Steps p.tables e below (T0.setTop (mkF m 285 #[.val (.long j0), .second, .val (.int i2), .val (.int i3), .val (.int i4), .val (.long j5), .second, .val (.ref a7), .val (.int i8), .val (.int i9), .val (.long j10), .second, .val (.int i12), .val (.int i13), .val (.int i14), .val (.int i15), .val (.int i16), .val (.int i17), .val (.int i18), .val (.int i19), .unset, .unset, .unset, .unset, .unset, .unset] [])) target := by
        intro target kt
        refine pre2 target ?_
        show Steps p.tables e below (T0.setTop (mkF m 301 #[.val (.long j0), .second, .val (.int i2), .val (.int i3), .val (.int i4), .val (.long j5), .second, .val (.ref a7), .val (.int i8), .val (.int i9), .val (.long j10), .second, .val (.int i12), .val (.int i13), .val (.int i14), .val (.int i15), .val (.int i16), .val (.int i17), .val (.int i18), .val (.int i19), .unset, .unset, .unset, .unset, .unset, .unset] [(.int (1 : Int32)), (.int i13)])) _
        refine XS.icmpYes X0.here hx rfl (pc0 := 301) (pc' := 339) rfl (hb hby at_301) rfl (feq hc301).2 (by decide) (by decide) ?_
        show Steps p.tables e below (T0.setTop (mkF m 339 #[.val (.long j0), .second, .val (.int i2), .val (.int i3), .val (.int i4), .val (.long j5), .second, .val (.ref a7), .val (.int i8), .val (.int i9), .val (.long j10), .second, .val (.int i12), .val (.int i13), .val (.int i14), .val (.int i15), .val (.int i16), .val (.int i17), .val (.int i18), .val (.int i19), .unset, .unset, .unset, .unset, .unset, .unset] [])) _
        refine XS.iload X0.here hx rfl (hb hby at_339) rfl ?_
        exact kt
      by_cases hc341 : i17 = (0 : Int32)
      · have pre12 : ∀ target, Steps p.tables e below (T0.setTop (mkF m 359 #[.val (.long j0), .second, .val (.int i2), .val (.int i3), .val (.int i4), .val (.long j5), .second, .val (.ref a7), .val (.int i8), .val (.int i9), .val (.long j10), .second, .val (.int i12), .val (.int i13), .val (.int i14), .val (.int i15), .val (.int i16), .val (.int i17), .val (.int i18), .val (.int i19), .unset, .unset, .val (.int (i2.toInt8.toInt32)), .unset, .unset, .unset] [(.int (48 : Int32)), (.int (i2.toInt8.toInt32))])) target → Steps p.tables e below (T0.setTop (mkF m 285 #[.val (.long j0), .second, .val (.int i2), .val (.int i3), .val (.int i4), .val (.long j5), .second, .val (.ref a7), .val (.int i8), .val (.int i9), .val (.long j10), .second, .val (.int i12), .val (.int i13), .val (.int i14), .val (.int i15), .val (.int i16), .val (.int i17), .val (.int i18), .val (.int i19), .unset, .unset, .unset, .unset, .unset, .unset] [])) target := by
          intro target kt
          refine pre11 target ?_
          show Steps p.tables e below (T0.setTop (mkF m 341 #[.val (.long j0), .second, .val (.int i2), .val (.int i3), .val (.int i4), .val (.long j5), .second, .val (.ref a7), .val (.int i8), .val (.int i9), .val (.long j10), .second, .val (.int i12), .val (.int i13), .val (.int i14), .val (.int i15), .val (.int i16), .val (.int i17), .val (.int i18), .val (.int i19), .unset, .unset, .unset, .unset, .unset, .unset] [(.int i17)])) _
          refine XS.ifYes X0.here hx rfl (pc0 := 341) (pc' := 351) rfl (hb hby at_341) rfl ((if0 _ _).trans (teq hc341).1) (by decide) (by decide) ?_
          show Steps p.tables e below (T0.setTop (mkF m 351 #[.val (.long j0), .second, .val (.int i2), .val (.int i3), .val (.int i4), .val (.long j5), .second, .val (.ref a7), .val (.int i8), .val (.int i9), .val (.long j10), .second, .val (.int i12), .val (.int i13), .val (.int i14), .val (.int i15), .val (.int i16), .val (.int i17), .val (.int i18), .val (.int i19), .unset, .unset, .unset, .unset, .unset, .unset] [])) _
          refine XS.iloadN X0.here hx rfl (hb hby at_351) rfl ?_
          show Steps p.tables e below (T0.setTop (mkF m 352 #[.val (.long j0), .second, .val (.int i2), .val (.int i3), .val (.int i4), .val (.long j5), .second, .val (.ref a7), .val (.int i8), .val (.int i9), .val (.long j10), .second, .val (.int i12), .val (.int i13), .val (.int i14), .val (.int i15), .val (.int i16), .val (.int i17), .val (.int i18), .val (.int i19), .unset, .unset, .unset, .unset, .unset, .unset] [(.int i2)])) _
          refine XS.i2b X0.here hx rfl (hb hby at_352) rfl ?_
          show Steps p.tables e below (T0.setTop (mkF m 353 #[.val (.long j0), .second, .val (.int i2), .val (.int i3), .val (.int i4), .val (.long j5), .second, .val (.ref a7), .val (.int i8), .val (.int i9), .val (.long j10), .second, .val (.int i12), .val (.int i13), .val (.int i14), .val (.int i15), .val (.int i16), .val (.int i17), .val (.int i18), .val (.int i19), .unset, .unset, .unset, .unset, .unset, .unset] [(.int (i2.toInt8.toInt32))])) _
          refine XS.istore X0.here hx rfl (hb hby at_353) rfl (l' := #[.val (.long j0), .second, .val (.int i2), .val (.int i3), .val (.int i4), .val (.long j5), .second, .val (.ref a7), .val (.int i8), .val (.int i9), .val (.long j10), .second, .val (.int i12), .val (.int i13), .val (.int i14), .val (.int i15), .val (.int i16), .val (.int i17), .val (.int i18), .val (.int i19), .unset, .unset, .val (.int (i2.toInt8.toInt32)), .unset, .unset, .unset]) rfl ?_
          show Steps p.tables e below (T0.setTop (mkF m 355 #[.val (.long j0), .second, .val (.int i2), .val (.int i3), .val (.int i4), .val (.long j5), .second, .val (.ref a7), .val (.int i8), .val (.int i9), .val (.long j10), .second, .val (.int i12), .val (.int i13), .val (.int i14), .val (.int i15), .val (.int i16), .val (.int i17), .val (.int i18), .val (.int i19), .unset, .unset, .val (.int (i2.toInt8.toInt32)), .unset, .unset, .unset] [])) _
          refine XS.iload X0.here hx rfl (hb hby at_355) rfl ?_
          show Steps p.tables e below (T0.setTop (mkF m 357 #[.val (.long j0), .second, .val (.int i2), .val (.int i3), .val (.int i4), .val (.long j5), .second, .val (.ref a7), .val (.int i8), .val (.int i9), .val (.long j10), .second, .val (.int i12), .val (.int i13), .val (.int i14), .val (.int i15), .val (.int i16), .val (.int i17), .val (.int i18), .val (.int i19), .unset, .unset, .val (.int (i2.toInt8.toInt32)), .unset, .unset, .unset] [(.int (i2.toInt8.toInt32))])) _
          refine XS.bipush X0.here hx rfl (hb hby at_357) ?_
          exact kt
        by_cases hc359 : (i2.toInt8.toInt32) < (48 : Int32)
        · have pre13 : ∀ target, Steps p.tables e below (T0.setTop (mkF m 369 #[.val (.long j0), .second, .val (.int i2), .val (.int i3), .val (.int i4), .val (.long j5), .second, .val (.ref a7), .val (.int i8), .val (.int i9), .val (.long j10), .second, .val (.int i12), .val (.int i13), .val (.int i14), .val (.int i15), .val (.int i16), .val (.int i17), .val (.int i18), .val (.int i19), .unset, .unset, .val (.int (i2.toInt8.toInt32)), .unset, .unset, .unset] [])) target → Steps p.tables e below (T0.setTop (mkF m 285 #[.val (.long j0), .second, .val (.int i2), .val (.int i3), .val (.int i4), .val (.long j5), .second, .val (.ref a7), .val (.int i8), .val (.int i9), .val (.long j10), .second, .val (.int i12), .val (.int i13), .val (.int i14), .val (.int i15), .val (.int i16), .val (.int i17), .val (.int i18), .val (.int i19), .unset, .unset, .unset, .unset, .unset, .unset] [])) target := by
            intro target kt
            refine pre12 target ?_
            show Steps p.tables e below (T0.setTop (mkF m 359 #[.val (.long j0), .second, .val (.int i2), .val (.int i3), .val (.int i4), .val (.long j5), .second, .val (.ref a7), .val (.int i8), .val (.int i9), .val (.long j10), .second, .val (.int i12), .val (.int i13), .val (.int i14), .val (.int i15), .val (.int i16), .val (.int i17), .val (.int i18), .val (.int i19), .unset, .unset, .val (.int (i2.toInt8.toInt32)), .unset, .unset, .unset] [(.int (48 : Int32)), (.int (i2.toInt8.toInt32))])) _
            refine XS.icmpYes X0.here hx rfl (pc0 := 359) (pc' := 369) rfl (hb hby at_359) rfl (tlt hc359).1 (by decide) (by decide) ?_
            exact kt
          have hI14 : n_a7 = 24 ∧ 0 ≤ i18.toInt ∧ i18.toInt ≤ 24 ∧ i19.toInt ≤ 24 := by exact hI
          obtain ⟨T14, L14, k14, n14, X14, N14, hk14', hn14, st14⟩ := own_b0_369 hx hZ hw hby hml hown hret j0 i2 i3 i4 j5 a7 i8 i9 j10 i12 i13 i14 i15 i16 i17 i18 i19 (i2.toInt8.toInt32) n_a7 A_a7 X0 e0 N0 Z0 g_a7 V_a7 hI14
          have hv : (own_f0_285 j0 i2 i3 i4 j5 i8 i9 j10 i12 i13 i14 i15 i16 i17 i18 i19 n_a7 A_a7) = (own_f0_369 j0 i2 i3 i4 j5 i8 i9 j10 i12 i13 i14 i15 i16 i17 i18 i19 (i2.toInt8.toInt32) n_a7 A_a7) := by unfold own_f0_285; rw [if_pos hc288, if_neg hc301, if_pos hc341, if_pos hc359]
          exact ⟨T14, L14, k14, n14, X14, N14, hk14', hn14, fun fs hr => pre13 _ (st14 fs (by rw [hv] at hr; exact hr))⟩
        · have pre15 : ∀ target, Steps p.tables e below (T0.setTop (mkF m 366 #[.val (.long j0), .second, .val (.int i2), .val (.int i3), .val (.int i4), .val (.long j5), .second, .val (.ref a7), .val (.int i8), .val (.int i9), .val (.long j10), .second, .val (.int i12), .val (.int i13), .val (.int i14), .val (.int i15), .val (.int i16), .val (.int i17), .val (.int i18), .val (.int i19), .unset, .unset, .val (.int (i2.toInt8.toInt32)), .unset, .unset, .unset] [(.int (57 : Int32)), (.int (i2.toInt8.toInt32))])) target → Steps p.tables e below (T0.setTop (mkF m 285 #[.val (.long j0), .second, .val (.int i2), .val (.int i3), .val (.int i4), .val (.long j5), .second, .val (.ref a7), .val (.int i8), .val (.int i9), .val (.long j10), .second, .val (.int i12), .val (.int i13), .val (.int i14), .val (.int i15), .val (.int i16), .val (.int i17), .val (.int i18), .val (.int i19), .unset, .unset, .unset, .unset, .unset, .unset] [])) target := by
            intro target kt
            refine pre12 target ?_
            show Steps p.tables e below (T0.setTop (mkF m 359 #[.val (.long j0), .second, .val (.int i2), .val (.int i3), .val (.int i4), .val (.long j5), .second, .val (.ref a7), .val (.int i8), .val (.int i9), .val (.long j10), .second, .val (.int i12), .val (.int i13), .val (.int i14), .val (.int i15), .val (.int i16), .val (.int i17), .val (.int i18), .val (.int i19), .unset, .unset, .val (.int (i2.toInt8.toInt32)), .unset, .unset, .unset] [(.int (48 : Int32)), (.int (i2.toInt8.toInt32))])) _
            refine XS.icmpNo X0.here hx rfl (hb hby at_359) rfl (flt hc359).1 ?_
            show Steps p.tables e below (T0.setTop (mkF m 362 #[.val (.long j0), .second, .val (.int i2), .val (.int i3), .val (.int i4), .val (.long j5), .second, .val (.ref a7), .val (.int i8), .val (.int i9), .val (.long j10), .second, .val (.int i12), .val (.int i13), .val (.int i14), .val (.int i15), .val (.int i16), .val (.int i17), .val (.int i18), .val (.int i19), .unset, .unset, .val (.int (i2.toInt8.toInt32)), .unset, .unset, .unset] [])) _
            refine XS.iload X0.here hx rfl (hb hby at_362) rfl ?_
            show Steps p.tables e below (T0.setTop (mkF m 364 #[.val (.long j0), .second, .val (.int i2), .val (.int i3), .val (.int i4), .val (.long j5), .second, .val (.ref a7), .val (.int i8), .val (.int i9), .val (.long j10), .second, .val (.int i12), .val (.int i13), .val (.int i14), .val (.int i15), .val (.int i16), .val (.int i17), .val (.int i18), .val (.int i19), .unset, .unset, .val (.int (i2.toInt8.toInt32)), .unset, .unset, .unset] [(.int (i2.toInt8.toInt32))])) _
            refine XS.bipush X0.here hx rfl (hb hby at_364) ?_
            exact kt
          by_cases hc366 : (57 : Int32) < (i2.toInt8.toInt32)
          · have pre16 : ∀ target, Steps p.tables e below (T0.setTop (mkF m 369 #[.val (.long j0), .second, .val (.int i2), .val (.int i3), .val (.int i4), .val (.long j5), .second, .val (.ref a7), .val (.int i8), .val (.int i9), .val (.long j10), .second, .val (.int i12), .val (.int i13), .val (.int i14), .val (.int i15), .val (.int i16), .val (.int i17), .val (.int i18), .val (.int i19), .unset, .unset, .val (.int (i2.toInt8.toInt32)), .unset, .unset, .unset] [])) target → Steps p.tables e below (T0.setTop (mkF m 285 #[.val (.long j0), .second, .val (.int i2), .val (.int i3), .val (.int i4), .val (.long j5), .second, .val (.ref a7), .val (.int i8), .val (.int i9), .val (.long j10), .second, .val (.int i12), .val (.int i13), .val (.int i14), .val (.int i15), .val (.int i16), .val (.int i17), .val (.int i18), .val (.int i19), .unset, .unset, .unset, .unset, .unset, .unset] [])) target := by
              intro target kt
              refine pre15 target ?_
              show Steps p.tables e below (T0.setTop (mkF m 366 #[.val (.long j0), .second, .val (.int i2), .val (.int i3), .val (.int i4), .val (.long j5), .second, .val (.ref a7), .val (.int i8), .val (.int i9), .val (.long j10), .second, .val (.int i12), .val (.int i13), .val (.int i14), .val (.int i15), .val (.int i16), .val (.int i17), .val (.int i18), .val (.int i19), .unset, .unset, .val (.int (i2.toInt8.toInt32)), .unset, .unset, .unset] [(.int (57 : Int32)), (.int (i2.toInt8.toInt32))])) _
              refine XS.icmpNo X0.here hx rfl (hb hby at_366) rfl (tlt hc366).2.2.2 ?_
              exact kt
            have hI17 : n_a7 = 24 ∧ 0 ≤ i18.toInt ∧ i18.toInt ≤ 24 ∧ i19.toInt ≤ 24 := by exact hI
            obtain ⟨T17, L17, k17, n17, X17, N17, hk17', hn17, st17⟩ := own_b0_369 hx hZ hw hby hml hown hret j0 i2 i3 i4 j5 a7 i8 i9 j10 i12 i13 i14 i15 i16 i17 i18 i19 (i2.toInt8.toInt32) n_a7 A_a7 X0 e0 N0 Z0 g_a7 V_a7 hI17
            have hv : (own_f0_285 j0 i2 i3 i4 j5 i8 i9 j10 i12 i13 i14 i15 i16 i17 i18 i19 n_a7 A_a7) = (own_f0_369 j0 i2 i3 i4 j5 i8 i9 j10 i12 i13 i14 i15 i16 i17 i18 i19 (i2.toInt8.toInt32) n_a7 A_a7) := by unfold own_f0_285; rw [if_pos hc288, if_neg hc301, if_pos hc341, if_neg hc359, if_pos hc366]
            exact ⟨T17, L17, k17, n17, X17, N17, hk17', hn17, fun fs hr => pre16 _ (st17 fs (by rw [hv] at hr; exact hr))⟩
          · have pre18 : ∀ target, Steps p.tables e below (T0.setTop (mkF m 389 #[.val (.long j0), .second, .val (.int i2), .val (.int i3), .val (.int i4), .val (.long j5), .second, .val (.ref a7), .val (.int i8), .val (.int i9), .val (.long j10), .second, .val (.int i12), .val (.int i13), .val (.int i14), .val (.int i15), .val (.int i16), .val (.int i17), .val (.int i18), .val (.int i19), .unset, .unset, .val (.int (i2.toInt8.toInt32)), .val (.int ((i2.toInt8.toInt32) - (48 : Int32))), .unset, .unset] [(.int (lcmpW j10 (922337203685477580 : Int64)))])) target → Steps p.tables e below (T0.setTop (mkF m 285 #[.val (.long j0), .second, .val (.int i2), .val (.int i3), .val (.int i4), .val (.long j5), .second, .val (.ref a7), .val (.int i8), .val (.int i9), .val (.long j10), .second, .val (.int i12), .val (.int i13), .val (.int i14), .val (.int i15), .val (.int i16), .val (.int i17), .val (.int i18), .val (.int i19), .unset, .unset, .unset, .unset, .unset, .unset] [])) target := by
              intro target kt
              refine pre15 target ?_
              show Steps p.tables e below (T0.setTop (mkF m 366 #[.val (.long j0), .second, .val (.int i2), .val (.int i3), .val (.int i4), .val (.long j5), .second, .val (.ref a7), .val (.int i8), .val (.int i9), .val (.long j10), .second, .val (.int i12), .val (.int i13), .val (.int i14), .val (.int i15), .val (.int i16), .val (.int i17), .val (.int i18), .val (.int i19), .unset, .unset, .val (.int (i2.toInt8.toInt32)), .unset, .unset, .unset] [(.int (57 : Int32)), (.int (i2.toInt8.toInt32))])) _
              refine XS.icmpYes X0.here hx rfl (pc0 := 366) (pc' := 376) rfl (hb hby at_366) rfl (flt hc366).2.2.2 (by decide) (by decide) ?_
              show Steps p.tables e below (T0.setTop (mkF m 376 #[.val (.long j0), .second, .val (.int i2), .val (.int i3), .val (.int i4), .val (.long j5), .second, .val (.ref a7), .val (.int i8), .val (.int i9), .val (.long j10), .second, .val (.int i12), .val (.int i13), .val (.int i14), .val (.int i15), .val (.int i16), .val (.int i17), .val (.int i18), .val (.int i19), .unset, .unset, .val (.int (i2.toInt8.toInt32)), .unset, .unset, .unset] [])) _
              refine XS.iload X0.here hx rfl (hb hby at_376) rfl ?_
              show Steps p.tables e below (T0.setTop (mkF m 378 #[.val (.long j0), .second, .val (.int i2), .val (.int i3), .val (.int i4), .val (.long j5), .second, .val (.ref a7), .val (.int i8), .val (.int i9), .val (.long j10), .second, .val (.int i12), .val (.int i13), .val (.int i14), .val (.int i15), .val (.int i16), .val (.int i17), .val (.int i18), .val (.int i19), .unset, .unset, .val (.int (i2.toInt8.toInt32)), .unset, .unset, .unset] [(.int (i2.toInt8.toInt32))])) _
              refine XS.bipush X0.here hx rfl (hb hby at_378) ?_
              show Steps p.tables e below (T0.setTop (mkF m 380 #[.val (.long j0), .second, .val (.int i2), .val (.int i3), .val (.int i4), .val (.long j5), .second, .val (.ref a7), .val (.int i8), .val (.int i9), .val (.long j10), .second, .val (.int i12), .val (.int i13), .val (.int i14), .val (.int i15), .val (.int i16), .val (.int i17), .val (.int i18), .val (.int i19), .unset, .unset, .val (.int (i2.toInt8.toInt32)), .unset, .unset, .unset] [(.int (48 : Int32)), (.int (i2.toInt8.toInt32))])) _
              refine XS.isub X0.here hx rfl (hb hby at_380) rfl ?_
              show Steps p.tables e below (T0.setTop (mkF m 381 #[.val (.long j0), .second, .val (.int i2), .val (.int i3), .val (.int i4), .val (.long j5), .second, .val (.ref a7), .val (.int i8), .val (.int i9), .val (.long j10), .second, .val (.int i12), .val (.int i13), .val (.int i14), .val (.int i15), .val (.int i16), .val (.int i17), .val (.int i18), .val (.int i19), .unset, .unset, .val (.int (i2.toInt8.toInt32)), .unset, .unset, .unset] [(.int ((i2.toInt8.toInt32) - (48 : Int32)))])) _
              refine XS.istore X0.here hx rfl (hb hby at_381) rfl (l' := #[.val (.long j0), .second, .val (.int i2), .val (.int i3), .val (.int i4), .val (.long j5), .second, .val (.ref a7), .val (.int i8), .val (.int i9), .val (.long j10), .second, .val (.int i12), .val (.int i13), .val (.int i14), .val (.int i15), .val (.int i16), .val (.int i17), .val (.int i18), .val (.int i19), .unset, .unset, .val (.int (i2.toInt8.toInt32)), .val (.int ((i2.toInt8.toInt32) - (48 : Int32))), .unset, .unset]) rfl ?_
              show Steps p.tables e below (T0.setTop (mkF m 383 #[.val (.long j0), .second, .val (.int i2), .val (.int i3), .val (.int i4), .val (.long j5), .second, .val (.ref a7), .val (.int i8), .val (.int i9), .val (.long j10), .second, .val (.int i12), .val (.int i13), .val (.int i14), .val (.int i15), .val (.int i16), .val (.int i17), .val (.int i18), .val (.int i19), .unset, .unset, .val (.int (i2.toInt8.toInt32)), .val (.int ((i2.toInt8.toInt32) - (48 : Int32))), .unset, .unset] [])) _
              refine XS.lload X0.here hx rfl (hb hby at_383) rfl ?_
              show Steps p.tables e below (T0.setTop (mkF m 385 #[.val (.long j0), .second, .val (.int i2), .val (.int i3), .val (.int i4), .val (.long j5), .second, .val (.ref a7), .val (.int i8), .val (.int i9), .val (.long j10), .second, .val (.int i12), .val (.int i13), .val (.int i14), .val (.int i15), .val (.int i16), .val (.int i17), .val (.int i18), .val (.int i19), .unset, .unset, .val (.int (i2.toInt8.toInt32)), .val (.int ((i2.toInt8.toInt32) - (48 : Int32))), .unset, .unset] [(.long j10)])) _
              refine X0.ldc2Long hx hown (mvT hZ (hw _ (List.mem_of_getElem? (i := 19) rfl))) (g := (mkF m 385 #[.val (.long j0), .second, .val (.int i2), .val (.int i3), .val (.int i4), .val (.long j5), .second, .val (.ref a7), .val (.int i8), .val (.int i9), .val (.long j10), .second, .val (.int i12), .val (.int i13), .val (.int i14), .val (.int i15), .val (.int i16), .val (.int i17), .val (.int i18), .val (.int i19), .unset, .unset, .val (.int (i2.toInt8.toInt32)), .val (.int ((i2.toInt8.toInt32) - (48 : Int32))), .unset, .unset] [(.long j10)])) rfl (hb hby at_385) _ ?_
              show Steps p.tables e below (T0.setTop (mkF m 388 #[.val (.long j0), .second, .val (.int i2), .val (.int i3), .val (.int i4), .val (.long j5), .second, .val (.ref a7), .val (.int i8), .val (.int i9), .val (.long j10), .second, .val (.int i12), .val (.int i13), .val (.int i14), .val (.int i15), .val (.int i16), .val (.int i17), .val (.int i18), .val (.int i19), .unset, .unset, .val (.int (i2.toInt8.toInt32)), .val (.int ((i2.toInt8.toInt32) - (48 : Int32))), .unset, .unset] [(.long (922337203685477580 : Int64)), (.long j10)])) _
              refine XS.lcmp X0.here hx rfl (hb hby at_388) rfl ?_
              exact kt
            by_cases hc389 : j10 < (922337203685477580 : Int64)
            · have pre19 : ∀ target, Steps p.tables e below (T0.setTop (mkF m 399 #[.val (.long j0), .second, .val (.int i2), .val (.int i3), .val (.int i4), .val (.long j5), .second, .val (.ref a7), .val (.int i8), .val (.int i9), .val (.long j10), .second, .val (.int i12), .val (.int i13), .val (.int i14), .val (.int i15), .val (.int i16), .val (.int i17), .val (.int i18), .val (.int i19), .unset, .unset, .val (.int (i2.toInt8.toInt32)), .val (.int ((i2.toInt8.toInt32) - (48 : Int32))), .unset, .unset] [])) target → Steps p.tables e below (T0.setTop (mkF m 285 #[.val (.long j0), .second, .val (.int i2), .val (.int i3), .val (.int i4), .val (.long j5), .second, .val (.ref a7), .val (.int i8), .val (.int i9), .val (.long j10), .second, .val (.int i12), .val (.int i13), .val (.int i14), .val (.int i15), .val (.int i16), .val (.int i17), .val (.int i18), .val (.int i19), .unset, .unset, .unset, .unset, .unset, .unset] [])) target := by
                intro target kt
                refine pre18 target ?_
                show Steps p.tables e below (T0.setTop (mkF m 389 #[.val (.long j0), .second, .val (.int i2), .val (.int i3), .val (.int i4), .val (.long j5), .second, .val (.ref a7), .val (.int i8), .val (.int i9), .val (.long j10), .second, .val (.int i12), .val (.int i13), .val (.int i14), .val (.int i15), .val (.int i16), .val (.int i17), .val (.int i18), .val (.int i19), .unset, .unset, .val (.int (i2.toInt8.toInt32)), .val (.int ((i2.toInt8.toInt32) - (48 : Int32))), .unset, .unset] [(.int (lcmpW j10 (922337203685477580 : Int64)))])) _
                refine XS.ifYes X0.here hx rfl (pc0 := 389) (pc' := 399) rfl (hb hby at_389) rfl ((if0 _ _).trans (tlt ((lw_lt _ _).mpr hc389)).1) (by decide) (by decide) ?_
                exact kt
              have hI20 : n_a7 = 24 ∧ 0 ≤ i18.toInt ∧ i18.toInt ≤ 24 ∧ i19.toInt ≤ 24 := by exact hI
              obtain ⟨T20, L20, k20, n20, X20, N20, hk20', hn20, st20⟩ := own_b0_399 hx hZ hw hby hml hown hret j0 i2 i3 i4 j5 a7 i8 i9 j10 i12 i13 i14 i15 i16 i17 i18 i19 (i2.toInt8.toInt32) ((i2.toInt8.toInt32) - (48 : Int32)) n_a7 A_a7 X0 e0 N0 Z0 g_a7 V_a7 hI20
              have hv : (own_f0_285 j0 i2 i3 i4 j5 i8 i9 j10 i12 i13 i14 i15 i16 i17 i18 i19 n_a7 A_a7) = (own_f0_399 j0 i2 i3 i4 j5 i8 i9 j10 i12 i13 i14 i15 i16 i17 i18 i19 (i2.toInt8.toInt32) ((i2.toInt8.toInt32) - (48 : Int32)) n_a7 A_a7) := by unfold own_f0_285; rw [if_pos hc288, if_neg hc301, if_pos hc341, if_neg hc359, if_neg hc366, if_pos hc389]
              exact ⟨T20, L20, k20, n20, X20, N20, hk20', hn20, fun fs hr => pre19 _ (st20 fs (by rw [hv] at hr; exact hr))⟩
            · have pre21 : ∀ target, Steps p.tables e below (T0.setTop (mkF m 396 #[.val (.long j0), .second, .val (.int i2), .val (.int i3), .val (.int i4), .val (.long j5), .second, .val (.ref a7), .val (.int i8), .val (.int i9), .val (.long j10), .second, .val (.int i12), .val (.int i13), .val (.int i14), .val (.int i15), .val (.int i16), .val (.int i17), .val (.int i18), .val (.int i19), .unset, .unset, .val (.int (i2.toInt8.toInt32)), .val (.int ((i2.toInt8.toInt32) - (48 : Int32))), .unset, .unset] [(.int (7 : Int32)), (.int ((i2.toInt8.toInt32) - (48 : Int32)))])) target → Steps p.tables e below (T0.setTop (mkF m 285 #[.val (.long j0), .second, .val (.int i2), .val (.int i3), .val (.int i4), .val (.long j5), .second, .val (.ref a7), .val (.int i8), .val (.int i9), .val (.long j10), .second, .val (.int i12), .val (.int i13), .val (.int i14), .val (.int i15), .val (.int i16), .val (.int i17), .val (.int i18), .val (.int i19), .unset, .unset, .unset, .unset, .unset, .unset] [])) target := by
                intro target kt
                refine pre18 target ?_
                show Steps p.tables e below (T0.setTop (mkF m 389 #[.val (.long j0), .second, .val (.int i2), .val (.int i3), .val (.int i4), .val (.long j5), .second, .val (.ref a7), .val (.int i8), .val (.int i9), .val (.long j10), .second, .val (.int i12), .val (.int i13), .val (.int i14), .val (.int i15), .val (.int i16), .val (.int i17), .val (.int i18), .val (.int i19), .unset, .unset, .val (.int (i2.toInt8.toInt32)), .val (.int ((i2.toInt8.toInt32) - (48 : Int32))), .unset, .unset] [(.int (lcmpW j10 (922337203685477580 : Int64)))])) _
                refine XS.ifNo X0.here hx rfl (hb hby at_389) rfl ((if0 _ _).trans (flt (mt (lw_lt _ _).mp hc389)).1) ?_
                show Steps p.tables e below (T0.setTop (mkF m 392 #[.val (.long j0), .second, .val (.int i2), .val (.int i3), .val (.int i4), .val (.long j5), .second, .val (.ref a7), .val (.int i8), .val (.int i9), .val (.long j10), .second, .val (.int i12), .val (.int i13), .val (.int i14), .val (.int i15), .val (.int i16), .val (.int i17), .val (.int i18), .val (.int i19), .unset, .unset, .val (.int (i2.toInt8.toInt32)), .val (.int ((i2.toInt8.toInt32) - (48 : Int32))), .unset, .unset] [])) _
                refine XS.iload X0.here hx rfl (hb hby at_392) rfl ?_
                show Steps p.tables e below (T0.setTop (mkF m 394 #[.val (.long j0), .second, .val (.int i2), .val (.int i3), .val (.int i4), .val (.long j5), .second, .val (.ref a7), .val (.int i8), .val (.int i9), .val (.long j10), .second, .val (.int i12), .val (.int i13), .val (.int i14), .val (.int i15), .val (.int i16), .val (.int i17), .val (.int i18), .val (.int i19), .unset, .unset, .val (.int (i2.toInt8.toInt32)), .val (.int ((i2.toInt8.toInt32) - (48 : Int32))), .unset, .unset] [(.int ((i2.toInt8.toInt32) - (48 : Int32)))])) _
                refine XS.bipush X0.here hx rfl (hb hby at_394) ?_
                exact kt
              by_cases hc396 : (7 : Int32) < ((i2.toInt8.toInt32) - (48 : Int32))
              · have pre22 : ∀ target, Steps p.tables e below (T0.setTop (mkF m 433 #[.val (.long j0), .second, .val (.int i2), .val (.int i3), .val (.int i4), .val (.long j5), .second, .val (.ref a7), .val (.int i8), .val (.int i9), .val (.long j10), .second, .val (.int i12), .val (.int i13), .val (.int i14), .val (.int i15), .val (.int i16), .val (.int i17), .val (.int i18), .val (.int i19), .val (.long j5), .second, .val (.int (i2.toInt8.toInt32)), .val (.int ((i2.toInt8.toInt32) - (48 : Int32))), .unset, .unset] [])) target → Steps p.tables e below (T0.setTop (mkF m 285 #[.val (.long j0), .second, .val (.int i2), .val (.int i3), .val (.int i4), .val (.long j5), .second, .val (.ref a7), .val (.int i8), .val (.int i9), .val (.long j10), .second, .val (.int i12), .val (.int i13), .val (.int i14), .val (.int i15), .val (.int i16), .val (.int i17), .val (.int i18), .val (.int i19), .unset, .unset, .unset, .unset, .unset, .unset] [])) target := by
                  intro target kt
                  refine pre21 target ?_
                  show Steps p.tables e below (T0.setTop (mkF m 396 #[.val (.long j0), .second, .val (.int i2), .val (.int i3), .val (.int i4), .val (.long j5), .second, .val (.ref a7), .val (.int i8), .val (.int i9), .val (.long j10), .second, .val (.int i12), .val (.int i13), .val (.int i14), .val (.int i15), .val (.int i16), .val (.int i17), .val (.int i18), .val (.int i19), .unset, .unset, .val (.int (i2.toInt8.toInt32)), .val (.int ((i2.toInt8.toInt32) - (48 : Int32))), .unset, .unset] [(.int (7 : Int32)), (.int ((i2.toInt8.toInt32) - (48 : Int32)))])) _
                  refine XS.icmpYes X0.here hx rfl (pc0 := 396) (pc' := 429) rfl (hb hby at_396) rfl (tlt hc396).2.2.1 (by decide) (by decide) ?_
                  show Steps p.tables e below (T0.setTop (mkF m 429 #[.val (.long j0), .second, .val (.int i2), .val (.int i3), .val (.int i4), .val (.long j5), .second, .val (.ref a7), .val (.int i8), .val (.int i9), .val (.long j10), .second, .val (.int i12), .val (.int i13), .val (.int i14), .val (.int i15), .val (.int i16), .val (.int i17), .val (.int i18), .val (.int i19), .unset, .unset, .val (.int (i2.toInt8.toInt32)), .val (.int ((i2.toInt8.toInt32) - (48 : Int32))), .unset, .unset] [])) _
                  refine XS.lload X0.here hx rfl (hb hby at_429) rfl ?_
                  show Steps p.tables e below (T0.setTop (mkF m 431 #[.val (.long j0), .second, .val (.int i2), .val (.int i3), .val (.int i4), .val (.long j5), .second, .val (.ref a7), .val (.int i8), .val (.int i9), .val (.long j10), .second, .val (.int i12), .val (.int i13), .val (.int i14), .val (.int i15), .val (.int i16), .val (.int i17), .val (.int i18), .val (.int i19), .unset, .unset, .val (.int (i2.toInt8.toInt32)), .val (.int ((i2.toInt8.toInt32) - (48 : Int32))), .unset, .unset] [(.long j5)])) _
                  refine XS.lstore X0.here hx rfl (hb hby at_431) rfl (l' := #[.val (.long j0), .second, .val (.int i2), .val (.int i3), .val (.int i4), .val (.long j5), .second, .val (.ref a7), .val (.int i8), .val (.int i9), .val (.long j10), .second, .val (.int i12), .val (.int i13), .val (.int i14), .val (.int i15), .val (.int i16), .val (.int i17), .val (.int i18), .val (.int i19), .val (.long j5), .second, .val (.int (i2.toInt8.toInt32)), .val (.int ((i2.toInt8.toInt32) - (48 : Int32))), .unset, .unset]) rfl ?_
                  exact kt
                have hI23 : n_a7 = 24 ∧ 0 ≤ i18.toInt ∧ i18.toInt ≤ 24 ∧ i19.toInt ≤ 24 := by exact hI
                obtain ⟨T23, L23, k23, n23, X23, N23, hk23', hn23, st23⟩ := own_b0_433 hx hZ hw hby hml hown hret j0 i2 i3 i4 j5 a7 i8 i9 j10 i12 i13 i14 i15 i16 i17 i18 i19 j5 (.val (.int (i2.toInt8.toInt32))) (.val (.int ((i2.toInt8.toInt32) - (48 : Int32)))) (.unset) (.unset) n_a7 A_a7 X0 e0 N0 Z0 g_a7 V_a7 hI23
                have hv : (own_f0_285 j0 i2 i3 i4 j5 i8 i9 j10 i12 i13 i14 i15 i16 i17 i18 i19 n_a7 A_a7) = (own_f0_433 j0 i2 i3 i4 j5 i8 i9 j10 i12 i13 i14 i15 i16 i17 i18 i19 j5 n_a7 A_a7) := by unfold own_f0_285; rw [if_pos hc288, if_neg hc301, if_pos hc341, if_neg hc359, if_neg hc366, if_neg hc389, if_pos hc396]
                exact ⟨T23, L23, k23, n23, X23, N23, hk23', hn23, fun fs hr => pre22 _ (st23 fs (by rw [hv] at hr; exact hr))⟩
              · have pre24 : ∀ target, Steps p.tables e below (T0.setTop (mkF m 399 #[.val (.long j0), .second, .val (.int i2), .val (.int i3), .val (.int i4), .val (.long j5), .second, .val (.ref a7), .val (.int i8), .val (.int i9), .val (.long j10), .second, .val (.int i12), .val (.int i13), .val (.int i14), .val (.int i15), .val (.int i16), .val (.int i17), .val (.int i18), .val (.int i19), .unset, .unset, .val (.int (i2.toInt8.toInt32)), .val (.int ((i2.toInt8.toInt32) - (48 : Int32))), .unset, .unset] [])) target → Steps p.tables e below (T0.setTop (mkF m 285 #[.val (.long j0), .second, .val (.int i2), .val (.int i3), .val (.int i4), .val (.long j5), .second, .val (.ref a7), .val (.int i8), .val (.int i9), .val (.long j10), .second, .val (.int i12), .val (.int i13), .val (.int i14), .val (.int i15), .val (.int i16), .val (.int i17), .val (.int i18), .val (.int i19), .unset, .unset, .unset, .unset, .unset, .unset] [])) target := by
                  intro target kt
                  refine pre21 target ?_
                  show Steps p.tables e below (T0.setTop (mkF m 396 #[.val (.long j0), .second, .val (.int i2), .val (.int i3), .val (.int i4), .val (.long j5), .second, .val (.ref a7), .val (.int i8), .val (.int i9), .val (.long j10), .second, .val (.int i12), .val (.int i13), .val (.int i14), .val (.int i15), .val (.int i16), .val (.int i17), .val (.int i18), .val (.int i19), .unset, .unset, .val (.int (i2.toInt8.toInt32)), .val (.int ((i2.toInt8.toInt32) - (48 : Int32))), .unset, .unset] [(.int (7 : Int32)), (.int ((i2.toInt8.toInt32) - (48 : Int32)))])) _
                  refine XS.icmpNo X0.here hx rfl (hb hby at_396) rfl (flt hc396).2.2.1 ?_
                  exact kt
                have hI25 : n_a7 = 24 ∧ 0 ≤ i18.toInt ∧ i18.toInt ≤ 24 ∧ i19.toInt ≤ 24 := by exact hI
                obtain ⟨T25, L25, k25, n25, X25, N25, hk25', hn25, st25⟩ := own_b0_399 hx hZ hw hby hml hown hret j0 i2 i3 i4 j5 a7 i8 i9 j10 i12 i13 i14 i15 i16 i17 i18 i19 (i2.toInt8.toInt32) ((i2.toInt8.toInt32) - (48 : Int32)) n_a7 A_a7 X0 e0 N0 Z0 g_a7 V_a7 hI25
                have hv : (own_f0_285 j0 i2 i3 i4 j5 i8 i9 j10 i12 i13 i14 i15 i16 i17 i18 i19 n_a7 A_a7) = (own_f0_399 j0 i2 i3 i4 j5 i8 i9 j10 i12 i13 i14 i15 i16 i17 i18 i19 (i2.toInt8.toInt32) ((i2.toInt8.toInt32) - (48 : Int32)) n_a7 A_a7) := by unfold own_f0_285; rw [if_pos hc288, if_neg hc301, if_pos hc341, if_neg hc359, if_neg hc366, if_neg hc389, if_neg hc396]
                exact ⟨T25, L25, k25, n25, X25, N25, hk25', hn25, fun fs hr => pre24 _ (st25 fs (by rw [hv] at hr; exact hr))⟩
      · have pre26 : ∀ target, Steps p.tables e below (T0.setTop (mkF m 433 #[.val (.long j0), .second, .val (.int i2), .val (.int i3), .val (.int i4), .val (.long j5), .second, .val (.ref a7), .val (.int i8), .val (.int i9), .val (.long j10), .second, .val (.int i12), .val (.int i13), .val (.int i14), .val (.int i15), .val (.int i16), .val (.int i17), .val (.int i18), .val (.int i19), .val (.long j5), .second, .unset, .unset, .unset, .unset] [])) target → Steps p.tables e below (T0.setTop (mkF m 285 #[.val (.long j0), .second, .val (.int i2), .val (.int i3), .val (.int i4), .val (.long j5), .second, .val (.ref a7), .val (.int i8), .val (.int i9), .val (.long j10), .second, .val (.int i12), .val (.int i13), .val (.int i14), .val (.int i15), .val (.int i16), .val (.int i17), .val (.int i18), .val (.int i19), .unset, .unset, .unset, .unset, .unset, .unset] [])) target := by
          intro target kt
          refine pre11 target ?_
          show Steps p.tables e below (T0.setTop (mkF m 341 #[.val (.long j0), .second, .val (.int i2), .val (.int i3), .val (.int i4), .val (.long j5), .second, .val (.ref a7), .val (.int i8), .val (.int i9), .val (.long j10), .second, .val (.int i12), .val (.int i13), .val (.int i14), .val (.int i15), .val (.int i16), .val (.int i17), .val (.int i18), .val (.int i19), .unset, .unset, .unset, .unset, .unset, .unset] [(.int i17)])) _
          refine XS.ifNo X0.here hx rfl (hb hby at_341) rfl ((if0 _ _).trans (feq hc341).1) ?_
          show Steps p.tables e below (T0.setTop (mkF m 344 #[.val (.long j0), .second, .val (.int i2), .val (.int i3), .val (.int i4), .val (.long j5), .second, .val (.ref a7), .val (.int i8), .val (.int i9), .val (.long j10), .second, .val (.int i12), .val (.int i13), .val (.int i14), .val (.int i15), .val (.int i16), .val (.int i17), .val (.int i18), .val (.int i19), .unset, .unset, .unset, .unset, .unset, .unset] [])) _
          refine XS.lload X0.here hx rfl (hb hby at_344) rfl ?_
          show Steps p.tables e below (T0.setTop (mkF m 346 #[.val (.long j0), .second, .val (.int i2), .val (.int i3), .val (.int i4), .val (.long j5), .second, .val (.ref a7), .val (.int i8), .val (.int i9), .val (.long j10), .second, .val (.int i12), .val (.int i13), .val (.int i14), .val (.int i15), .val (.int i16), .val (.int i17), .val (.int i18), .val (.int i19), .unset, .unset, .unset, .unset, .unset, .unset] [(.long j5)])) _
          refine XS.lstore X0.here hx rfl (hb hby at_346) rfl (l' := #[.val (.long j0), .second, .val (.int i2), .val (.int i3), .val (.int i4), .val (.long j5), .second, .val (.ref a7), .val (.int i8), .val (.int i9), .val (.long j10), .second, .val (.int i12), .val (.int i13), .val (.int i14), .val (.int i15), .val (.int i16), .val (.int i17), .val (.int i18), .val (.int i19), .val (.long j5), .second, .unset, .unset, .unset, .unset]) rfl ?_
          show Steps p.tables e below (T0.setTop (mkF m 348 #[.val (.long j0), .second, .val (.int i2), .val (.int i3), .val (.int i4), .val (.long j5), .second, .val (.ref a7), .val (.int i8), .val (.int i9), .val (.long j10), .second, .val (.int i12), .val (.int i13), .val (.int i14), .val (.int i15), .val (.int i16), .val (.int i17), .val (.int i18), .val (.int i19), .val (.long j5), .second, .unset, .unset, .unset, .unset] [])) _
          refine XS.goto X0.here hx rfl (pc0 := 348) (pc' := 433) rfl (hb hby at_348) (by decide) (by decide) ?_
          exact kt
        have hI27 : n_a7 = 24 ∧ 0 ≤ i18.toInt ∧ i18.toInt ≤ 24 ∧ i19.toInt ≤ 24 := by exact hI
        obtain ⟨T27, L27, k27, n27, X27, N27, hk27', hn27, st27⟩ := own_b0_433 hx hZ hw hby hml hown hret j0 i2 i3 i4 j5 a7 i8 i9 j10 i12 i13 i14 i15 i16 i17 i18 i19 j5 (.unset) (.unset) (.unset) (.unset) n_a7 A_a7 X0 e0 N0 Z0 g_a7 V_a7 hI27
        have hv : (own_f0_285 j0 i2 i3 i4 j5 i8 i9 j10 i12 i13 i14 i15 i16 i17 i18 i19 n_a7 A_a7) = (own_f0_433 j0 i2 i3 i4 j5 i8 i9 j10 i12 i13 i14 i15 i16 i17 i18 i19 j5 n_a7 A_a7) := by unfold own_f0_285; rw [if_pos hc288, if_neg hc301, if_neg hc341]
        exact ⟨T27, L27, k27, n27, X27, N27, hk27', hn27, fun fs hr => pre26 _ (st27 fs (by rw [hv] at hr; exact hr))⟩
  · have pre28 : ∀ target, Steps p.tables e below (T0.setTop (mkF m 433 #[.val (.long j0), .second, .val (.int i2), .val (.int i3), .val (.int i4), .val (.long j5), .second, .val (.ref a7), .val (.int i8), .val (.int i9), .val (.long j10), .second, .val (.int i12), .val (.int i13), .val (.int i14), .val (.int i15), .val (.int i16), .val (.int i17), .val (.int i18), .val (.int i19), .val (.long j5), .second, .unset, .unset, .unset, .unset] [])) target → Steps p.tables e below (T0.setTop (mkF m 285 #[.val (.long j0), .second, .val (.int i2), .val (.int i3), .val (.int i4), .val (.long j5), .second, .val (.ref a7), .val (.int i8), .val (.int i9), .val (.long j10), .second, .val (.int i12), .val (.int i13), .val (.int i14), .val (.int i15), .val (.int i16), .val (.int i17), .val (.int i18), .val (.int i19), .unset, .unset, .unset, .unset, .unset, .unset] [])) target := by
      intro target kt
      refine pre1 target ?_
      show Steps p.tables e below (T0.setTop (mkF m 288 #[.val (.long j0), .second, .val (.int i2), .val (.int i3), .val (.int i4), .val (.long j5), .second, .val (.ref a7), .val (.int i8), .val (.int i9), .val (.long j10), .second, .val (.int i12), .val (.int i13), .val (.int i14), .val (.int i15), .val (.int i16), .val (.int i17), .val (.int i18), .val (.int i19), .unset, .unset, .unset, .unset, .unset, .unset] [(.int (2 : Int32)), (.int i13)])) _
      refine XS.icmpNo X0.here hx rfl (hb hby at_288) rfl (flt hc288).1 ?_
      show Steps p.tables e below (T0.setTop (mkF m 291 #[.val (.long j0), .second, .val (.int i2), .val (.int i3), .val (.int i4), .val (.long j5), .second, .val (.ref a7), .val (.int i8), .val (.int i9), .val (.long j10), .second, .val (.int i12), .val (.int i13), .val (.int i14), .val (.int i15), .val (.int i16), .val (.int i17), .val (.int i18), .val (.int i19), .unset, .unset, .unset, .unset, .unset, .unset] [])) _
      refine XS.lload X0.here hx rfl (hb hby at_291) rfl ?_
      show Steps p.tables e below (T0.setTop (mkF m 293 #[.val (.long j0), .second, .val (.int i2), .val (.int i3), .val (.int i4), .val (.long j5), .second, .val (.ref a7), .val (.int i8), .val (.int i9), .val (.long j10), .second, .val (.int i12), .val (.int i13), .val (.int i14), .val (.int i15), .val (.int i16), .val (.int i17), .val (.int i18), .val (.int i19), .unset, .unset, .unset, .unset, .unset, .unset] [(.long j5)])) _
      refine XS.lstore X0.here hx rfl (hb hby at_293) rfl (l' := #[.val (.long j0), .second, .val (.int i2), .val (.int i3), .val (.int i4), .val (.long j5), .second, .val (.ref a7), .val (.int i8), .val (.int i9), .val (.long j10), .second, .val (.int i12), .val (.int i13), .val (.int i14), .val (.int i15), .val (.int i16), .val (.int i17), .val (.int i18), .val (.int i19), .val (.long j5), .second, .unset, .unset, .unset, .unset]) rfl ?_
      show Steps p.tables e below (T0.setTop (mkF m 295 #[.val (.long j0), .second, .val (.int i2), .val (.int i3), .val (.int i4), .val (.long j5), .second, .val (.ref a7), .val (.int i8), .val (.int i9), .val (.long j10), .second, .val (.int i12), .val (.int i13), .val (.int i14), .val (.int i15), .val (.int i16), .val (.int i17), .val (.int i18), .val (.int i19), .val (.long j5), .second, .unset, .unset, .unset, .unset] [])) _
      refine XS.goto X0.here hx rfl (pc0 := 295) (pc' := 433) rfl (hb hby at_295) (by decide) (by decide) ?_
      exact kt
    have hI29 : n_a7 = 24 ∧ 0 ≤ i18.toInt ∧ i18.toInt ≤ 24 ∧ i19.toInt ≤ 24 := by exact hI
    obtain ⟨T29, L29, k29, n29, X29, N29, hk29', hn29, st29⟩ := own_b0_433 hx hZ hw hby hml hown hret j0 i2 i3 i4 j5 a7 i8 i9 j10 i12 i13 i14 i15 i16 i17 i18 i19 j5 (.unset) (.unset) (.unset) (.unset) n_a7 A_a7 X0 e0 N0 Z0 g_a7 V_a7 hI29
    have hv : (own_f0_285 j0 i2 i3 i4 j5 i8 i9 j10 i12 i13 i14 i15 i16 i17 i18 i19 n_a7 A_a7) = (own_f0_433 j0 i2 i3 i4 j5 i8 i9 j10 i12 i13 i14 i15 i16 i17 i18 i19 j5 n_a7 A_a7) := by unfold own_f0_285; rw [if_neg hc288]
    exact ⟨T29, L29, k29, n29, X29, N29, hk29', hn29, fun fs hr => pre28 _ (st29 fs (by rw [hv] at hr; exact hr))⟩
set_option maxRecDepth 65536 in
set_option maxHeartbeats 40000000 in
theorem own_b0_220 {p : Program} {l : Launch} {e : Env} {s : State} {m : MethodId} {args : Array Value} {below : List Frame} {meth : Method} {c : Code} {Z : State} {a0_ : Array Value} {n0 : Nat} (hx : p.tables.exec = Jvm.exec) (hZ : Z.Warmed39 s.vm) (hw : ∀ d ∈ tables_1, d.before a0_ Z = true) (hby : c.code = code) (hml : c.maxLocals = 26) (hown : s.vm.findClass "com/example/rollcalldb/rollcalldb/resp/DecimalParsePinLaw" = some m.cls) (hret : meth.sig.returnType = some .boolean) {T0 : State} {locs : List Loc} {h0 : Heap} (j0 : Int64) (i2 : Int32) (i3 : Int32) (i4 : Int32) (j5 : Int64) (a7 : Addr) (i8 : Int32) (i9 : Int32) (j10 : Int64) (i12 : Int32) (i13 : Int32) (i14 : Int32) (i15 : Int32) (i16 : Int32) (i17 : Int32) (n_a7 : Int32) (A_a7 : Nat → Int32)
    (X0 : Stand p l e room_1 s m args below meth c T0 locs 1 24) (e0 : T0.heap = h0) (N0 : Fr n0 locs) (Z0 : n0 ≤ h0.size) (g_a7 : n0 ≤ a7) (V_a7 : own_Ar Z h0 a7 .byte n_a7 A_a7) (hI : n_a7 = 24 ∧ 4 ≤ i8.toInt ∧ i8.toInt ≤ 23 ∧ 0 ≤ i12.toInt ∧ i12.toInt ≤ 3 ∧ i15.toInt = i8.toInt - i12.toInt) :
    ∃ T' locs' cells' slots', Stand p l e room_1 s m args below meth c T' locs' cells' slots' ∧ Fr n0 locs' ∧ cells' ≤ room_1.cells ∧ slots' ≤ room_1.slots ∧ ∀ fs, (∀ (f : JFrame) (acts : List Action), f.method = m → f.locked = none → f.entered = [] → (doReturn e (T'.setTop f) acts (some (.int (own_f0_220 j0 i2 i3 i4 j5 i8 i9 j10 i12 i13 i14 i15 i16 i17 n_a7 A_a7)))).1 = T'.setFrames fs) → Steps p.tables e below (T0.setTop (mkF m 220 #[.val (.long j0), .second, .val (.int i2), .val (.int i3), .val (.int i4), .val (.long j5), .second, .val (.ref a7), .val (.int i8), .val (.int i9), .val (.long j10), .second, .val (.int i12), .val (.int i13), .val (.int i14), .val (.int i15), .val (.int i16), .val (.int i17), .unset, .unset, .unset, .unset, .unset, .unset, .unset, .unset] [])) (T'.setFrames fs) := by
  have hix226 : ¬ (23 : Int32) < 0 ∧ (23 : Int32) < n_a7 := by exact own_s23 hI
  obtain ⟨T1, h1, X1, e1, W1, V1, st1⟩ := own_stB X0 hx hZ e0 V_a7 hix226 (g := (mkF m 226 #[.val (.long j0), .second, .val (.int i2), .val (.int i3), .val (.int i4), .val (.long j5), .second, .val (.ref a7), .val (.int i8), .val (.int i9), .val (.long j10), .second, .val (.int i12), .val (.int i13), .val (.int i14), .val (.int i15), .val (.int i16), .val (.int i17), .unset, .unset, .unset, .unset, .unset, .unset, .unset, .unset] [(.int (i2.toInt8.toInt32)), (.int (23 : Int32)), (.ref a7)])) rfl rfl (hb hby at_226)
  have N1 := Fr.snoc X1 N0 g_a7
  have Z1 : n0 ≤ h1.size := Nat.le_trans Z0 (Keep.of_wr W1).1
  have V_a7_k1 := V1
  have hix236 : ¬ (i15 - (1 : Int32)) < 0 ∧ (i15 - (1 : Int32)) < n_a7 := by exact own_sf hI
  obtain ⟨T2, h2, X2, e2, W2, V2, st2⟩ := own_stB X1 hx hZ e1 V_a7_k1 hix236 (g := (mkF m 236 #[.val (.long j0), .second, .val (.int i2), .val (.int i3), .val (.int i4), .val (.long j5), .second, .val (.ref a7), .val (.int i8), .val (.int i9), .val (.long j10), .second, .val (.int i12), .val (.int i13), .val (.int i14), .val (.int i15), .val (.int i16), .val (.int i17), .unset, .unset, .unset, .unset, .unset, .unset, .unset, .unset] [(.int (i4.toInt8.toInt32)), (.int (i15 - (1 : Int32))), (.ref a7)])) rfl rfl (hb hby at_236)
  have N2 := Fr.snoc X2 N1 g_a7
  have Z2 : n0 ≤ h2.size := Nat.le_trans Z1 (Keep.of_wr W2).1
  have V_a7_k2 := V2
  have pre3 : ∀ target, Steps p.tables e below (T2.setTop (mkF m 248 #[.val (.long j0), .second, .val (.int i2), .val (.int i3), .val (.int i4), .val (.long j5), .second, .val (.ref a7), .val (.int i8), .val (.int i9), .val (.long j10), .second, .val (.int i12), .val (.int i13), .val (.int i14), .val (.int i15), .val (.int i16), .val (.int i17), .val (.int i15), .val (.int (24 : Int32)), .unset, .unset, .unset, .unset, .unset, .unset] [(.int (1 : Int32)), (.int i13)])) target → Steps p.tables e below (T0.setTop (mkF m 220 #[.val (.long j0), .second, .val (.int i2), .val (.int i3), .val (.int i4), .val (.long j5), .second, .val (.ref a7), .val (.int i8), .val (.int i9), .val (.long j10), .second, .val (.int i12), .val (.int i13), .val (.int i14), .val (.int i15), .val (.int i16), .val (.int i17), .unset, .unset, .unset, .unset, .unset, .unset, .unset, .unset] [])) target := by
    intro target kt
    show Steps p.tables e below (T0.setTop (mkF m 220 #[.val (.long j0), .second, .val (.int i2), .val (.int i3), .val (.int i4), .val (.long j5), .second, .val (.ref a7), .val (.int i8), .val (.int i9), .val (.long j10), .second, .val (.int i12), .val (.int i13), .val (.int i14), .val (.int i15), .val (.int i16), .val (.int i17), .unset, .unset, .unset, .unset, .unset, .unset, .unset, .unset] [])) _
    refine XS.aload X0.here hx rfl (hb hby at_220) rfl rfl ?_
    show Steps p.tables e below (T0.setTop (mkF m 222 #[.val (.long j0), .second, .val (.int i2), .val (.int i3), .val (.int i4), .val (.long j5), .second, .val (.ref a7), .val (.int i8), .val (.int i9), .val (.long j10), .second, .val (.int i12), .val (.int i13), .val (.int i14), .val (.int i15), .val (.int i16), .val (.int i17), .unset, .unset, .unset, .unset, .unset, .unset, .unset, .unset] [(.ref a7)])) _
    refine XS.bipush X0.here hx rfl (hb hby at_222) ?_
    show Steps p.tables e below (T0.setTop (mkF m 224 #[.val (.long j0), .second, .val (.int i2), .val (.int i3), .val (.int i4), .val (.long j5), .second, .val (.ref a7), .val (.int i8), .val (.int i9), .val (.long j10), .second, .val (.int i12), .val (.int i13), .val (.int i14), .val (.int i15), .val (.int i16), .val (.int i17), .unset, .unset, .unset, .unset, .unset, .unset, .unset, .unset] [(.int (23 : Int32)), (.ref a7)])) _
    refine XS.iloadN X0.here hx rfl (hb hby at_224) rfl ?_
    show Steps p.tables e below (T0.setTop (mkF m 225 #[.val (.long j0), .second, .val (.int i2), .val (.int i3), .val (.int i4), .val (.long j5), .second, .val (.ref a7), .val (.int i8), .val (.int i9), .val (.long j10), .second, .val (.int i12), .val (.int i13), .val (.int i14), .val (.int i15), .val (.int i16), .val (.int i17), .unset, .unset, .unset, .unset, .unset, .unset, .unset, .unset] [(.int i2), (.int (23 : Int32)), (.ref a7)])) _
    refine XS.i2b X0.here hx rfl (hb hby at_225) rfl ?_
    show Steps p.tables e below (T0.setTop (mkF m 226 #[.val (.long j0), .second, .val (.int i2), .val (.int i3), .val (.int i4), .val (.long j5), .second, .val (.ref a7), .val (.int i8), .val (.int i9), .val (.long j10), .second, .val (.int i12), .val (.int i13), .val (.int i14), .val (.int i15), .val (.int i16), .val (.int i17), .unset, .unset, .unset, .unset, .unset, .unset, .unset, .unset] [(.int (i2.toInt8.toInt32)), (.int (23 : Int32)), (.ref a7)])) _
    refine st1 _ ?_
    show Steps p.tables e below (T1.setTop (mkF m 227 #[.val (.long j0), .second, .val (.int i2), .val (.int i3), .val (.int i4), .val (.long j5), .second, .val (.ref a7), .val (.int i8), .val (.int i9), .val (.long j10), .second, .val (.int i12), .val (.int i13), .val (.int i14), .val (.int i15), .val (.int i16), .val (.int i17), .unset, .unset, .unset, .unset, .unset, .unset, .unset, .unset] [])) _
    refine XS.aload X1.here hx rfl (hb hby at_227) rfl rfl ?_
    show Steps p.tables e below (T1.setTop (mkF m 229 #[.val (.long j0), .second, .val (.int i2), .val (.int i3), .val (.int i4), .val (.long j5), .second, .val (.ref a7), .val (.int i8), .val (.int i9), .val (.long j10), .second, .val (.int i12), .val (.int i13), .val (.int i14), .val (.int i15), .val (.int i16), .val (.int i17), .unset, .unset, .unset, .unset, .unset, .unset, .unset, .unset] [(.ref a7)])) _
    refine XS.iload X1.here hx rfl (hb hby at_229) rfl ?_
    show Steps p.tables e below (T1.setTop (mkF m 231 #[.val (.long j0), .second, .val (.int i2), .val (.int i3), .val (.int i4), .val (.long j5), .second, .val (.ref a7), .val (.int i8), .val (.int i9), .val (.long j10), .second, .val (.int i12), .val (.int i13), .val (.int i14), .val (.int i15), .val (.int i16), .val (.int i17), .unset, .unset, .unset, .unset, .unset, .unset, .unset, .unset] [(.int i15), (.ref a7)])) _
    refine XS.iconst X1.here hx rfl (hb hby at_231) ?_
    show Steps p.tables e below (T1.setTop (mkF m 232 #[.val (.long j0), .second, .val (.int i2), .val (.int i3), .val (.int i4), .val (.long j5), .second, .val (.ref a7), .val (.int i8), .val (.int i9), .val (.long j10), .second, .val (.int i12), .val (.int i13), .val (.int i14), .val (.int i15), .val (.int i16), .val (.int i17), .unset, .unset, .unset, .unset, .unset, .unset, .unset, .unset] [(.int (1 : Int32)), (.int i15), (.ref a7)])) _
    refine XS.isub X1.here hx rfl (hb hby at_232) rfl ?_
    show Steps p.tables e below (T1.setTop (mkF m 233 #[.val (.long j0), .second, .val (.int i2), .val (.int i3), .val (.int i4), .val (.long j5), .second, .val (.ref a7), .val (.int i8), .val (.int i9), .val (.long j10), .second, .val (.int i12), .val (.int i13), .val (.int i14), .val (.int i15), .val (.int i16), .val (.int i17), .unset, .unset, .unset, .unset, .unset, .unset, .unset, .unset] [(.int (i15 - (1 : Int32))), (.ref a7)])) _
    refine XS.iload X1.here hx rfl (hb hby at_233) rfl ?_
    show Steps p.tables e below (T1.setTop (mkF m 235 #[.val (.long j0), .second, .val (.int i2), .val (.int i3), .val (.int i4), .val (.long j5), .second, .val (.ref a7), .val (.int i8), .val (.int i9), .val (.long j10), .second, .val (.int i12), .val (.int i13), .val (.int i14), .val (.int i15), .val (.int i16), .val (.int i17), .unset, .unset, .unset, .unset, .unset, .unset, .unset, .unset] [(.int i4), (.int (i15 - (1 : Int32))), (.ref a7)])) _
    refine XS.i2b X1.here hx rfl (hb hby at_235) rfl ?_
    show Steps p.tables e below (T1.setTop (mkF m 236 #[.val (.long j0), .second, .val (.int i2), .val (.int i3), .val (.int i4), .val (.long j5), .second, .val (.ref a7), .val (.int i8), .val (.int i9), .val (.long j10), .second, .val (.int i12), .val (.int i13), .val (.int i14), .val (.int i15), .val (.int i16), .val (.int i17), .unset, .unset, .unset, .unset, .unset, .unset, .unset, .unset] [(.int (i4.toInt8.toInt32)), (.int (i15 - (1 : Int32))), (.ref a7)])) _
    refine st2 _ ?_
    show Steps p.tables e below (T2.setTop (mkF m 237 #[.val (.long j0), .second, .val (.int i2), .val (.int i3), .val (.int i4), .val (.long j5), .second, .val (.ref a7), .val (.int i8), .val (.int i9), .val (.long j10), .second, .val (.int i12), .val (.int i13), .val (.int i14), .val (.int i15), .val (.int i16), .val (.int i17), .unset, .unset, .unset, .unset, .unset, .unset, .unset, .unset] [])) _
    refine XS.iload X2.here hx rfl (hb hby at_237) rfl ?_
    show Steps p.tables e below (T2.setTop (mkF m 239 #[.val (.long j0), .second, .val (.int i2), .val (.int i3), .val (.int i4), .val (.long j5), .second, .val (.ref a7), .val (.int i8), .val (.int i9), .val (.long j10), .second, .val (.int i12), .val (.int i13), .val (.int i14), .val (.int i15), .val (.int i16), .val (.int i17), .unset, .unset, .unset, .unset, .unset, .unset, .unset, .unset] [(.int i15)])) _
    refine XS.istore X2.here hx rfl (hb hby at_239) rfl (l' := #[.val (.long j0), .second, .val (.int i2), .val (.int i3), .val (.int i4), .val (.long j5), .second, .val (.ref a7), .val (.int i8), .val (.int i9), .val (.long j10), .second, .val (.int i12), .val (.int i13), .val (.int i14), .val (.int i15), .val (.int i16), .val (.int i17), .val (.int i15), .unset, .unset, .unset, .unset, .unset, .unset, .unset]) rfl ?_
    show Steps p.tables e below (T2.setTop (mkF m 241 #[.val (.long j0), .second, .val (.int i2), .val (.int i3), .val (.int i4), .val (.long j5), .second, .val (.ref a7), .val (.int i8), .val (.int i9), .val (.long j10), .second, .val (.int i12), .val (.int i13), .val (.int i14), .val (.int i15), .val (.int i16), .val (.int i17), .val (.int i15), .unset, .unset, .unset, .unset, .unset, .unset, .unset] [])) _
    refine XS.bipush X2.here hx rfl (hb hby at_241) ?_
    show Steps p.tables e below (T2.setTop (mkF m 243 #[.val (.long j0), .second, .val (.int i2), .val (.int i3), .val (.int i4), .val (.long j5), .second, .val (.ref a7), .val (.int i8), .val (.int i9), .val (.long j10), .second, .val (.int i12), .val (.int i13), .val (.int i14), .val (.int i15), .val (.int i16), .val (.int i17), .val (.int i15), .unset, .unset, .unset, .unset, .unset, .unset, .unset] [(.int (24 : Int32))])) _
    refine XS.istore X2.here hx rfl (hb hby at_243) rfl (l' := #[.val (.long j0), .second, .val (.int i2), .val (.int i3), .val (.int i4), .val (.long j5), .second, .val (.ref a7), .val (.int i8), .val (.int i9), .val (.long j10), .second, .val (.int i12), .val (.int i13), .val (.int i14), .val (.int i15), .val (.int i16), .val (.int i17), .val (.int i15), .val (.int (24 : Int32)), .unset, .unset, .unset, .unset, .unset, .unset]) rfl ?_
    show Steps p.tables e below (T2.setTop (mkF m 245 #[.val (.long j0), .second, .val (.int i2), .val (.int i3), .val (.int i4), .val (.long j5), .second, .val (.ref a7), .val (.int i8), .val (.int i9), .val (.long j10), .second, .val (.int i12), .val (.int i13), .val (.int i14), .val (.int i15), .val (.int i16), .val (.int i17), .val (.int i15), .val (.int (24 : Int32)), .unset, .unset, .unset, .unset, .unset, .unset] [])) _
    refine XS.iload X2.here hx rfl (hb hby at_245) rfl ?_
    show Steps p.tables e below (T2.setTop (mkF m 247 #[.val (.long j0), .second, .val (.int i2), .val (.int i3), .val (.int i4), .val (.long j5), .second, .val (.ref a7), .val (.int i8), .val (.int i9), .val (.long j10), .second, .val (.int i12), .val (.int i13), .val (.int i14), .val (.int i15), .val (.int i16), .val (.int i17), .val (.int i15), .val (.int (24 : Int32)), .unset, .unset, .unset, .unset, .unset, .unset] [(.int i13)])) _
    refine XS.iconst X2.here hx rfl (hb hby at_247) ?_
    exact kt
  by_cases hc248 : i13 = (1 : Int32)
  · have pre4 : ∀ target, Steps p.tables e below (T2.setTop (mkF m 285 #[.val (.long j0), .second, .val (.int i2), .val (.int i3), .val (.int i4), .val (.long j5), .second, .val (.ref a7), .val (.int i8), .val (.int i9), .val (.long j10), .second, .val (.int i12), .val (.int i13), .val (.int i14), .val (.int i15), .val (.int i16), .val (.int i17), .val (.int i15), .val (.int (23 : Int32)), .unset, .unset, .unset, .unset, .unset, .unset] [])) target → Steps p.tables e below (T0.setTop (mkF m 220 #[.val (.long j0), .second, .val (.int i2), .val (.int i3), .val (.int i4), .val (.long j5), .second, .val (.ref a7), .val (.int i8), .val (.int i9), .val (.long j10), .second, .val (.int i12), .val (.int i13), .val (.int i14), .val (.int i15), .val (.int i16), .val (.int i17), .unset, .unset, .unset, .unset, .unset, .unset, .unset, .unset] [])) target := by
      intro target kt
      refine pre3 target ?_
      show Steps p.tables e below (T2.setTop (mkF m 248 #[.val (.long j0), .second, .val (.int i2), .val (.int i3), .val (.int i4), .val (.long j5), .second, .val (.ref a7), .val (.int i8), .val (.int i9), .val (.long j10), .second, .val (.int i12), .val (.int i13), .val (.int i14), .val (.int i15), .val (.int i16), .val (.int i17), .val (.int i15), .val (.int (24 : Int32)), .unset, .unset, .unset, .unset, .unset, .unset] [(.int (1 : Int32)), (.int i13)])) _
      refine XS.icmpNo X2.here hx rfl (hb hby at_248) rfl (teq hc248).2 ?_
      show Steps p.tables e below (T2.setTop (mkF m 251 #[.val (.long j0), .second, .val (.int i2), .val (.int i3), .val (.int i4), .val (.long j5), .second, .val (.ref a7), .val (.int i8), .val (.int i9), .val (.long j10), .second, .val (.int i12), .val (.int i13), .val (.int i14), .val (.int i15), .val (.int i16), .val (.int i17), .val (.int i15), .val (.int (24 : Int32)), .unset, .unset, .unset, .unset, .unset, .unset] [])) _
      refine XS.bipush X2.here hx rfl (hb hby at_251) ?_
      show Steps p.tables e below (T2.setTop (mkF m 253 #[.val (.long j0), .second, .val (.int i2), .val (.int i3), .val (.int i4), .val (.long j5), .second, .val (.ref a7), .val (.int i8), .val (.int i9), .val (.long j10), .second, .val (.int i12), .val (.int i13), .val (.int i14), .val (.int i15), .val (.int i16), .val (.int i17), .val (.int i15), .val (.int (24 : Int32)), .unset, .unset, .unset, .unset, .unset, .unset] [(.int (23 : Int32))])) _
      refine XS.istore X2.here hx rfl (hb hby at_253) rfl (l' := #[.val (.long j0), .second, .val (.int i2), .val (.int i3), .val (.int i4), .val (.long j5), .second, .val (.ref a7), .val (.int i8), .val (.int i9), .val (.long j10), .second, .val (.int i12), .val (.int i13), .val (.int i14), .val (.int i15), .val (.int i16), .val (.int i17), .val (.int i15), .val (.int (23 : Int32)), .unset, .unset, .unset, .unset, .unset, .unset]) rfl ?_
      show Steps p.tables e below (T2.setTop (mkF m 255 #[.val (.long j0), .second, .val (.int i2), .val (.int i3), .val (.int i4), .val (.long j5), .second, .val (.ref a7), .val (.int i8), .val (.int i9), .val (.long j10), .second, .val (.int i12), .val (.int i13), .val (.int i14), .val (.int i15), .val (.int i16), .val (.int i17), .val (.int i15), .val (.int (23 : Int32)), .unset, .unset, .unset, .unset, .unset, .unset] [])) _
      refine XS.goto X2.here hx rfl (pc0 := 255) (pc' := 285) rfl (hb hby at_255) (by decide) (by decide) ?_
      exact kt
    have hI5 : n_a7 = 24 ∧ 0 ≤ i15.toInt ∧ i15.toInt ≤ 24 ∧ (23 : Int32).toInt ≤ 24 := by first | exact own_w285a hI | exact own_w285b hI | exact own_w285c hI | exact own_w285d hI
    obtain ⟨T5, L5, k5, n5, X5, N5, hk5', hn5, st5⟩ := own_b0_285 hx hZ hw hby hml hown hret j0 i2 i3 i4 j5 a7 i8 i9 j10 i12 i13 i14 i15 i16 i17 i15 (23 : Int32) n_a7 (own_up (own_up A_a7 (23 : Int32).toNatClampNeg ((i2.toInt8.toInt32).toInt8.toInt32)) (i15 - (1 : Int32)).toNatClampNeg ((i4.toInt8.toInt32).toInt8.toInt32)) X2 e2 N2 Z2 g_a7 V_a7_k2 hI5
    have hv : (own_f0_220 j0 i2 i3 i4 j5 i8 i9 j10 i12 i13 i14 i15 i16 i17 n_a7 A_a7) = (own_f0_285 j0 i2 i3 i4 j5 i8 i9 j10 i12 i13 i14 i15 i16 i17 i15 (23 : Int32) n_a7 (own_up (own_up A_a7 (23 : Int32).toNatClampNeg ((i2.toInt8.toInt32).toInt8.toInt32)) (i15 - (1 : Int32)).toNatClampNeg ((i4.toInt8.toInt32).toInt8.toInt32))) := by unfold own_f0_220; rw [if_pos hc248]
    exact ⟨T5, L5, k5, n5, X5, N5, hk5', hn5, fun fs hr => pre4 _ (st5 fs (by rw [hv] at hr; exact hr))⟩
  · have pre6 : ∀ target, Steps p.tables e below (T2.setTop (mkF m 261 #[.val (.long j0), .second, .val (.int i2), .val (.int i3), .val (.int i4), .val (.long j5), .second, .val (.ref a7), .val (.int i8), .val (.int i9), .val (.long j10), .second, .val (.int i12), .val (.int i13), .val (.int i14), .val (.int i15), .val (.int i16), .val (.int i17), .val (.int i15), .val (.int (24 : Int32)), .unset, .unset, .unset, .unset, .unset, .unset] [(.int (2 : Int32)), (.int i13)])) target → Steps p.tables e below (T0.setTop (mkF m 220 #[.val (.long j0), .second, .val (.int i2), .val (.int i3), .val (.int i4), .val (.long j5), .second, .val (.ref a7), .val (.int i8), .val (.int i9), .val (.long j10), .second, .val (.int i12), .val (.int i13), .val (.int i14), .val (.int i15), .val (.int i16), .val (.int i17), .unset, .unset, .unset, .unset, .unset, .unset, .unset, .unset] [])) target := by
      intro target kt
      refine pre3 target ?_
      show Steps p.tables e below (T2.setTop (mkF m 248 #[.val (.long j0), .second, .val (.int i2), .val (.int i3), .val (.int i4), .val (.long j5), .second, .val (.ref a7), .val (.int i8), .val (.int i9), .val (.long j10), .second, .val (.int i12), .val (.int i13), .val (.int i14), .val (.int i15), .val (.int i16), .val (.int i17), .val (.int i15), .val (.int (24 : Int32)), .unset, .unset, .unset, .unset, .unset, .unset] [(.int (1 : Int32)), (.int i13)])) _
      refine XS.icmpYes X2.here hx rfl (pc0 := 248) (pc' := 258) rfl (hb hby at_248) rfl (feq hc248).2 (by decide) (by decide) ?_
      show Steps p.tables e below (T2.setTop (mkF m 258 #[.val (.long j0), .second, .val (.int i2), .val (.int i3), .val (.int i4), .val (.long j5), .second, .val (.ref a7), .val (.int i8), .val (.int i9), .val (.long j10), .second, .val (.int i12), .val (.int i13), .val (.int i14), .val (.int i15), .val (.int i16), .val (.int i17), .val (.int i15), .val (.int (24 : Int32)), .unset, .unset, .unset, .unset, .unset, .unset] [])) _
      refine XS.iload X2.here hx rfl (hb hby at_258) rfl ?_
      show Steps p.tables e below (T2.setTop (mkF m 260 #[.val (.long j0), .second, .val (.int i2), .val (.int i3), .val (.int i4), .val (.long j5), .second, .val (.ref a7), .val (.int i8), .val (.int i9), .val (.long j10), .second, .val (.int i12), .val (.int i13), .val (.int i14), .val (.int i15), .val (.int i16), .val (.int i17), .val (.int i15), .val (.int (24 : Int32)), .unset, .unset, .unset, .unset, .unset, .unset] [(.int i13)])) _
      refine XS.iconst X2.here hx rfl (hb hby at_260) ?_
      exact kt
    by_cases hc261 : i13 = (2 : Int32)
    · have pre7 : ∀ target, Steps p.tables e below (T2.setTop (mkF m 285 #[.val (.long j0), .second, .val (.int i2), .val (.int i3), .val (.int i4), .val (.long j5), .second, .val (.ref a7), .val (.int i8), .val (.int i9), .val (.long j10), .second, .val (.int i12), .val (.int i13), .val (.int i14), .val (.int i15), .val (.int i16), .val (.int i17), .val (.int i15), .val (.int i15), .unset, .unset, .unset, .unset, .unset, .unset] [])) target → Steps p.tables e below (T0.setTop (mkF m 220 #[.val (.long j0), .second, .val (.int i2), .val (.int i3), .val (.int i4), .val (.long j5), .second, .val (.ref a7), .val (.int i8), .val (.int i9), .val (.long j10), .second, .val (.int i12), .val (.int i13), .val (.int i14), .val (.int i15), .val (.int i16), .val (.int i17), .unset, .unset, .unset, .unset, .unset, .unset, .unset, .unset] [])) target := by
        intro target kt
        refine pre6 target ?_
        show Steps p.tables e below (T2.setTop (mkF m 261 #[.val (.long j0), .second, .val (.int i2), .val (.int i3), .val (.int i4), .val (.long j5), .second, .val (.ref a7), .val (.int i8), .val (.int i9), .val (.long j10), .second, .val (.int i12), .val (.int i13), .val (.int i14), .val (.int i15), .val (.int i16), .val (.int i17), .val (.int i15), .val (.int (24 : Int32)), .unset, .unset, .unset, .unset, .unset, .unset] [(.int (2 : Int32)), (.int i13)])) _
        refine XS.icmpNo X2.here hx rfl (hb hby at_261) rfl (teq hc261).2 ?_
        show Steps p.tables e below (T2.setTop (mkF m 264 #[.val (.long j0), .second, .val (.int i2), .val (.int i3), .val (.int i4), .val (.long j5), .second, .val (.ref a7), .val (.int i8), .val (.int i9), .val (.long j10), .second, .val (.int i12), .val (.int i13), .val (.int i14), .val (.int i15), .val (.int i16), .val (.int i17), .val (.int i15), .val (.int (24 : Int32)), .unset, .unset, .unset, .unset, .unset, .unset] [])) _
        refine XS.iload X2.here hx rfl (hb hby at_264) rfl ?_
        show Steps p.tables e below (T2.setTop (mkF m 266 #[.val (.long j0), .second, .val (.int i2), .val (.int i3), .val (.int i4), .val (.long j5), .second, .val (.ref a7), .val (.int i8), .val (.int i9), .val (.long j10), .second, .val (.int i12), .val (.int i13), .val (.int i14), .val (.int i15), .val (.int i16), .val (.int i17), .val (.int i15), .val (.int (24 : Int32)), .unset, .unset, .unset, .unset, .unset, .unset] [(.int i15)])) _
        refine XS.istore X2.here hx rfl (hb hby at_266) rfl (l' := #[.val (.long j0), .second, .val (.int i2), .val (.int i3), .val (.int i4), .val (.long j5), .second, .val (.ref a7), .val (.int i8), .val (.int i9), .val (.long j10), .second, .val (.int i12), .val (.int i13), .val (.int i14), .val (.int i15), .val (.int i16), .val (.int i17), .val (.int i15), .val (.int i15), .unset, .unset, .unset, .unset, .unset, .unset]) rfl ?_
        show Steps p.tables e below (T2.setTop (mkF m 268 #[.val (.long j0), .second, .val (.int i2), .val (.int i3), .val (.int i4), .val (.long j5), .second, .val (.ref a7), .val (.int i8), .val (.int i9), .val (.long j10), .second, .val (.int i12), .val (.int i13), .val (.int i14), .val (.int i15), .val (.int i16), .val (.int i17), .val (.int i15), .val (.int i15), .unset, .unset, .unset, .unset, .unset, .unset] [])) _
        refine XS.goto X2.here hx rfl (pc0 := 268) (pc' := 285) rfl (hb hby at_268) (by decide) (by decide) ?_
        exact kt
      have hI8 : n_a7 = 24 ∧ 0 ≤ i15.toInt ∧ i15.toInt ≤ 24 ∧ i15.toInt ≤ 24 := by first | exact own_w285a hI | exact own_w285b hI | exact own_w285c hI | exact own_w285d hI
      obtain ⟨T8, L8, k8, n8, X8, N8, hk8', hn8, st8⟩ := own_b0_285 hx hZ hw hby hml hown hret j0 i2 i3 i4 j5 a7 i8 i9 j10 i12 i13 i14 i15 i16 i17 i15 i15 n_a7 (own_up (own_up A_a7 (23 : Int32).toNatClampNeg ((i2.toInt8.toInt32).toInt8.toInt32)) (i15 - (1 : Int32)).toNatClampNeg ((i4.toInt8.toInt32).toInt8.toInt32)) X2 e2 N2 Z2 g_a7 V_a7_k2 hI8
      have hv : (own_f0_220 j0 i2 i3 i4 j5 i8 i9 j10 i12 i13 i14 i15 i16 i17 n_a7 A_a7) = (own_f0_285 j0 i2 i3 i4 j5 i8 i9 j10 i12 i13 i14 i15 i16 i17 i15 i15 n_a7 (own_up (own_up A_a7 (23 : Int32).toNatClampNeg ((i2.toInt8.toInt32).toInt8.toInt32)) (i15 - (1 : Int32)).toNatClampNeg ((i4.toInt8.toInt32).toInt8.toInt32))) := by unfold own_f0_220; rw [if_neg hc248, if_pos hc261]
      exact ⟨T8, L8, k8, n8, X8, N8, hk8', hn8, fun fs hr => pre7 _ (st8 fs (by rw [hv] at hr; exact hr))⟩
    · have pre9 : ∀ target, Steps p.tables e below (T2.setTop (mkF m 274 #[.val (.long j0), .second, .val (.int i2), .val (.int i3), .val (.int i4), .val (.long j5), .second, .val (.ref a7), .val (.int i8), .val (.int i9), .val (.long j10), .second, .val (.int i12), .val (.int i13), .val (.int i14), .val (.int i15), .val (.int i16), .val (.int i17), .val (.int i15), .val (.int (24 : Int32)), .unset, .unset, .unset, .unset, .unset, .unset] [(.int (3 : Int32)), (.int i13)])) target → Steps p.tables e below (T0.setTop (mkF m 220 #[.val (.long j0), .second, .val (.int i2), .val (.int i3), .val (.int i4), .val (.long j5), .second, .val (.ref a7), .val (.int i8), .val (.int i9), .val (.long j10), .second, .val (.int i12), .val (.int i13), .val (.int i14), .val (.int i15), .val (.int i16), .val (.int i17), .unset, .unset, .unset, .unset, .unset, .unset, .unset, .unset] [])) target := by
        intro target kt
        refine pre6 target ?_
        show Steps p.tables e below (T2.setTop (mkF m 261 #[.val (.long j0), .second, .val (.int i2), .val (.int i3), .val (.int i4), .val (.long j5), .second, .val (.ref a7), .val (.int i8), .val (.int i9), .val (.long j10), .second, .val (.int i12), .val (.int i13), .val (.int i14), .val (.int i15), .val (.int i16), .val (.int i17), .val (.int i15), .val (.int (24 : Int32)), .unset, .unset, .unset, .unset, .unset, .unset] [(.int (2 : Int32)), (.int i13)])) _
        refine XS.icmpYes X2.here hx rfl (pc0 := 261) (pc' := 271) rfl (hb hby at_261) rfl (feq hc261).2 (by decide) (by decide) ?_
        show Steps p.tables e below (T2.setTop (mkF m 271 #[.val (.long j0), .second, .val (.int i2), .val (.int i3), .val (.int i4), .val (.long j5), .second, .val (.ref a7), .val (.int i8), .val (.int i9), .val (.long j10), .second, .val (.int i12), .val (.int i13), .val (.int i14), .val (.int i15), .val (.int i16), .val (.int i17), .val (.int i15), .val (.int (24 : Int32)), .unset, .unset, .unset, .unset, .unset, .unset] [])) _
        refine XS.iload X2.here hx rfl (hb hby at_271) rfl ?_
        show Steps p.tables e below (T2.setTop (mkF m 273 #[.val (.long j0), .second, .val (.int i2), .val (.int i3), .val (.int i4), .val (.long j5), .second, .val (.ref a7), .val (.int i8), .val (.int i9), .val (.long j10), .second, .val (.int i12), .val (.int i13), .val (.int i14), .val (.int i15), .val (.int i16), .val (.int i17), .val (.int i15), .val (.int (24 : Int32)), .unset, .unset, .unset, .unset, .unset, .unset] [(.int i13)])) _
        refine XS.iconst X2.here hx rfl (hb hby at_273) ?_
        exact kt
      by_cases hc274 : i13 = (3 : Int32)
      · have pre10 : ∀ target, Steps p.tables e below (T2.setTop (mkF m 285 #[.val (.long j0), .second, .val (.int i2), .val (.int i3), .val (.int i4), .val (.long j5), .second, .val (.ref a7), .val (.int i8), .val (.int i9), .val (.long j10), .second, .val (.int i12), .val (.int i13), .val (.int i14), .val (.int i15), .val (.int i16), .val (.int i17), .val (.int (24 : Int32)), .val (.int (24 : Int32)), .unset, .unset, .unset, .unset, .unset, .unset] [])) target → Steps p.tables e below (T0.setTop (mkF m 220 #[.val (.long j0), .second, .val (.int i2), .val (.int i3), .val (.int i4), .val (.long j5), .second, .val (.ref a7), .val (.int i8), .val (.int i9), .val (.long j10), .second, .val (.int i12), .val (.int i13), .val (.int i14), .val (.int i15), .val (.int i16), .val (.int i17), .unset, .unset, .unset, .unset, .unset, .unset, .unset, .unset] [])) target := by
          intro target kt
          refine pre9 target ?_
          show Steps p.tables e below (T2.setTop (mkF m 274 #[.val (.long j0), .second, .val (.int i2), .val (.int i3), .val (.int i4), .val (.long j5), .second, .val (.ref a7), .val (.int i8), .val (.int i9), .val (.long j10), .second, .val (.int i12), .val (.int i13), .val (.int i14), .val (.int i15), .val (.int i16), .val (.int i17), .val (.int i15), .val (.int (24 : Int32)), .unset, .unset, .unset, .unset, .unset, .unset] [(.int (3 : Int32)), (.int i13)])) _
          refine XS.icmpNo X2.here hx rfl (hb hby at_274) rfl (teq hc274).2 ?_
          show Steps p.tables e below (T2.setTop (mkF m 277 #[.val (.long j0), .second, .val (.int i2), .val (.int i3), .val (.int i4), .val (.long j5), .second, .val (.ref a7), .val (.int i8), .val (.int i9), .val (.long j10), .second, .val (.int i12), .val (.int i13), .val (.int i14), .val (.int i15), .val (.int i16), .val (.int i17), .val (.int i15), .val (.int (24 : Int32)), .unset, .unset, .unset, .unset, .unset, .unset] [])) _
          refine XS.bipush X2.here hx rfl (hb hby at_277) ?_
          show Steps p.tables e below (T2.setTop (mkF m 279 #[.val (.long j0), .second, .val (.int i2), .val (.int i3), .val (.int i4), .val (.long j5), .second, .val (.ref a7), .val (.int i8), .val (.int i9), .val (.long j10), .second, .val (.int i12), .val (.int i13), .val (.int i14), .val (.int i15), .val (.int i16), .val (.int i17), .val (.int i15), .val (.int (24 : Int32)), .unset, .unset, .unset, .unset, .unset, .unset] [(.int (24 : Int32))])) _
          refine XS.istore X2.here hx rfl (hb hby at_279) rfl (l' := #[.val (.long j0), .second, .val (.int i2), .val (.int i3), .val (.int i4), .val (.long j5), .second, .val (.ref a7), .val (.int i8), .val (.int i9), .val (.long j10), .second, .val (.int i12), .val (.int i13), .val (.int i14), .val (.int i15), .val (.int i16), .val (.int i17), .val (.int (24 : Int32)), .val (.int (24 : Int32)), .unset, .unset, .unset, .unset, .unset, .unset]) rfl ?_
          show Steps p.tables e below (T2.setTop (mkF m 281 #[.val (.long j0), .second, .val (.int i2), .val (.int i3), .val (.int i4), .val (.long j5), .second, .val (.ref a7), .val (.int i8), .val (.int i9), .val (.long j10), .second, .val (.int i12), .val (.int i13), .val (.int i14), .val (.int i15), .val (.int i16), .val (.int i17), .val (.int (24 : Int32)), .val (.int (24 : Int32)), .unset, .unset, .unset, .unset, .unset, .unset] [])) _
          refine XS.bipush X2.here hx rfl (hb hby at_281) ?_
          show Steps p.tables e below (T2.setTop (mkF m 283 #[.val (.long j0), .second, .val (.int i2), .val (.int i3), .val (.int i4), .val (.long j5), .second, .val (.ref a7), .val (.int i8), .val (.int i9), .val (.long j10), .second, .val (.int i12), .val (.int i13), .val (.int i14), .val (.int i15), .val (.int i16), .val (.int i17), .val (.int (24 : Int32)), .val (.int (24 : Int32)), .unset, .unset, .unset, .unset, .unset, .unset] [(.int (24 : Int32))])) _
          refine XS.istore X2.here hx rfl (hb hby at_283) rfl (l' := #[.val (.long j0), .second, .val (.int i2), .val (.int i3), .val (.int i4), .val (.long j5), .second, .val (.ref a7), .val (.int i8), .val (.int i9), .val (.long j10), .second, .val (.int i12), .val (.int i13), .val (.int i14), .val (.int i15), .val (.int i16), .val (.int i17), .val (.int (24 : Int32)), .val (.int (24 : Int32)), .unset, .unset, .unset, .unset, .unset, .unset]) rfl ?_
          exact kt
        have hI11 : n_a7 = 24 ∧ 0 ≤ (24 : Int32).toInt ∧ (24 : Int32).toInt ≤ 24 ∧ (24 : Int32).toInt ≤ 24 := by first | exact own_w285a hI | exact own_w285b hI | exact own_w285c hI | exact own_w285d hI
        obtain ⟨T11, L11, k11, n11, X11, N11, hk11', hn11, st11⟩ := own_b0_285 hx hZ hw hby hml hown hret j0 i2 i3 i4 j5 a7 i8 i9 j10 i12 i13 i14 i15 i16 i17 (24 : Int32) (24 : Int32) n_a7 (own_up (own_up A_a7 (23 : Int32).toNatClampNeg ((i2.toInt8.toInt32).toInt8.toInt32)) (i15 - (1 : Int32)).toNatClampNeg ((i4.toInt8.toInt32).toInt8.toInt32)) X2 e2 N2 Z2 g_a7 V_a7_k2 hI11
        have hv : (own_f0_220 j0 i2 i3 i4 j5 i8 i9 j10 i12 i13 i14 i15 i16 i17 n_a7 A_a7) = (own_f0_285 j0 i2 i3 i4 j5 i8 i9 j10 i12 i13 i14 i15 i16 i17 (24 : Int32) (24 : Int32) n_a7 (own_up (own_up A_a7 (23 : Int32).toNatClampNeg ((i2.toInt8.toInt32).toInt8.toInt32)) (i15 - (1 : Int32)).toNatClampNeg ((i4.toInt8.toInt32).toInt8.toInt32))) := by unfold own_f0_220; rw [if_neg hc248, if_neg hc261, if_pos hc274]
        exact ⟨T11, L11, k11, n11, X11, N11, hk11', hn11, fun fs hr => pre10 _ (st11 fs (by rw [hv] at hr; exact hr))⟩
      · have pre12 : ∀ target, Steps p.tables e below (T2.setTop (mkF m 285 #[.val (.long j0), .second, .val (.int i2), .val (.int i3), .val (.int i4), .val (.long j5), .second, .val (.ref a7), .val (.int i8), .val (.int i9), .val (.long j10), .second, .val (.int i12), .val (.int i13), .val (.int i14), .val (.int i15), .val (.int i16), .val (.int i17), .val (.int i15), .val (.int (24 : Int32)), .unset, .unset, .unset, .unset, .unset, .unset] [])) target → Steps p.tables e below (T0.setTop (mkF m 220 #[.val (.long j0), .second, .val (.int i2), .val (.int i3), .val (.int i4), .val (.long j5), .second, .val (.ref a7), .val (.int i8), .val (.int i9), .val (.long j10), .second, .val (.int i12), .val (.int i13), .val (.int i14), .val (.int i15), .val (.int i16), .val (.int i17), .unset, .unset, .unset, .unset, .unset, .unset, .unset, .unset] [])) target := by
          intro target kt
          refine pre9 target ?_
          show Steps p.tables e below (T2.setTop (mkF m 274 #[.val (.long j0), .second, .val (.int i2), .val (.int i3), .val (.int i4), .val (.long j5), .second, .val (.ref a7), .val (.int i8), .val (.int i9), .val (.long j10), .second, .val (.int i12), .val (.int i13), .val (.int i14), .val (.int i15), .val (.int i16), .val (.int i17), .val (.int i15), .val (.int (24 : Int32)), .unset, .unset, .unset, .unset, .unset, .unset] [(.int (3 : Int32)), (.int i13)])) _
          refine XS.icmpYes X2.here hx rfl (pc0 := 274) (pc' := 285) rfl (hb hby at_274) rfl (feq hc274).2 (by decide) (by decide) ?_
          exact kt
        have hI13 : n_a7 = 24 ∧ 0 ≤ i15.toInt ∧ i15.toInt ≤ 24 ∧ (24 : Int32).toInt ≤ 24 := by first | exact own_w285a hI | exact own_w285b hI | exact own_w285c hI | exact own_w285d hI
        obtain ⟨T13, L13, k13, n13, X13, N13, hk13', hn13, st13⟩ := own_b0_285 hx hZ hw hby hml hown hret j0 i2 i3 i4 j5 a7 i8 i9 j10 i12 i13 i14 i15 i16 i17 i15 (24 : Int32) n_a7 (own_up (own_up A_a7 (23 : Int32).toNatClampNeg ((i2.toInt8.toInt32).toInt8.toInt32)) (i15 - (1 : Int32)).toNatClampNeg ((i4.toInt8.toInt32).toInt8.toInt32)) X2 e2 N2 Z2 g_a7 V_a7_k2 hI13
        have hv : (own_f0_220 j0 i2 i3 i4 j5 i8 i9 j10 i12 i13 i14 i15 i16 i17 n_a7 A_a7) = (own_f0_285 j0 i2 i3 i4 j5 i8 i9 j10 i12 i13 i14 i15 i16 i17 i15 (24 : Int32) n_a7 (own_up (own_up A_a7 (23 : Int32).toNatClampNeg ((i2.toInt8.toInt32).toInt8.toInt32)) (i15 - (1 : Int32)).toNatClampNeg ((i4.toInt8.toInt32).toInt8.toInt32))) := by unfold own_f0_220; rw [if_neg hc248, if_neg hc261, if_neg hc274]
        exact ⟨T13, L13, k13, n13, X13, N13, hk13', hn13, fun fs hr => pre12 _ (st13 fs (by rw [hv] at hr; exact hr))⟩
set_option maxRecDepth 65536 in
set_option maxHeartbeats 40000000 in
theorem own_b0_213 {p : Program} {l : Launch} {e : Env} {s : State} {m : MethodId} {args : Array Value} {below : List Frame} {meth : Method} {c : Code} {Z : State} {a0_ : Array Value} {n0 : Nat} (hx : p.tables.exec = Jvm.exec) (hZ : Z.Warmed39 s.vm) (hw : ∀ d ∈ tables_1, d.before a0_ Z = true) (hby : c.code = code) (hml : c.maxLocals = 26) (hown : s.vm.findClass "com/example/rollcalldb/rollcalldb/resp/DecimalParsePinLaw" = some m.cls) (hret : meth.sig.returnType = some .boolean) {T0 : State} {locs : List Loc} {h0 : Heap} (j0 : Int64) (i2 : Int32) (i3 : Int32) (i4 : Int32) (j5 : Int64) (a7 : Addr) (i8 : Int32) (i9 : Int32) (j10 : Int64) (i12 : Int32) (i13 : Int32) (i14 : Int32) (i15 : Int32) (i16 : Int32) (i17 : Int32) (u0 : Int32) (n_a7 : Int32) (A_a7 : Nat → Int32)
    (X0 : Stand p l e room_1 s m args below meth c T0 locs 1 24) (e0 : T0.heap = h0) (N0 : Fr n0 locs) (Z0 : n0 ≤ h0.size) (g_a7 : n0 ≤ a7) (V_a7 : own_Ar Z h0 a7 .byte n_a7 A_a7) (hI : n_a7 = 24 ∧ 4 ≤ i8.toInt ∧ i8.toInt ≤ 23 ∧ 0 ≤ i12.toInt ∧ i12.toInt ≤ 3 ∧ i15.toInt = i8.toInt - i12.toInt ∧ 0 ≤ u0.toInt ∧ u0.toInt ≤ 23) :
    ∃ T' locs' cells' slots', Stand p l e room_1 s m args below meth c T' locs' cells' slots' ∧ Fr n0 locs' ∧ cells' ≤ room_1.cells ∧ slots' ≤ room_1.slots ∧ ∀ fs, (∀ (f : JFrame) (acts : List Action), f.method = m → f.locked = none → f.entered = [] → (doReturn e (T'.setTop f) acts (some (.int (own_f0_213 j0 i2 i3 i4 j5 i8 i9 j10 i12 i13 i14 i15 i16 i17 u0 n_a7 A_a7)))).1 = T'.setFrames fs) → Steps p.tables e below (T0.setTop (mkF m 213 #[.val (.long j0), .second, .val (.int i2), .val (.int i3), .val (.int i4), .val (.long j5), .second, .val (.ref a7), .val (.int i8), .val (.int i9), .val (.long j10), .second, .val (.int i12), .val (.int i13), .val (.int i14), .val (.int i15), .val (.int i16), .val (.int i17), .unset, .unset, .unset, .unset, .unset, .unset, .unset, .unset] [(.int u0), (.ref a7)])) (T'.setFrames fs) := by
  have hix219 : ¬ u0 < 0 ∧ u0 < n_a7 := by exact own_su hI
  obtain ⟨T1, h1, X1, e1, W1, V1, st1⟩ := own_stB X0 hx hZ e0 V_a7 hix219 (g := (mkF m 219 #[.val (.long j0), .second, .val (.int i2), .val (.int i3), .val (.int i4), .val (.long j5), .second, .val (.ref a7), .val (.int i8), .val (.int i9), .val (.long j10), .second, .val (.int i12), .val (.int i13), .val (.int i14), .val (.int i15), .val (.int i16), .val (.int i17), .unset, .unset, .unset, .unset, .unset, .unset, .unset, .unset] [(.int (((48 : Int32) + i14).toInt8.toInt32)), (.int u0), (.ref a7)])) rfl rfl (hb hby at_219)
  have N1 := Fr.snoc X1 N0 g_a7
  have Z1 : n0 ≤ h1.size := Nat.le_trans Z0 (Keep.of_wr W1).1
  have V_a7_k1 := V1
  have pre2 : ∀ target, Steps p.tables e below (T1.setTop (mkF m 220 #[.val (.long j0), .second, .val (.int i2), .val (.int i3), .val (.int i4), .val (.long j5), .second, .val (.ref a7), .val (.int i8), .val (.int i9), .val (.long j10), .second, .val (.int i12), .val (.int i13), .val (.int i14), .val (.int i15), .val (.int i16), .val (.int i17), .unset, .unset, .unset, .unset, .unset, .unset, .unset, .unset] [])) target → Steps p.tables e below (T0.setTop (mkF m 213 #[.val (.long j0), .second, .val (.int i2), .val (.int i3), .val (.int i4), .val (.long j5), .second, .val (.ref a7), .val (.int i8), .val (.int i9), .val (.long j10), .second, .val (.int i12), .val (.int i13), .val (.int i14), .val (.int i15), .val (.int i16), .val (.int i17), .unset, .unset, .unset, .unset, .unset, .unset, .unset, .unset] [(.int u0), (.ref a7)])) target := by
    intro target kt
    show Steps p.tables e below (T0.setTop (mkF m 213 #[.val (.long j0), .second, .val (.int i2), .val (.int i3), .val (.int i4), .val (.long j5), .second, .val (.ref a7), .val (.int i8), .val (.int i9), .val (.long j10), .second, .val (.int i12), .val (.int i13), .val (.int i14), .val (.int i15), .val (.int i16), .val (.int i17), .unset, .unset, .unset, .unset, .unset, .unset, .unset, .unset] [(.int u0), (.ref a7)])) _
    refine XS.bipush X0.here hx rfl (hb hby at_213) ?_
    show Steps p.tables e below (T0.setTop (mkF m 215 #[.val (.long j0), .second, .val (.int i2), .val (.int i3), .val (.int i4), .val (.long j5), .second, .val (.ref a7), .val (.int i8), .val (.int i9), .val (.long j10), .second, .val (.int i12), .val (.int i13), .val (.int i14), .val (.int i15), .val (.int i16), .val (.int i17), .unset, .unset, .unset, .unset, .unset, .unset, .unset, .unset] [(.int (48 : Int32)), (.int u0), (.ref a7)])) _
    refine XS.iload X0.here hx rfl (hb hby at_215) rfl ?_
    show Steps p.tables e below (T0.setTop (mkF m 217 #[.val (.long j0), .second, .val (.int i2), .val (.int i3), .val (.int i4), .val (.long j5), .second, .val (.ref a7), .val (.int i8), .val (.int i9), .val (.long j10), .second, .val (.int i12), .val (.int i13), .val (.int i14), .val (.int i15), .val (.int i16), .val (.int i17), .unset, .unset, .unset, .unset, .unset, .unset, .unset, .unset] [(.int i14), (.int (48 : Int32)), (.int u0), (.ref a7)])) _
    refine XS.iadd X0.here hx rfl (hb hby at_217) rfl ?_
    show Steps p.tables e below (T0.setTop (mkF m 218 #[.val (.long j0), .second, .val (.int i2), .val (.int i3), .val (.int i4), .val (.long j5), .second, .val (.ref a7), .val (.int i8), .val (.int i9), .val (.long j10), .second, .val (.int i12), .val (.int i13), .val (.int i14), .val (.int i15), .val (.int i16), .val (.int i17), .unset, .unset, .unset, .unset, .unset, .unset, .unset, .unset] [(.int ((48 : Int32) + i14)), (.int u0), (.ref a7)])) _
    refine XS.i2b X0.here hx rfl (hb hby at_218) rfl ?_
    show Steps p.tables e below (T0.setTop (mkF m 219 #[.val (.long j0), .second, .val (.int i2), .val (.int i3), .val (.int i4), .val (.long j5), .second, .val (.ref a7), .val (.int i8), .val (.int i9), .val (.long j10), .second, .val (.int i12), .val (.int i13), .val (.int i14), .val (.int i15), .val (.int i16), .val (.int i17), .unset, .unset, .unset, .unset, .unset, .unset, .unset, .unset] [(.int (((48 : Int32) + i14).toInt8.toInt32)), (.int u0), (.ref a7)])) _
    refine st1 _ ?_
    exact kt
  have hI3 : n_a7 = 24 ∧ 4 ≤ i8.toInt ∧ i8.toInt ≤ 23 ∧ 0 ≤ i12.toInt ∧ i12.toInt ≤ 3 ∧ i15.toInt = i8.toInt - i12.toInt := by exact ⟨hI.1, hI.2.1, hI.2.2.1, hI.2.2.2.1, hI.2.2.2.2.1, hI.2.2.2.2.2.1⟩
  obtain ⟨T3, L3, k3, n3, X3, N3, hk3', hn3, st3⟩ := own_b0_220 hx hZ hw hby hml hown hret j0 i2 i3 i4 j5 a7 i8 i9 j10 i12 i13 i14 i15 i16 i17 n_a7 (own_up A_a7 u0.toNatClampNeg ((((48 : Int32) + i14).toInt8.toInt32).toInt8.toInt32)) X1 e1 N1 Z1 g_a7 V_a7_k1 hI3
  have hv : (own_f0_213 j0 i2 i3 i4 j5 i8 i9 j10 i12 i13 i14 i15 i16 i17 u0 n_a7 A_a7) = (own_f0_220 j0 i2 i3 i4 j5 i8 i9 j10 i12 i13 i14 i15 i16 i17 n_a7 (own_up A_a7 u0.toNatClampNeg ((((48 : Int32) + i14).toInt8.toInt32).toInt8.toInt32))) := by unfold own_f0_213; rfl
  exact ⟨T3, L3, k3, n3, X3, N3, hk3', hn3, fun fs hr => pre2 _ (st3 fs (by rw [hv] at hr; exact hr))⟩
set_option maxRecDepth 65536 in
set_option maxHeartbeats 40000000 in
theorem own_b0_190 {p : Program} {l : Launch} {e : Env} {s : State} {m : MethodId} {args : Array Value} {below : List Frame} {meth : Method} {c : Code} {Z : State} {a0_ : Array Value} {n0 : Nat} (hx : p.tables.exec = Jvm.exec) (hZ : Z.Warmed39 s.vm) (hw : ∀ d ∈ tables_1, d.before a0_ Z = true) (hby : c.code = code) (hml : c.maxLocals = 26) (hown : s.vm.findClass "com/example/rollcalldb/rollcalldb/resp/DecimalParsePinLaw" = some m.cls) (hret : meth.sig.returnType = some .boolean) {T0 : State} {locs : List Loc} {h0 : Heap} (j0 : Int64) (i2 : Int32) (i3 : Int32) (i4 : Int32) (j5 : Int64) (a7 : Addr) (i8 : Int32) (i9 : Int32) (j10 : Int64) (i12 : Int32) (i13 : Int32) (i14 : Int32) (i15 : Int32) (i16 : Int32) (u0 : Int32) (n_a7 : Int32) (A_a7 : Nat → Int32)
    (X0 : Stand p l e room_1 s m args below meth c T0 locs 1 24) (e0 : T0.heap = h0) (N0 : Fr n0 locs) (Z0 : n0 ≤ h0.size) (g_a7 : n0 ≤ a7) (V_a7 : own_Ar Z h0 a7 .byte n_a7 A_a7) (hI : n_a7 = 24 ∧ 4 ≤ i8.toInt ∧ i8.toInt ≤ 23 ∧ 0 ≤ i12.toInt ∧ i12.toInt ≤ 3 ∧ i15.toInt = i8.toInt - i12.toInt ∧ (u0 = 0 ∨ 1 ≤ i12.toInt)) :
    ∃ T' locs' cells' slots', Stand p l e room_1 s m args below meth c T' locs' cells' slots' ∧ Fr n0 locs' ∧ cells' ≤ room_1.cells ∧ slots' ≤ room_1.slots ∧ ∀ fs, (∀ (f : JFrame) (acts : List Action), f.method = m → f.locked = none → f.entered = [] → (doReturn e (T'.setTop f) acts (some (.int (own_f0_190 j0 i2 i3 i4 j5 i8 i9 j10 i12 i13 i14 i15 i16 u0 n_a7 A_a7)))).1 = T'.setFrames fs) → Steps p.tables e below (T0.setTop (mkF m 190 #[.val (.long j0), .second, .val (.int i2), .val (.int i3), .val (.int i4), .val (.long j5), .second, .val (.ref a7), .val (.int i8), .val (.int i9), .val (.long j10), .second, .val (.int i12), .val (.int i13), .val (.int i14), .val (.int i15), .val (.int i16), .unset, .unset, .unset, .unset, .unset, .unset, .unset, .unset, .unset] [(.int u0)])) (T'.setFrames fs) := by
  have pre1 : ∀ target, Steps p.tables e below (T0.setTop (mkF m 194 #[.val (.long j0), .second, .val (.int i2), .val (.int i3), .val (.int i4), .val (.long j5), .second, .val (.ref a7), .val (.int i8), .val (.int i9), .val (.long j10), .second, .val (.int i12), .val (.int i13), .val (.int i14), .val (.int i15), .val (.int i16), .val (.int u0), .unset, .unset, .unset, .unset, .unset, .unset, .unset, .unset] [(.int u0)])) target → Steps p.tables e below (T0.setTop (mkF m 190 #[.val (.long j0), .second, .val (.int i2), .val (.int i3), .val (.int i4), .val (.long j5), .second, .val (.ref a7), .val (.int i8), .val (.int i9), .val (.long j10), .second, .val (.int i12), .val (.int i13), .val (.int i14), .val (.int i15), .val (.int i16), .unset, .unset, .unset, .unset, .unset, .unset, .unset, .unset, .unset] [(.int u0)])) target := by
    intro target kt
    show Steps p.tables e below (T0.setTop (mkF m 190 #[.val (.long j0), .second, .val (.int i2), .val (.int i3), .val (.int i4), .val (.long j5), .second, .val (.ref a7), .val (.int i8), .val (.int i9), .val (.long j10), .second, .val (.int i12), .val (.int i13), .val (.int i14), .val (.int i15), .val (.int i16), .unset, .unset, .unset, .unset, .unset, .unset, .unset, .unset, .unset] [(.int u0)])) _
    refine XS.istore X0.here hx rfl (hb hby at_190) rfl (l' := #[.val (.long j0), .second, .val (.int i2), .val (.int i3), .val (.int i4), .val (.long j5), .second, .val (.ref a7), .val (.int i8), .val (.int i9), .val (.long j10), .second, .val (.int i12), .val (.int i13), .val (.int i14), .val (.int i15), .val (.int i16), .val (.int u0), .unset, .unset, .unset, .unset, .unset, .unset, .unset, .unset]) rfl ?_
    show Steps p.tables e below (T0.setTop (mkF m 192 #[.val (.long j0), .second, .val (.int i2), .val (.int i3), .val (.int i4), .val (.long j5), .second, .val (.ref a7), .val (.int i8), .val (.int i9), .val (.long j10), .second, .val (.int i12), .val (.int i13), .val (.int i14), .val (.int i15), .val (.int i16), .val (.int u0), .unset, .unset, .unset, .unset, .unset, .unset, .unset, .unset] [])) _
    refine XS.iload X0.here hx rfl (hb hby at_192) rfl ?_
    exact kt
  by_cases hc194 : u0 = (0 : Int32)
  · have pre2 : ∀ target, Steps p.tables e below (T0.setTop (mkF m 220 #[.val (.long j0), .second, .val (.int i2), .val (.int i3), .val (.int i4), .val (.long j5), .second, .val (.ref a7), .val (.int i8), .val (.int i9), .val (.long j10), .second, .val (.int i12), .val (.int i13), .val (.int i14), .val (.int i15), .val (.int i16), .val (.int u0), .unset, .unset, .unset, .unset, .unset, .unset, .unset, .unset] [])) target → Steps p.tables e below (T0.setTop (mkF m 190 #[.val (.long j0), .second, .val (.int i2), .val (.int i3), .val (.int i4), .val (.long j5), .second, .val (.ref a7), .val (.int i8), .val (.int i9), .val (.long j10), .second, .val (.int i12), .val (.int i13), .val (.int i14), .val (.int i15), .val (.int i16), .unset, .unset, .unset, .unset, .unset, .unset, .unset, .unset, .unset] [(.int u0)])) target := by
      intro target kt
      refine pre1 target ?_
      show Steps p.tables e below (T0.setTop (mkF m 194 #[.val (.long j0), .second, .val (.int i2), .val (.int i3), .val (.int i4), .val (.long j5), .second, .val (.ref a7), .val (.int i8), .val (.int i9), .val (.long j10), .second, .val (.int i12), .val (.int i13), .val (.int i14), .val (.int i15), .val (.int i16), .val (.int u0), .unset, .unset, .unset, .unset, .unset, .unset, .unset, .unset] [(.int u0)])) _
      refine XS.ifYes X0.here hx rfl (pc0 := 194) (pc' := 220) rfl (hb hby at_194) rfl ((if0 _ _).trans (teq hc194).1) (by decide) (by decide) ?_
      exact kt
    have hI3 : n_a7 = 24 ∧ 4 ≤ i8.toInt ∧ i8.toInt ≤ 23 ∧ 0 ≤ i12.toInt ∧ i12.toInt ≤ 3 ∧ i15.toInt = i8.toInt - i12.toInt := by exact ⟨hI.1, hI.2.1, hI.2.2.1, hI.2.2.2.1, hI.2.2.2.2.1, hI.2.2.2.2.2.1⟩
    obtain ⟨T3, L3, k3, n3, X3, N3, hk3', hn3, st3⟩ := own_b0_220 hx hZ hw hby hml hown hret j0 i2 i3 i4 j5 a7 i8 i9 j10 i12 i13 i14 i15 i16 u0 n_a7 A_a7 X0 e0 N0 Z0 g_a7 V_a7 hI3
    have hv : (own_f0_190 j0 i2 i3 i4 j5 i8 i9 j10 i12 i13 i14 i15 i16 u0 n_a7 A_a7) = (own_f0_220 j0 i2 i3 i4 j5 i8 i9 j10 i12 i13 i14 i15 i16 u0 n_a7 A_a7) := by unfold own_f0_190; rw [if_pos hc194]
    exact ⟨T3, L3, k3, n3, X3, N3, hk3', hn3, fun fs hr => pre2 _ (st3 fs (by rw [hv] at hr; exact hr))⟩
  · have pre4 : ∀ target, Steps p.tables e below (T0.setTop (mkF m 201 #[.val (.long j0), .second, .val (.int i2), .val (.int i3), .val (.int i4), .val (.long j5), .second, .val (.ref a7), .val (.int i8), .val (.int i9), .val (.long j10), .second, .val (.int i12), .val (.int i13), .val (.int i14), .val (.int i15), .val (.int i16), .val (.int u0), .unset, .unset, .unset, .unset, .unset, .unset, .unset, .unset] [(.int i9), (.ref a7)])) target → Steps p.tables e below (T0.setTop (mkF m 190 #[.val (.long j0), .second, .val (.int i2), .val (.int i3), .val (.int i4), .val (.long j5), .second, .val (.ref a7), .val (.int i8), .val (.int i9), .val (.long j10), .second, .val (.int i12), .val (.int i13), .val (.int i14), .val (.int i15), .val (.int i16), .unset, .unset, .unset, .unset, .unset, .unset, .unset, .unset, .unset] [(.int u0)])) target := by
      intro target kt
      refine pre1 target ?_
      show Steps p.tables e below (T0.setTop (mkF m 194 #[.val (.long j0), .second, .val (.int i2), .val (.int i3), .val (.int i4), .val (.long j5), .second, .val (.ref a7), .val (.int i8), .val (.int i9), .val (.long j10), .second, .val (.int i12), .val (.int i13), .val (.int i14), .val (.int i15), .val (.int i16), .val (.int u0), .unset, .unset, .unset, .unset, .unset, .unset, .unset, .unset] [(.int u0)])) _
      refine XS.ifNo X0.here hx rfl (hb hby at_194) rfl ((if0 _ _).trans (feq hc194).1) ?_
      show Steps p.tables e below (T0.setTop (mkF m 197 #[.val (.long j0), .second, .val (.int i2), .val (.int i3), .val (.int i4), .val (.long j5), .second, .val (.ref a7), .val (.int i8), .val (.int i9), .val (.long j10), .second, .val (.int i12), .val (.int i13), .val (.int i14), .val (.int i15), .val (.int i16), .val (.int u0), .unset, .unset, .unset, .unset, .unset, .unset, .unset, .unset] [])) _
      refine XS.aload X0.here hx rfl (hb hby at_197) rfl rfl ?_
      show Steps p.tables e below (T0.setTop (mkF m 199 #[.val (.long j0), .second, .val (.int i2), .val (.int i3), .val (.int i4), .val (.long j5), .second, .val (.ref a7), .val (.int i8), .val (.int i9), .val (.long j10), .second, .val (.int i12), .val (.int i13), .val (.int i14), .val (.int i15), .val (.int i16), .val (.int u0), .unset, .unset, .unset, .unset, .unset, .unset, .unset, .unset] [(.ref a7)])) _
      refine XS.iload X0.here hx rfl (hb hby at_199) rfl ?_
      exact kt
    by_cases hc201 : i9 = (0 : Int32)
    · have pre5 : ∀ target, Steps p.tables e below (T0.setTop (mkF m 213 #[.val (.long j0), .second, .val (.int i2), .val (.int i3), .val (.int i4), .val (.long j5), .second, .val (.ref a7), .val (.int i8), .val (.int i9), .val (.long j10), .second, .val (.int i12), .val (.int i13), .val (.int i14), .val (.int i15), .val (.int i16), .val (.int u0), .unset, .unset, .unset, .unset, .unset, .unset, .unset, .unset] [(.int i15), (.ref a7)])) target → Steps p.tables e below (T0.setTop (mkF m 190 #[.val (.long j0), .second, .val (.int i2), .val (.int i3), .val (.int i4), .val (.long j5), .second, .val (.ref a7), .val (.int i8), .val (.int i9), .val (.long j10), .second, .val (.int i12), .val (.int i13), .val (.int i14), .val (.int i15), .val (.int i16), .unset, .unset, .unset, .unset, .unset, .unset, .unset, .unset, .unset] [(.int u0)])) target := by
        intro target kt
        refine pre4 target ?_
        show Steps p.tables e below (T0.setTop (mkF m 201 #[.val (.long j0), .second, .val (.int i2), .val (.int i3), .val (.int i4), .val (.long j5), .second, .val (.ref a7), .val (.int i8), .val (.int i9), .val (.long j10), .second, .val (.int i12), .val (.int i13), .val (.int i14), .val (.int i15), .val (.int i16), .val (.int u0), .unset, .unset, .unset, .unset, .unset, .unset, .unset, .unset] [(.int i9), (.ref a7)])) _
        refine XS.ifYes X0.here hx rfl (pc0 := 201) (pc' := 211) rfl (hb hby at_201) rfl ((if0 _ _).trans (teq hc201).1) (by decide) (by decide) ?_
        show Steps p.tables e below (T0.setTop (mkF m 211 #[.val (.long j0), .second, .val (.int i2), .val (.int i3), .val (.int i4), .val (.long j5), .second, .val (.ref a7), .val (.int i8), .val (.int i9), .val (.long j10), .second, .val (.int i12), .val (.int i13), .val (.int i14), .val (.int i15), .val (.int i16), .val (.int u0), .unset, .unset, .unset, .unset, .unset, .unset, .unset, .unset] [(.ref a7)])) _
        refine XS.iload X0.here hx rfl (hb hby at_211) rfl ?_
        exact kt
      have hI6 : n_a7 = 24 ∧ 4 ≤ i8.toInt ∧ i8.toInt ≤ 23 ∧ 0 ≤ i12.toInt ∧ i12.toInt ≤ 3 ∧ i15.toInt = i8.toInt - i12.toInt ∧ 0 ≤ i15.toInt ∧ i15.toInt ≤ 23 := by first | exact own_w213a hI hc194 | exact own_w213b hI
      obtain ⟨T6, L6, k6, n6, X6, N6, hk6', hn6, st6⟩ := own_b0_213 hx hZ hw hby hml hown hret j0 i2 i3 i4 j5 a7 i8 i9 j10 i12 i13 i14 i15 i16 u0 i15 n_a7 A_a7 X0 e0 N0 Z0 g_a7 V_a7 hI6
      have hv : (own_f0_190 j0 i2 i3 i4 j5 i8 i9 j10 i12 i13 i14 i15 i16 u0 n_a7 A_a7) = (own_f0_213 j0 i2 i3 i4 j5 i8 i9 j10 i12 i13 i14 i15 i16 u0 i15 n_a7 A_a7) := by unfold own_f0_190; rw [if_neg hc194, if_pos hc201]
      exact ⟨T6, L6, k6, n6, X6, N6, hk6', hn6, fun fs hr => pre5 _ (st6 fs (by rw [hv] at hr; exact hr))⟩
    · have pre7 : ∀ target, Steps p.tables e below (T0.setTop (mkF m 213 #[.val (.long j0), .second, .val (.int i2), .val (.int i3), .val (.int i4), .val (.long j5), .second, .val (.ref a7), .val (.int i8), .val (.int i9), .val (.long j10), .second, .val (.int i12), .val (.int i13), .val (.int i14), .val (.int i15), .val (.int i16), .val (.int u0), .unset, .unset, .unset, .unset, .unset, .unset, .unset, .unset] [(.int (i15 + (1 : Int32))), (.ref a7)])) target → Steps p.tables e below (T0.setTop (mkF m 190 #[.val (.long j0), .second, .val (.int i2), .val (.int i3), .val (.int i4), .val (.long j5), .second, .val (.ref a7), .val (.int i8), .val (.int i9), .val (.long j10), .second, .val (.int i12), .val (.int i13), .val (.int i14), .val (.int i15), .val (.int i16), .unset, .unset, .unset, .unset, .unset, .unset, .unset, .unset, .unset] [(.int u0)])) target := by
        intro target kt
        refine pre4 target ?_
        show Steps p.tables e below (T0.setTop (mkF m 201 #[.val (.long j0), .second, .val (.int i2), .val (.int i3), .val (.int i4), .val (.long j5), .second, .val (.ref a7), .val (.int i8), .val (.int i9), .val (.long j10), .second, .val (.int i12), .val (.int i13), .val (.int i14), .val (.int i15), .val (.int i16), .val (.int u0), .unset, .unset, .unset, .unset, .unset, .unset, .unset, .unset] [(.int i9), (.ref a7)])) _
        refine XS.ifNo X0.here hx rfl (hb hby at_201) rfl ((if0 _ _).trans (feq hc201).1) ?_
        show Steps p.tables e below (T0.setTop (mkF m 204 #[.val (.long j0), .second, .val (.int i2), .val (.int i3), .val (.int i4), .val (.long j5), .second, .val (.ref a7), .val (.int i8), .val (.int i9), .val (.long j10), .second, .val (.int i12), .val (.int i13), .val (.int i14), .val (.int i15), .val (.int i16), .val (.int u0), .unset, .unset, .unset, .unset, .unset, .unset, .unset, .unset] [(.ref a7)])) _
        refine XS.iload X0.here hx rfl (hb hby at_204) rfl ?_
        show Steps p.tables e below (T0.setTop (mkF m 206 #[.val (.long j0), .second, .val (.int i2), .val (.int i3), .val (.int i4), .val (.long j5), .second, .val (.ref a7), .val (.int i8), .val (.int i9), .val (.long j10), .second, .val (.int i12), .val (.int i13), .val (.int i14), .val (.int i15), .val (.int i16), .val (.int u0), .unset, .unset, .unset, .unset, .unset, .unset, .unset, .unset] [(.int i15), (.ref a7)])) _
        refine XS.iconst X0.here hx rfl (hb hby at_206) ?_
        show Steps p.tables e below (T0.setTop (mkF m 207 #[.val (.long j0), .second, .val (.int i2), .val (.int i3), .val (.int i4), .val (.long j5), .second, .val (.ref a7), .val (.int i8), .val (.int i9), .val (.long j10), .second, .val (.int i12), .val (.int i13), .val (.int i14), .val (.int i15), .val (.int i16), .val (.int u0), .unset, .unset, .unset, .unset, .unset, .unset, .unset, .unset] [(.int (1 : Int32)), (.int i15), (.ref a7)])) _
        refine XS.iadd X0.here hx rfl (hb hby at_207) rfl ?_
        show Steps p.tables e below (T0.setTop (mkF m 208 #[.val (.long j0), .second, .val (.int i2), .val (.int i3), .val (.int i4), .val (.long j5), .second, .val (.ref a7), .val (.int i8), .val (.int i9), .val (.long j10), .second, .val (.int i12), .val (.int i13), .val (.int i14), .val (.int i15), .val (.int i16), .val (.int u0), .unset, .unset, .unset, .unset, .unset, .unset, .unset, .unset] [(.int (i15 + (1 : Int32))), (.ref a7)])) _
        refine XS.goto X0.here hx rfl (pc0 := 208) (pc' := 213) rfl (hb hby at_208) (by decide) (by decide) ?_
        exact kt
      have hI8 : n_a7 = 24 ∧ 4 ≤ i8.toInt ∧ i8.toInt ≤ 23 ∧ 0 ≤ i12.toInt ∧ i12.toInt ≤ 3 ∧ i15.toInt = i8.toInt - i12.toInt ∧ 0 ≤ (i15 + (1 : Int32)).toInt ∧ (i15 + (1 : Int32)).toInt ≤ 23 := by first | exact own_w213a hI hc194 | exact own_w213b hI
      obtain ⟨T8, L8, k8, n8, X8, N8, hk8', hn8, st8⟩ := own_b0_213 hx hZ hw hby hml hown hret j0 i2 i3 i4 j5 a7 i8 i9 j10 i12 i13 i14 i15 i16 u0 (i15 + (1 : Int32)) n_a7 A_a7 X0 e0 N0 Z0 g_a7 V_a7 hI8
      have hv : (own_f0_190 j0 i2 i3 i4 j5 i8 i9 j10 i12 i13 i14 i15 i16 u0 n_a7 A_a7) = (own_f0_213 j0 i2 i3 i4 j5 i8 i9 j10 i12 i13 i14 i15 i16 u0 (i15 + (1 : Int32)) n_a7 A_a7) := by unfold own_f0_190; rw [if_neg hc194, if_neg hc201]
      exact ⟨T8, L8, k8, n8, X8, N8, hk8', hn8, fun fs hr => pre7 _ (st8 fs (by rw [hv] at hr; exact hr))⟩
set_option maxRecDepth 65536 in
set_option maxHeartbeats 40000000 in
theorem own_b0_189 {p : Program} {l : Launch} {e : Env} {s : State} {m : MethodId} {args : Array Value} {below : List Frame} {meth : Method} {c : Code} {Z : State} {a0_ : Array Value} {n0 : Nat} (hx : p.tables.exec = Jvm.exec) (hZ : Z.Warmed39 s.vm) (hw : ∀ d ∈ tables_1, d.before a0_ Z = true) (hby : c.code = code) (hml : c.maxLocals = 26) (hown : s.vm.findClass "com/example/rollcalldb/rollcalldb/resp/DecimalParsePinLaw" = some m.cls) (hret : meth.sig.returnType = some .boolean) {T0 : State} {locs : List Loc} {h0 : Heap} (j0 : Int64) (i2 : Int32) (i3 : Int32) (i4 : Int32) (j5 : Int64) (a7 : Addr) (i8 : Int32) (i9 : Int32) (j10 : Int64) (i12 : Int32) (i13 : Int32) (i14 : Int32) (i15 : Int32) (i16 : Int32) (n_a7 : Int32) (A_a7 : Nat → Int32)
    (X0 : Stand p l e room_1 s m args below meth c T0 locs 1 24) (e0 : T0.heap = h0) (N0 : Fr n0 locs) (Z0 : n0 ≤ h0.size) (g_a7 : n0 ≤ a7) (V_a7 : own_Ar Z h0 a7 .byte n_a7 A_a7) (hI : n_a7 = 24 ∧ 4 ≤ i8.toInt ∧ i8.toInt ≤ 23 ∧ 0 ≤ i12.toInt ∧ i12.toInt ≤ 3 ∧ i15.toInt = i8.toInt - i12.toInt) :
    ∃ T' locs' cells' slots', Stand p l e room_1 s m args below meth c T' locs' cells' slots' ∧ Fr n0 locs' ∧ cells' ≤ room_1.cells ∧ slots' ≤ room_1.slots ∧ ∀ fs, (∀ (f : JFrame) (acts : List Action), f.method = m → f.locked = none → f.entered = [] → (doReturn e (T'.setTop f) acts (some (.int (own_f0_189 j0 i2 i3 i4 j5 i8 i9 j10 i12 i13 i14 i15 i16 n_a7 A_a7)))).1 = T'.setFrames fs) → Steps p.tables e below (T0.setTop (mkF m 189 #[.val (.long j0), .second, .val (.int i2), .val (.int i3), .val (.int i4), .val (.long j5), .second, .val (.ref a7), .val (.int i8), .val (.int i9), .val (.long j10), .second, .val (.int i12), .val (.int i13), .val (.int i14), .val (.int i15), .val (.int i16), .unset, .unset, .unset, .unset, .unset, .unset, .unset, .unset, .unset] [])) (T'.setFrames fs) := by
  have pre1 : ∀ target, Steps p.tables e below (T0.setTop (mkF m 190 #[.val (.long j0), .second, .val (.int i2), .val (.int i3), .val (.int i4), .val (.long j5), .second, .val (.ref a7), .val (.int i8), .val (.int i9), .val (.long j10), .second, .val (.int i12), .val (.int i13), .val (.int i14), .val (.int i15), .val (.int i16), .unset, .unset, .unset, .unset, .unset, .unset, .unset, .unset, .unset] [(.int (0 : Int32))])) target → Steps p.tables e below (T0.setTop (mkF m 189 #[.val (.long j0), .second, .val (.int i2), .val (.int i3), .val (.int i4), .val (.long j5), .second, .val (.ref a7), .val (.int i8), .val (.int i9), .val (.long j10), .second, .val (.int i12), .val (.int i13), .val (.int i14), .val (.int i15), .val (.int i16), .unset, .unset, .unset, .unset, .unset, .unset, .unset, .unset, .unset] [])) target := by
    intro target kt
    show Steps p.tables e below (T0.setTop (mkF m 189 #[.val (.long j0), .second, .val (.int i2), .val (.int i3), .val (.int i4), .val (.long j5), .second, .val (.ref a7), .val (.int i8), .val (.int i9), .val (.long j10), .second, .val (.int i12), .val (.int i13), .val (.int i14), .val (.int i15), .val (.int i16), .unset, .unset, .unset, .unset, .unset, .unset, .unset, .unset, .unset] [])) _
    refine XS.iconst X0.here hx rfl (hb hby at_189) ?_
    exact kt
  have hI2 : n_a7 = 24 ∧ 4 ≤ i8.toInt ∧ i8.toInt ≤ 23 ∧ 0 ≤ i12.toInt ∧ i12.toInt ≤ 3 ∧ i15.toInt = i8.toInt - i12.toInt ∧ ((0 : Int32) = 0 ∨ 1 ≤ i12.toInt) := by exact ⟨hI.1, hI.2.1, hI.2.2.1, hI.2.2.2.1, hI.2.2.2.2.1, hI.2.2.2.2.2, Or.inl rfl⟩
  obtain ⟨T2, L2, k2, n2, X2, N2, hk2', hn2, st2⟩ := own_b0_190 hx hZ hw hby hml hown hret j0 i2 i3 i4 j5 a7 i8 i9 j10 i12 i13 i14 i15 i16 (0 : Int32) n_a7 A_a7 X0 e0 N0 Z0 g_a7 V_a7 hI2
  have hv : (own_f0_189 j0 i2 i3 i4 j5 i8 i9 j10 i12 i13 i14 i15 i16 n_a7 A_a7) = (own_f0_190 j0 i2 i3 i4 j5 i8 i9 j10 i12 i13 i14 i15 i16 (0 : Int32) n_a7 A_a7) := by unfold own_f0_189; rfl
  exact ⟨T2, L2, k2, n2, X2, N2, hk2', hn2, fun fs hr => pre1 _ (st2 fs (by rw [hv] at hr; exact hr))⟩
set_option maxRecDepth 65536 in
set_option maxHeartbeats 40000000 in
theorem own_b0_155 {p : Program} {l : Launch} {e : Env} {s : State} {m : MethodId} {args : Array Value} {below : List Frame} {meth : Method} {c : Code} {Z : State} {a0_ : Array Value} {n0 : Nat} (hx : p.tables.exec = Jvm.exec) (hZ : Z.Warmed39 s.vm) (hw : ∀ d ∈ tables_1, d.before a0_ Z = true) (hby : c.code = code) (hml : c.maxLocals = 26) (hown : s.vm.findClass "com/example/rollcalldb/rollcalldb/resp/DecimalParsePinLaw" = some m.cls) (hret : meth.sig.returnType = some .boolean) {T0 : State} {locs : List Loc} {h0 : Heap} (j0 : Int64) (i2 : Int32) (i3 : Int32) (i4 : Int32) (j5 : Int64) (a7 : Addr) (i8 : Int32) (i9 : Int32) (j10 : Int64) (i12 : Int32) (i13 : Int32) (i14 : Int32) (i15 : Int32) (u0 : Int32) (n_a7 : Int32) (A_a7 : Nat → Int32)
    (X0 : Stand p l e room_1 s m args below meth c T0 locs 1 24) (e0 : T0.heap = h0) (N0 : Fr n0 locs) (Z0 : n0 ≤ h0.size) (g_a7 : n0 ≤ a7) (V_a7 : own_Ar Z h0 a7 .byte n_a7 A_a7) (hI : n_a7 = 24 ∧ 4 ≤ i8.toInt ∧ i8.toInt ≤ 23 ∧ 0 ≤ i12.toInt ∧ i12.toInt ≤ 3 ∧ i15.toInt = i8.toInt - i12.toInt) :
    ∃ T' locs' cells' slots', Stand p l e room_1 s m args below meth c T' locs' cells' slots' ∧ Fr n0 locs' ∧ cells' ≤ room_1.cells ∧ slots' ≤ room_1.slots ∧ ∀ fs, (∀ (f : JFrame) (acts : List Action), f.method = m → f.locked = none → f.entered = [] → (doReturn e (T'.setTop f) acts (some (.int (own_f0_155 j0 i2 i3 i4 j5 i8 i9 j10 i12 i13 i14 i15 u0 n_a7 A_a7)))).1 = T'.setFrames fs) → Steps p.tables e below (T0.setTop (mkF m 155 #[.val (.long j0), .second, .val (.int i2), .val (.int i3), .val (.int i4), .val (.long j5), .second, .val (.ref a7), .val (.int i8), .val (.int i9), .val (.long j10), .second, .val (.int i12), .val (.int i13), .val (.int i14), .val (.int i15), .unset, .unset, .unset, .unset, .unset, .unset, .unset, .unset, .unset, .unset] [(.int u0)])) (T'.setFrames fs) := by
  have pre1 : ∀ target, Steps p.tables e below (T0.setTop (mkF m 159 #[.val (.long j0), .second, .val (.int i2), .val (.int i3), .val (.int i4), .val (.long j5), .second, .val (.ref a7), .val (.int i8), .val (.int i9), .val (.long j10), .second, .val (.int i12), .val (.int i13), .val (.int i14), .val (.int i15), .val (.int u0), .unset, .unset, .unset, .unset, .unset, .unset, .unset, .unset, .unset] [(.int i13)])) target → Steps p.tables e below (T0.setTop (mkF m 155 #[.val (.long j0), .second, .val (.int i2), .val (.int i3), .val (.int i4), .val (.long j5), .second, .val (.ref a7), .val (.int i8), .val (.int i9), .val (.long j10), .second, .val (.int i12), .val (.int i13), .val (.int i14), .val (.int i15), .unset, .unset, .unset, .unset, .unset, .unset, .unset, .unset, .unset, .unset] [(.int u0)])) target := by
    intro target kt
    show Steps p.tables e below (T0.setTop (mkF m 155 #[.val (.long j0), .second, .val (.int i2), .val (.int i3), .val (.int i4), .val (.long j5), .second, .val (.ref a7), .val (.int i8), .val (.int i9), .val (.long j10), .second, .val (.int i12), .val (.int i13), .val (.int i14), .val (.int i15), .unset, .unset, .unset, .unset, .unset, .unset, .unset, .unset, .unset, .unset] [(.int u0)])) _
    refine XS.istore X0.here hx rfl (hb hby at_155) rfl (l' := #[.val (.long j0), .second, .val (.int i2), .val (.int i3), .val (.int i4), .val (.long j5), .second, .val (.ref a7), .val (.int i8), .val (.int i9), .val (.long j10), .second, .val (.int i12), .val (.int i13), .val (.int i14), .val (.int i15), .val (.int u0), .unset, .unset, .unset, .unset, .unset, .unset, .unset, .unset, .unset]) rfl ?_
    show Steps p.tables e below (T0.setTop (mkF m 157 #[.val (.long j0), .second, .val (.int i2), .val (.int i3), .val (.int i4), .val (.long j5), .second, .val (.ref a7), .val (.int i8), .val (.int i9), .val (.long j10), .second, .val (.int i12), .val (.int i13), .val (.int i14), .val (.int i15), .val (.int u0), .unset, .unset, .unset, .unset, .unset, .unset, .unset, .unset, .unset] [])) _
    refine XS.iload X0.here hx rfl (hb hby at_157) rfl ?_
    exact kt
  by_cases hc159 : i13 = (0 : Int32)
  · have pre2 : ∀ target, Steps p.tables e below (T0.setTop (mkF m 164 #[.val (.long j0), .second, .val (.int i2), .val (.int i3), .val (.int i4), .val (.long j5), .second, .val (.ref a7), .val (.int i8), .val (.int i9), .val (.long j10), .second, .val (.int i12), .val (.int i13), .val (.int i14), .val (.int i15), .val (.int u0), .unset, .unset, .unset, .unset, .unset, .unset, .unset, .unset, .unset] [(.int i12)])) target → Steps p.tables e below (T0.setTop (mkF m 155 #[.val (.long j0), .second, .val (.int i2), .val (.int i3), .val (.int i4), .val (.long j5), .second, .val (.ref a7), .val (.int i8), .val (.int i9), .val (.long j10), .second, .val (.int i12), .val (.int i13), .val (.int i14), .val (.int i15), .unset, .unset, .unset, .unset, .unset, .unset, .unset, .unset, .unset, .unset] [(.int u0)])) target := by
      intro target kt
      refine pre1 target ?_
      show Steps p.tables e below (T0.setTop (mkF m 159 #[.val (.long j0), .second, .val (.int i2), .val (.int i3), .val (.int i4), .val (.long j5), .second, .val (.ref a7), .val (.int i8), .val (.int i9), .val (.long j10), .second, .val (.int i12), .val (.int i13), .val (.int i14), .val (.int i15), .val (.int u0), .unset, .unset, .unset, .unset, .unset, .unset, .unset, .unset, .unset] [(.int i13)])) _
      refine XS.ifNo X0.here hx rfl (hb hby at_159) rfl ((if0 _ _).trans (teq hc159).2) ?_
      show Steps p.tables e below (T0.setTop (mkF m 162 #[.val (.long j0), .second, .val (.int i2), .val (.int i3), .val (.int i4), .val (.long j5), .second, .val (.ref a7), .val (.int i8), .val (.int i9), .val (.long j10), .second, .val (.int i12), .val (.int i13), .val (.int i14), .val (.int i15), .val (.int u0), .unset, .unset, .unset, .unset, .unset, .unset, .unset, .unset, .unset] [])) _
      refine XS.iload X0.here hx rfl (hb hby at_162) rfl ?_
      exact kt
    by_cases hc164 : (0 : Int32) < i12
    · have pre3 : ∀ target, Steps p.tables e below (T0.setTop (mkF m 170 #[.val (.long j0), .second, .val (.int i2), .val (.int i3), .val (.int i4), .val (.long j5), .second, .val (.ref a7), .val (.int i8), .val (.int i9), .val (.long j10), .second, .val (.int i12), .val (.int i13), .val (.int i14), .val (.int i15), .val (.int u0), .unset, .unset, .unset, .unset, .unset, .unset, .unset, .unset, .unset] [(.int (1 : Int32)), (.int i14)])) target → Steps p.tables e below (T0.setTop (mkF m 155 #[.val (.long j0), .second, .val (.int i2), .val (.int i3), .val (.int i4), .val (.long j5), .second, .val (.ref a7), .val (.int i8), .val (.int i9), .val (.long j10), .second, .val (.int i12), .val (.int i13), .val (.int i14), .val (.int i15), .unset, .unset, .unset, .unset, .unset, .unset, .unset, .unset, .unset, .unset] [(.int u0)])) target := by
        intro target kt
        refine pre2 target ?_
        show Steps p.tables e below (T0.setTop (mkF m 164 #[.val (.long j0), .second, .val (.int i2), .val (.int i3), .val (.int i4), .val (.long j5), .second, .val (.ref a7), .val (.int i8), .val (.int i9), .val (.long j10), .second, .val (.int i12), .val (.int i13), .val (.int i14), .val (.int i15), .val (.int u0), .unset, .unset, .unset, .unset, .unset, .unset, .unset, .unset, .unset] [(.int i12)])) _
        refine XS.ifNo X0.here hx rfl (hb hby at_164) rfl ((if0 _ _).trans (tlt hc164).2.2.2) ?_
        show Steps p.tables e below (T0.setTop (mkF m 167 #[.val (.long j0), .second, .val (.int i2), .val (.int i3), .val (.int i4), .val (.long j5), .second, .val (.ref a7), .val (.int i8), .val (.int i9), .val (.long j10), .second, .val (.int i12), .val (.int i13), .val (.int i14), .val (.int i15), .val (.int u0), .unset, .unset, .unset, .unset, .unset, .unset, .unset, .unset, .unset] [])) _
        refine XS.iload X0.here hx rfl (hb hby at_167) rfl ?_
        show Steps p.tables e below (T0.setTop (mkF m 169 #[.val (.long j0), .second, .val (.int i2), .val (.int i3), .val (.int i4), .val (.long j5), .second, .val (.ref a7), .val (.int i8), .val (.int i9), .val (.long j10), .second, .val (.int i12), .val (.int i13), .val (.int i14), .val (.int i15), .val (.int u0), .unset, .unset, .unset, .unset, .unset, .unset, .unset, .unset, .unset] [(.int i14)])) _
        refine XS.iconst X0.here hx rfl (hb hby at_169) ?_
        exact kt
      by_cases hc170 : i14 < (1 : Int32)
      · have pre4 : ∀ target, Steps p.tables e below (T0.setTop (mkF m 189 #[.val (.long j0), .second, .val (.int i2), .val (.int i3), .val (.int i4), .val (.long j5), .second, .val (.ref a7), .val (.int i8), .val (.int i9), .val (.long j10), .second, .val (.int i12), .val (.int i13), .val (.int i14), .val (.int i15), .val (.int u0), .unset, .unset, .unset, .unset, .unset, .unset, .unset, .unset, .unset] [])) target → Steps p.tables e below (T0.setTop (mkF m 155 #[.val (.long j0), .second, .val (.int i2), .val (.int i3), .val (.int i4), .val (.long j5), .second, .val (.ref a7), .val (.int i8), .val (.int i9), .val (.long j10), .second, .val (.int i12), .val (.int i13), .val (.int i14), .val (.int i15), .unset, .unset, .unset, .unset, .unset, .unset, .unset, .unset, .unset, .unset] [(.int u0)])) target := by
          intro target kt
          refine pre3 target ?_
          show Steps p.tables e below (T0.setTop (mkF m 170 #[.val (.long j0), .second, .val (.int i2), .val (.int i3), .val (.int i4), .val (.long j5), .second, .val (.ref a7), .val (.int i8), .val (.int i9), .val (.long j10), .second, .val (.int i12), .val (.int i13), .val (.int i14), .val (.int i15), .val (.int u0), .unset, .unset, .unset, .unset, .unset, .unset, .unset, .unset, .unset] [(.int (1 : Int32)), (.int i14)])) _
          refine XS.icmpYes X0.here hx rfl (pc0 := 170) (pc' := 189) rfl (hb hby at_170) rfl (tlt hc170).1 (by decide) (by decide) ?_
          exact kt
        have hI5 : n_a7 = 24 ∧ 4 ≤ i8.toInt ∧ i8.toInt ≤ 23 ∧ 0 ≤ i12.toInt ∧ i12.toInt ≤ 3 ∧ i15.toInt = i8.toInt - i12.toInt := by exact hI
        obtain ⟨T5, L5, k5, n5, X5, N5, hk5', hn5, st5⟩ := own_b0_189 hx hZ hw hby hml hown hret j0 i2 i3 i4 j5 a7 i8 i9 j10 i12 i13 i14 i15 u0 n_a7 A_a7 X0 e0 N0 Z0 g_a7 V_a7 hI5
        have hv : (own_f0_155 j0 i2 i3 i4 j5 i8 i9 j10 i12 i13 i14 i15 u0 n_a7 A_a7) = (own_f0_189 j0 i2 i3 i4 j5 i8 i9 j10 i12 i13 i14 i15 u0 n_a7 A_a7) := by unfold own_f0_155; rw [if_pos hc159, if_pos hc164, if_pos hc170]
        exact ⟨T5, L5, k5, n5, X5, N5, hk5', hn5, fun fs hr => pre4 _ (st5 fs (by rw [hv] at hr; exact hr))⟩
      · have pre6 : ∀ target, Steps p.tables e below (T0.setTop (mkF m 177 #[.val (.long j0), .second, .val (.int i2), .val (.int i3), .val (.int i4), .val (.long j5), .second, .val (.ref a7), .val (.int i8), .val (.int i9), .val (.long j10), .second, .val (.int i12), .val (.int i13), .val (.int i14), .val (.int i15), .val (.int u0), .unset, .unset, .unset, .unset, .unset, .unset, .unset, .unset, .unset] [(.int (9 : Int32)), (.int i14)])) target → Steps p.tables e below (T0.setTop (mkF m 155 #[.val (.long j0), .second, .val (.int i2), .val (.int i3), .val (.int i4), .val (.long j5), .second, .val (.ref a7), .val (.int i8), .val (.int i9), .val (.long j10), .second, .val (.int i12), .val (.int i13), .val (.int i14), .val (.int i15), .unset, .unset, .unset, .unset, .unset, .unset, .unset, .unset, .unset, .unset] [(.int u0)])) target := by
          intro target kt
          refine pre3 target ?_
          show Steps p.tables e below (T0.setTop (mkF m 170 #[.val (.long j0), .second, .val (.int i2), .val (.int i3), .val (.int i4), .val (.long j5), .second, .val (.ref a7), .val (.int i8), .val (.int i9), .val (.long j10), .second, .val (.int i12), .val (.int i13), .val (.int i14), .val (.int i15), .val (.int u0), .unset, .unset, .unset, .unset, .unset, .unset, .unset, .unset, .unset] [(.int (1 : Int32)), (.int i14)])) _
          refine XS.icmpNo X0.here hx rfl (hb hby at_170) rfl (flt hc170).1 ?_
          show Steps p.tables e below (T0.setTop (mkF m 173 #[.val (.long j0), .second, .val (.int i2), .val (.int i3), .val (.int i4), .val (.long j5), .second, .val (.ref a7), .val (.int i8), .val (.int i9), .val (.long j10), .second, .val (.int i12), .val (.int i13), .val (.int i14), .val (.int i15), .val (.int u0), .unset, .unset, .unset, .unset, .unset, .unset, .unset, .unset, .unset] [])) _
          refine XS.iload X0.here hx rfl (hb hby at_173) rfl ?_
          show Steps p.tables e below (T0.setTop (mkF m 175 #[.val (.long j0), .second, .val (.int i2), .val (.int i3), .val (.int i4), .val (.long j5), .second, .val (.ref a7), .val (.int i8), .val (.int i9), .val (.long j10), .second, .val (.int i12), .val (.int i13), .val (.int i14), .val (.int i15), .val (.int u0), .unset, .unset, .unset, .unset, .unset, .unset, .unset, .unset, .unset] [(.int i14)])) _
          refine XS.bipush X0.here hx rfl (hb hby at_175) ?_
          exact kt
        by_cases hc177 : (9 : Int32) < i14
        · have pre7 : ∀ target, Steps p.tables e below (T0.setTop (mkF m 189 #[.val (.long j0), .second, .val (.int i2), .val (.int i3), .val (.int i4), .val (.long j5), .second, .val (.ref a7), .val (.int i8), .val (.int i9), .val (.long j10), .second, .val (.int i12), .val (.int i13), .val (.int i14), .val (.int i15), .val (.int u0), .unset, .unset, .unset, .unset, .unset, .unset, .unset, .unset, .unset] [])) target → Steps p.tables e below (T0.setTop (mkF m 155 #[.val (.long j0), .second, .val (.int i2), .val (.int i3), .val (.int i4), .val (.long j5), .second, .val (.ref a7), .val (.int i8), .val (.int i9), .val (.long j10), .second, .val (.int i12), .val (.int i13), .val (.int i14), .val (.int i15), .unset, .unset, .unset, .unset, .unset, .unset, .unset, .unset, .unset, .unset] [(.int u0)])) target := by
            intro target kt
            refine pre6 target ?_
            show Steps p.tables e below (T0.setTop (mkF m 177 #[.val (.long j0), .second, .val (.int i2), .val (.int i3), .val (.int i4), .val (.long j5), .second, .val (.ref a7), .val (.int i8), .val (.int i9), .val (.long j10), .second, .val (.int i12), .val (.int i13), .val (.int i14), .val (.int i15), .val (.int u0), .unset, .unset, .unset, .unset, .unset, .unset, .unset, .unset, .unset] [(.int (9 : Int32)), (.int i14)])) _
            refine XS.icmpYes X0.here hx rfl (pc0 := 177) (pc' := 189) rfl (hb hby at_177) rfl (tlt hc177).2.2.1 (by decide) (by decide) ?_
            exact kt
          have hI8 : n_a7 = 24 ∧ 4 ≤ i8.toInt ∧ i8.toInt ≤ 23 ∧ 0 ≤ i12.toInt ∧ i12.toInt ≤ 3 ∧ i15.toInt = i8.toInt - i12.toInt := by exact hI
          obtain ⟨T8, L8, k8, n8, X8, N8, hk8', hn8, st8⟩ := own_b0_189 hx hZ hw hby hml hown hret j0 i2 i3 i4 j5 a7 i8 i9 j10 i12 i13 i14 i15 u0 n_a7 A_a7 X0 e0 N0 Z0 g_a7 V_a7 hI8
          have hv : (own_f0_155 j0 i2 i3 i4 j5 i8 i9 j10 i12 i13 i14 i15 u0 n_a7 A_a7) = (own_f0_189 j0 i2 i3 i4 j5 i8 i9 j10 i12 i13 i14 i15 u0 n_a7 A_a7) := by unfold own_f0_155; rw [if_pos hc159, if_pos hc164, if_neg hc170, if_pos hc177]
          exact ⟨T8, L8, k8, n8, X8, N8, hk8', hn8, fun fs hr => pre7 _ (st8 fs (by rw [hv] at hr; exact hr))⟩
        · have pre9 : ∀ target, Steps p.tables e below (T0.setTop (mkF m 182 #[.val (.long j0), .second, .val (.int i2), .val (.int i3), .val (.int i4), .val (.long j5), .second, .val (.ref a7), .val (.int i8), .val (.int i9), .val (.long j10), .second, .val (.int i12), .val (.int i13), .val (.int i14), .val (.int i15), .val (.int u0), .unset, .unset, .unset, .unset, .unset, .unset, .unset, .unset, .unset] [(.int u0)])) target → Steps p.tables e below (T0.setTop (mkF m 155 #[.val (.long j0), .second, .val (.int i2), .val (.int i3), .val (.int i4), .val (.long j5), .second, .val (.ref a7), .val (.int i8), .val (.int i9), .val (.long j10), .second, .val (.int i12), .val (.int i13), .val (.int i14), .val (.int i15), .unset, .unset, .unset, .unset, .unset, .unset, .unset, .unset, .unset, .unset] [(.int u0)])) target := by
            intro target kt
            refine pre6 target ?_
            show Steps p.tables e below (T0.setTop (mkF m 177 #[.val (.long j0), .second, .val (.int i2), .val (.int i3), .val (.int i4), .val (.long j5), .second, .val (.ref a7), .val (.int i8), .val (.int i9), .val (.long j10), .second, .val (.int i12), .val (.int i13), .val (.int i14), .val (.int i15), .val (.int u0), .unset, .unset, .unset, .unset, .unset, .unset, .unset, .unset, .unset] [(.int (9 : Int32)), (.int i14)])) _
            refine XS.icmpNo X0.here hx rfl (hb hby at_177) rfl (flt hc177).2.2.1 ?_
            show Steps p.tables e below (T0.setTop (mkF m 180 #[.val (.long j0), .second, .val (.int i2), .val (.int i3), .val (.int i4), .val (.long j5), .second, .val (.ref a7), .val (.int i8), .val (.int i9), .val (.long j10), .second, .val (.int i12), .val (.int i13), .val (.int i14), .val (.int i15), .val (.int u0), .unset, .unset, .unset, .unset, .unset, .unset, .unset, .unset, .unset] [])) _
            refine XS.iload X0.here hx rfl (hb hby at_180) rfl ?_
            exact kt
          by_cases hc182 : u0 = (0 : Int32)
          · have pre10 : ∀ target, Steps p.tables e below (T0.setTop (mkF m 189 #[.val (.long j0), .second, .val (.int i2), .val (.int i3), .val (.int i4), .val (.long j5), .second, .val (.ref a7), .val (.int i8), .val (.int i9), .val (.long j10), .second, .val (.int i12), .val (.int i13), .val (.int i14), .val (.int i15), .val (.int u0), .unset, .unset, .unset, .unset, .unset, .unset, .unset, .unset, .unset] [])) target → Steps p.tables e below (T0.setTop (mkF m 155 #[.val (.long j0), .second, .val (.int i2), .val (.int i3), .val (.int i4), .val (.long j5), .second, .val (.ref a7), .val (.int i8), .val (.int i9), .val (.long j10), .second, .val (.int i12), .val (.int i13), .val (.int i14), .val (.int i15), .unset, .unset, .unset, .unset, .unset, .unset, .unset, .unset, .unset, .unset] [(.int u0)])) target := by
              intro target kt
              refine pre9 target ?_
              show Steps p.tables e below (T0.setTop (mkF m 182 #[.val (.long j0), .second, .val (.int i2), .val (.int i3), .val (.int i4), .val (.long j5), .second, .val (.ref a7), .val (.int i8), .val (.int i9), .val (.long j10), .second, .val (.int i12), .val (.int i13), .val (.int i14), .val (.int i15), .val (.int u0), .unset, .unset, .unset, .unset, .unset, .unset, .unset, .unset, .unset] [(.int u0)])) _
              refine XS.ifYes X0.here hx rfl (pc0 := 182) (pc' := 189) rfl (hb hby at_182) rfl ((if0 _ _).trans (teq hc182).1) (by decide) (by decide) ?_
              exact kt
            have hI11 : n_a7 = 24 ∧ 4 ≤ i8.toInt ∧ i8.toInt ≤ 23 ∧ 0 ≤ i12.toInt ∧ i12.toInt ≤ 3 ∧ i15.toInt = i8.toInt - i12.toInt := by exact hI
            obtain ⟨T11, L11, k11, n11, X11, N11, hk11', hn11, st11⟩ := own_b0_189 hx hZ hw hby hml hown hret j0 i2 i3 i4 j5 a7 i8 i9 j10 i12 i13 i14 i15 u0 n_a7 A_a7 X0 e0 N0 Z0 g_a7 V_a7 hI11
            have hv : (own_f0_155 j0 i2 i3 i4 j5 i8 i9 j10 i12 i13 i14 i15 u0 n_a7 A_a7) = (own_f0_189 j0 i2 i3 i4 j5 i8 i9 j10 i12 i13 i14 i15 u0 n_a7 A_a7) := by unfold own_f0_155; rw [if_pos hc159, if_pos hc164, if_neg hc170, if_neg hc177, if_pos hc182]
            exact ⟨T11, L11, k11, n11, X11, N11, hk11', hn11, fun fs hr => pre10 _ (st11 fs (by rw [hv] at hr; exact hr))⟩
          · have pre12 : ∀ target, Steps p.tables e below (T0.setTop (mkF m 190 #[.val (.long j0), .second, .val (.int i2), .val (.int i3), .val (.int i4), .val (.long j5), .second, .val (.ref a7), .val (.int i8), .val (.int i9), .val (.long j10), .second, .val (.int i12), .val (.int i13), .val (.int i14), .val (.int i15), .val (.int u0), .unset, .unset, .unset, .unset, .unset, .unset, .unset, .unset, .unset] [(.int (1 : Int32))])) target → Steps p.tables e below (T0.setTop (mkF m 155 #[.val (.long j0), .second, .val (.int i2), .val (.int i3), .val (.int i4), .val (.long j5), .second, .val (.ref a7), .val (.int i8), .val (.int i9), .val (.long j10), .second, .val (.int i12), .val (.int i13), .val (.int i14), .val (.int i15), .unset, .unset, .unset, .unset, .unset, .unset, .unset, .unset, .unset, .unset] [(.int u0)])) target := by
              intro target kt
              refine pre9 target ?_
              show Steps p.tables e below (T0.setTop (mkF m 182 #[.val (.long j0), .second, .val (.int i2), .val (.int i3), .val (.int i4), .val (.long j5), .second, .val (.ref a7), .val (.int i8), .val (.int i9), .val (.long j10), .second, .val (.int i12), .val (.int i13), .val (.int i14), .val (.int i15), .val (.int u0), .unset, .unset, .unset, .unset, .unset, .unset, .unset, .unset, .unset] [(.int u0)])) _
              refine XS.ifNo X0.here hx rfl (hb hby at_182) rfl ((if0 _ _).trans (feq hc182).1) ?_
              show Steps p.tables e below (T0.setTop (mkF m 185 #[.val (.long j0), .second, .val (.int i2), .val (.int i3), .val (.int i4), .val (.long j5), .second, .val (.ref a7), .val (.int i8), .val (.int i9), .val (.long j10), .second, .val (.int i12), .val (.int i13), .val (.int i14), .val (.int i15), .val (.int u0), .unset, .unset, .unset, .unset, .unset, .unset, .unset, .unset, .unset] [])) _
              refine XS.iconst X0.here hx rfl (hb hby at_185) ?_
              show Steps p.tables e below (T0.setTop (mkF m 186 #[.val (.long j0), .second, .val (.int i2), .val (.int i3), .val (.int i4), .val (.long j5), .second, .val (.ref a7), .val (.int i8), .val (.int i9), .val (.long j10), .second, .val (.int i12), .val (.int i13), .val (.int i14), .val (.int i15), .val (.int u0), .unset, .unset, .unset, .unset, .unset, .unset, .unset, .unset, .unset] [(.int (1 : Int32))])) _
              refine XS.goto X0.here hx rfl (pc0 := 186) (pc' := 190) rfl (hb hby at_186) (by decide) (by decide) ?_
              exact kt
            have hI13 : n_a7 = 24 ∧ 4 ≤ i8.toInt ∧ i8.toInt ≤ 23 ∧ 0 ≤ i12.toInt ∧ i12.toInt ≤ 3 ∧ i15.toInt = i8.toInt - i12.toInt ∧ ((1 : Int32) = 0 ∨ 1 ≤ i12.toInt) := by exact own_w190 hI hc164
            obtain ⟨T13, L13, k13, n13, X13, N13, hk13', hn13, st13⟩ := own_b0_190 hx hZ hw hby hml hown hret j0 i2 i3 i4 j5 a7 i8 i9 j10 i12 i13 i14 i15 u0 (1 : Int32) n_a7 A_a7 X0 e0 N0 Z0 g_a7 V_a7 hI13
            have hv : (own_f0_155 j0 i2 i3 i4 j5 i8 i9 j10 i12 i13 i14 i15 u0 n_a7 A_a7) = (own_f0_190 j0 i2 i3 i4 j5 i8 i9 j10 i12 i13 i14 i15 u0 (1 : Int32) n_a7 A_a7) := by unfold own_f0_155; rw [if_pos hc159, if_pos hc164, if_neg hc170, if_neg hc177, if_neg hc182]
            exact ⟨T13, L13, k13, n13, X13, N13, hk13', hn13, fun fs hr => pre12 _ (st13 fs (by rw [hv] at hr; exact hr))⟩
    · have pre14 : ∀ target, Steps p.tables e below (T0.setTop (mkF m 189 #[.val (.long j0), .second, .val (.int i2), .val (.int i3), .val (.int i4), .val (.long j5), .second, .val (.ref a7), .val (.int i8), .val (.int i9), .val (.long j10), .second, .val (.int i12), .val (.int i13), .val (.int i14), .val (.int i15), .val (.int u0), .unset, .unset, .unset, .unset, .unset, .unset, .unset, .unset, .unset] [])) target → Steps p.tables e below (T0.setTop (mkF m 155 #[.val (.long j0), .second, .val (.int i2), .val (.int i3), .val (.int i4), .val (.long j5), .second, .val (.ref a7), .val (.int i8), .val (.int i9), .val (.long j10), .second, .val (.int i12), .val (.int i13), .val (.int i14), .val (.int i15), .unset, .unset, .unset, .unset, .unset, .unset, .unset, .unset, .unset, .unset] [(.int u0)])) target := by
        intro target kt
        refine pre2 target ?_
        show Steps p.tables e below (T0.setTop (mkF m 164 #[.val (.long j0), .second, .val (.int i2), .val (.int i3), .val (.int i4), .val (.long j5), .second, .val (.ref a7), .val (.int i8), .val (.int i9), .val (.long j10), .second, .val (.int i12), .val (.int i13), .val (.int i14), .val (.int i15), .val (.int u0), .unset, .unset, .unset, .unset, .unset, .unset, .unset, .unset, .unset] [(.int i12)])) _
        refine XS.ifYes X0.here hx rfl (pc0 := 164) (pc' := 189) rfl (hb hby at_164) rfl ((if0 _ _).trans (flt hc164).2.2.2) (by decide) (by decide) ?_
        exact kt
      have hI15 : n_a7 = 24 ∧ 4 ≤ i8.toInt ∧ i8.toInt ≤ 23 ∧ 0 ≤ i12.toInt ∧ i12.toInt ≤ 3 ∧ i15.toInt = i8.toInt - i12.toInt := by exact hI
      obtain ⟨T15, L15, k15, n15, X15, N15, hk15', hn15, st15⟩ := own_b0_189 hx hZ hw hby hml hown hret j0 i2 i3 i4 j5 a7 i8 i9 j10 i12 i13 i14 i15 u0 n_a7 A_a7 X0 e0 N0 Z0 g_a7 V_a7 hI15
      have hv : (own_f0_155 j0 i2 i3 i4 j5 i8 i9 j10 i12 i13 i14 i15 u0 n_a7 A_a7) = (own_f0_189 j0 i2 i3 i4 j5 i8 i9 j10 i12 i13 i14 i15 u0 n_a7 A_a7) := by unfold own_f0_155; rw [if_pos hc159, if_neg hc164]
      exact ⟨T15, L15, k15, n15, X15, N15, hk15', hn15, fun fs hr => pre14 _ (st15 fs (by rw [hv] at hr; exact hr))⟩
  · have pre16 : ∀ target, Steps p.tables e below (T0.setTop (mkF m 189 #[.val (.long j0), .second, .val (.int i2), .val (.int i3), .val (.int i4), .val (.long j5), .second, .val (.ref a7), .val (.int i8), .val (.int i9), .val (.long j10), .second, .val (.int i12), .val (.int i13), .val (.int i14), .val (.int i15), .val (.int u0), .unset, .unset, .unset, .unset, .unset, .unset, .unset, .unset, .unset] [])) target → Steps p.tables e below (T0.setTop (mkF m 155 #[.val (.long j0), .second, .val (.int i2), .val (.int i3), .val (.int i4), .val (.long j5), .second, .val (.ref a7), .val (.int i8), .val (.int i9), .val (.long j10), .second, .val (.int i12), .val (.int i13), .val (.int i14), .val (.int i15), .unset, .unset, .unset, .unset, .unset, .unset, .unset, .unset, .unset, .unset] [(.int u0)])) target := by
      intro target kt
      refine pre1 target ?_
      show Steps p.tables e below (T0.setTop (mkF m 159 #[.val (.long j0), .second, .val (.int i2), .val (.int i3), .val (.int i4), .val (.long j5), .second, .val (.ref a7), .val (.int i8), .val (.int i9), .val (.long j10), .second, .val (.int i12), .val (.int i13), .val (.int i14), .val (.int i15), .val (.int u0), .unset, .unset, .unset, .unset, .unset, .unset, .unset, .unset, .unset] [(.int i13)])) _
      refine XS.ifYes X0.here hx rfl (pc0 := 159) (pc' := 189) rfl (hb hby at_159) rfl ((if0 _ _).trans (feq hc159).2) (by decide) (by decide) ?_
      exact kt
    have hI17 : n_a7 = 24 ∧ 4 ≤ i8.toInt ∧ i8.toInt ≤ 23 ∧ 0 ≤ i12.toInt ∧ i12.toInt ≤ 3 ∧ i15.toInt = i8.toInt - i12.toInt := by exact hI
    obtain ⟨T17, L17, k17, n17, X17, N17, hk17', hn17, st17⟩ := own_b0_189 hx hZ hw hby hml hown hret j0 i2 i3 i4 j5 a7 i8 i9 j10 i12 i13 i14 i15 u0 n_a7 A_a7 X0 e0 N0 Z0 g_a7 V_a7 hI17
    have hv : (own_f0_155 j0 i2 i3 i4 j5 i8 i9 j10 i12 i13 i14 i15 u0 n_a7 A_a7) = (own_f0_189 j0 i2 i3 i4 j5 i8 i9 j10 i12 i13 i14 i15 u0 n_a7 A_a7) := by unfold own_f0_155; rw [if_neg hc159]
    exact ⟨T17, L17, k17, n17, X17, N17, hk17', hn17, fun fs hr => pre16 _ (st17 fs (by rw [hv] at hr; exact hr))⟩
set_option maxRecDepth 65536 in
set_option maxHeartbeats 40000000 in
theorem own_b0_134 {p : Program} {l : Launch} {e : Env} {s : State} {m : MethodId} {args : Array Value} {below : List Frame} {meth : Method} {c : Code} {Z : State} {a0_ : Array Value} {n0 : Nat} (hx : p.tables.exec = Jvm.exec) (hZ : Z.Warmed39 s.vm) (hw : ∀ d ∈ tables_1, d.before a0_ Z = true) (hby : c.code = code) (hml : c.maxLocals = 26) (hown : s.vm.findClass "com/example/rollcalldb/rollcalldb/resp/DecimalParsePinLaw" = some m.cls) (hret : meth.sig.returnType = some .boolean) {T0 : State} {locs : List Loc} {h0 : Heap} (j0 : Int64) (i2 : Int32) (i3 : Int32) (i4 : Int32) (j5 : Int64) (a7 : Addr) (i8 : Int32) (i9 : Int32) (j10 : Int64) (i12 : Int32) (i13 : Int32) (i14 : Int32) (n_a7 : Int32) (A_a7 : Nat → Int32)
    (X0 : Stand p l e room_1 s m args below meth c T0 locs 1 24) (e0 : T0.heap = h0) (N0 : Fr n0 locs) (Z0 : n0 ≤ h0.size) (g_a7 : n0 ≤ a7) (V_a7 : own_Ar Z h0 a7 .byte n_a7 A_a7) (hI : n_a7 = 24 ∧ 4 ≤ i8.toInt ∧ i8.toInt ≤ 23 ∧ 0 ≤ i12.toInt ∧ i12.toInt ≤ 3) :
    ∃ T' locs' cells' slots', Stand p l e room_1 s m args below meth c T' locs' cells' slots' ∧ Fr n0 locs' ∧ cells' ≤ room_1.cells ∧ slots' ≤ room_1.slots ∧ ∀ fs, (∀ (f : JFrame) (acts : List Action), f.method = m → f.locked = none → f.entered = [] → (doReturn e (T'.setTop f) acts (some (.int (own_f0_134 j0 i2 i3 i4 j5 i8 i9 j10 i12 i13 i14 n_a7 A_a7)))).1 = T'.setFrames fs) → Steps p.tables e below (T0.setTop (mkF m 134 #[.val (.long j0), .second, .val (.int i2), .val (.int i3), .val (.int i4), .val (.long j5), .second, .val (.ref a7), .val (.int i8), .val (.int i9), .val (.long j10), .second, .val (.int i12), .val (.int i13), .val (.int i14), .unset, .unset, .unset, .unset, .unset, .unset, .unset, .unset, .unset, .unset, .unset] [])) (T'.setFrames fs) := by
  have pre1 : ∀ target, Steps p.tables e below (T0.setTop (mkF m 147 #[.val (.long j0), .second, .val (.int i2), .val (.int i3), .val (.int i4), .val (.long j5), .second, .val (.ref a7), .val (.int i8), .val (.int i9), .val (.long j10), .second, .val (.int i12), .val (.int i13), .val (.int i14), .val (.int (i8 - i12)), .unset, .unset, .unset, .unset, .unset, .unset, .unset, .unset, .unset, .unset] [(.int (lcmpW j10 (100000000000000000 : Int64)))])) target → Steps p.tables e below (T0.setTop (mkF m 134 #[.val (.long j0), .second, .val (.int i2), .val (.int i3), .val (.int i4), .val (.long j5), .second, .val (.ref a7), .val (.int i8), .val (.int i9), .val (.long j10), .second, .val (.int i12), .val (.int i13), .val (.int i14), .unset, .unset, .unset, .unset, .unset, .unset, .unset, .unset, .unset, .unset, .unset] [])) target := by
    intro target kt
    show Steps p.tables e below (T0.setTop (mkF m 134 #[.val (.long j0), .second, .val (.int i2), .val (.int i3), .val (.int i4), .val (.long j5), .second, .val (.ref a7), .val (.int i8), .val (.int i9), .val (.long j10), .second, .val (.int i12), .val (.int i13), .val (.int i14), .unset, .unset, .unset, .unset, .unset, .unset, .unset, .unset, .unset, .unset, .unset] [])) _
    refine XS.iload X0.here hx rfl (hb hby at_134) rfl ?_
    show Steps p.tables e below (T0.setTop (mkF m 136 #[.val (.long j0), .second, .val (.int i2), .val (.int i3), .val (.int i4), .val (.long j5), .second, .val (.ref a7), .val (.int i8), .val (.int i9), .val (.long j10), .second, .val (.int i12), .val (.int i13), .val (.int i14), .unset, .unset, .unset, .unset, .unset, .unset, .unset, .unset, .unset, .unset, .unset] [(.int i8)])) _
    refine XS.iload X0.here hx rfl (hb hby at_136) rfl ?_
    show Steps p.tables e below (T0.setTop (mkF m 138 #[.val (.long j0), .second, .val (.int i2), .val (.int i3), .val (.int i4), .val (.long j5), .second, .val (.ref a7), .val (.int i8), .val (.int i9), .val (.long j10), .second, .val (.int i12), .val (.int i13), .val (.int i14), .unset, .unset, .unset, .unset, .unset, .unset, .unset, .unset, .unset, .unset, .unset] [(.int i12), (.int i8)])) _
    refine XS.isub X0.here hx rfl (hb hby at_138) rfl ?_
    show Steps p.tables e below (T0.setTop (mkF m 139 #[.val (.long j0), .second, .val (.int i2), .val (.int i3), .val (.int i4), .val (.long j5), .second, .val (.ref a7), .val (.int i8), .val (.int i9), .val (.long j10), .second, .val (.int i12), .val (.int i13), .val (.int i14), .unset, .unset, .unset, .unset, .unset, .unset, .unset, .unset, .unset, .unset, .unset] [(.int (i8 - i12))])) _
    refine XS.istore X0.here hx rfl (hb hby at_139) rfl (l' := #[.val (.long j0), .second, .val (.int i2), .val (.int i3), .val (.int i4), .val (.long j5), .second, .val (.ref a7), .val (.int i8), .val (.int i9), .val (.long j10), .second, .val (.int i12), .val (.int i13), .val (.int i14), .val (.int (i8 - i12)), .unset, .unset, .unset, .unset, .unset, .unset, .unset, .unset, .unset, .unset]) rfl ?_
    show Steps p.tables e below (T0.setTop (mkF m 141 #[.val (.long j0), .second, .val (.int i2), .val (.int i3), .val (.int i4), .val (.long j5), .second, .val (.ref a7), .val (.int i8), .val (.int i9), .val (.long j10), .second, .val (.int i12), .val (.int i13), .val (.int i14), .val (.int (i8 - i12)), .unset, .unset, .unset, .unset, .unset, .unset, .unset, .unset, .unset, .unset] [])) _
    refine XS.lload X0.here hx rfl (hb hby at_141) rfl ?_
    show Steps p.tables e below (T0.setTop (mkF m 143 #[.val (.long j0), .second, .val (.int i2), .val (.int i3), .val (.int i4), .val (.long j5), .second, .val (.ref a7), .val (.int i8), .val (.int i9), .val (.long j10), .second, .val (.int i12), .val (.int i13), .val (.int i14), .val (.int (i8 - i12)), .unset, .unset, .unset, .unset, .unset, .unset, .unset, .unset, .unset, .unset] [(.long j10)])) _
    refine X0.ldc2Long hx hown (mvT hZ (hw _ (List.mem_of_getElem? (i := 13) rfl))) (g := (mkF m 143 #[.val (.long j0), .second, .val (.int i2), .val (.int i3), .val (.int i4), .val (.long j5), .second, .val (.ref a7), .val (.int i8), .val (.int i9), .val (.long j10), .second, .val (.int i12), .val (.int i13), .val (.int i14), .val (.int (i8 - i12)), .unset, .unset, .unset, .unset, .unset, .unset, .unset, .unset, .unset, .unset] [(.long j10)])) rfl (hb hby at_143) _ ?_
    show Steps p.tables e below (T0.setTop (mkF m 146 #[.val (.long j0), .second, .val (.int i2), .val (.int i3), .val (.int i4), .val (.long j5), .second, .val (.ref a7), .val (.int i8), .val (.int i9), .val (.long j10), .second, .val (.int i12), .val (.int i13), .val (.int i14), .val (.int (i8 - i12)), .unset, .unset, .unset, .unset, .unset, .unset, .unset, .unset, .unset, .unset] [(.long (100000000000000000 : Int64)), (.long j10)])) _
    refine XS.lcmp X0.here hx rfl (hb hby at_146) rfl ?_
    exact kt
  by_cases hc147 : j10 < (100000000000000000 : Int64)
  · have pre2 : ∀ target, Steps p.tables e below (T0.setTop (mkF m 155 #[.val (.long j0), .second, .val (.int i2), .val (.int i3), .val (.int i4), .val (.long j5), .second, .val (.ref a7), .val (.int i8), .val (.int i9), .val (.long j10), .second, .val (.int i12), .val (.int i13), .val (.int i14), .val (.int (i8 - i12)), .unset, .unset, .unset, .unset, .unset, .unset, .unset, .unset, .unset, .unset] [(.int (0 : Int32))])) target → Steps p.tables e below (T0.setTop (mkF m 134 #[.val (.long j0), .second, .val (.int i2), .val (.int i3), .val (.int i4), .val (.long j5), .second, .val (.ref a7), .val (.int i8), .val (.int i9), .val (.long j10), .second, .val (.int i12), .val (.int i13), .val (.int i14), .unset, .unset, .unset, .unset, .unset, .unset, .unset, .unset, .unset, .unset, .unset] [])) target := by
      intro target kt
      refine pre1 target ?_
      show Steps p.tables e below (T0.setTop (mkF m 147 #[.val (.long j0), .second, .val (.int i2), .val (.int i3), .val (.int i4), .val (.long j5), .second, .val (.ref a7), .val (.int i8), .val (.int i9), .val (.long j10), .second, .val (.int i12), .val (.int i13), .val (.int i14), .val (.int (i8 - i12)), .unset, .unset, .unset, .unset, .unset, .unset, .unset, .unset, .unset, .unset] [(.int (lcmpW j10 (100000000000000000 : Int64)))])) _
      refine XS.ifYes X0.here hx rfl (pc0 := 147) (pc' := 154) rfl (hb hby at_147) rfl ((if0 _ _).trans (tlt ((lw_lt _ _).mpr hc147)).1) (by decide) (by decide) ?_
      show Steps p.tables e below (T0.setTop (mkF m 154 #[.val (.long j0), .second, .val (.int i2), .val (.int i3), .val (.int i4), .val (.long j5), .second, .val (.ref a7), .val (.int i8), .val (.int i9), .val (.long j10), .second, .val (.int i12), .val (.int i13), .val (.int i14), .val (.int (i8 - i12)), .unset, .unset, .unset, .unset, .unset, .unset, .unset, .unset, .unset, .unset] [])) _
      refine XS.iconst X0.here hx rfl (hb hby at_154) ?_
      exact kt
    have hI3 : n_a7 = 24 ∧ 4 ≤ i8.toInt ∧ i8.toInt ≤ 23 ∧ 0 ≤ i12.toInt ∧ i12.toInt ≤ 3 ∧ (i8 - i12).toInt = i8.toInt - i12.toInt := by exact own_w155 hI
    obtain ⟨T3, L3, k3, n3, X3, N3, hk3', hn3, st3⟩ := own_b0_155 hx hZ hw hby hml hown hret j0 i2 i3 i4 j5 a7 i8 i9 j10 i12 i13 i14 (i8 - i12) (0 : Int32) n_a7 A_a7 X0 e0 N0 Z0 g_a7 V_a7 hI3
    have hv : (own_f0_134 j0 i2 i3 i4 j5 i8 i9 j10 i12 i13 i14 n_a7 A_a7) = (own_f0_155 j0 i2 i3 i4 j5 i8 i9 j10 i12 i13 i14 (i8 - i12) (0 : Int32) n_a7 A_a7) := by unfold own_f0_134; rw [if_pos hc147]
    exact ⟨T3, L3, k3, n3, X3, N3, hk3', hn3, fun fs hr => pre2 _ (st3 fs (by rw [hv] at hr; exact hr))⟩
  · have pre4 : ∀ target, Steps p.tables e below (T0.setTop (mkF m 155 #[.val (.long j0), .second, .val (.int i2), .val (.int i3), .val (.int i4), .val (.long j5), .second, .val (.ref a7), .val (.int i8), .val (.int i9), .val (.long j10), .second, .val (.int i12), .val (.int i13), .val (.int i14), .val (.int (i8 - i12)), .unset, .unset, .unset, .unset, .unset, .unset, .unset, .unset, .unset, .unset] [(.int (1 : Int32))])) target → Steps p.tables e below (T0.setTop (mkF m 134 #[.val (.long j0), .second, .val (.int i2), .val (.int i3), .val (.int i4), .val (.long j5), .second, .val (.ref a7), .val (.int i8), .val (.int i9), .val (.long j10), .second, .val (.int i12), .val (.int i13), .val (.int i14), .unset, .unset, .unset, .unset, .unset, .unset, .unset, .unset, .unset, .unset, .unset] [])) target := by
      intro target kt
      refine pre1 target ?_
      show Steps p.tables e below (T0.setTop (mkF m 147 #[.val (.long j0), .second, .val (.int i2), .val (.int i3), .val (.int i4), .val (.long j5), .second, .val (.ref a7), .val (.int i8), .val (.int i9), .val (.long j10), .second, .val (.int i12), .val (.int i13), .val (.int i14), .val (.int (i8 - i12)), .unset, .unset, .unset, .unset, .unset, .unset, .unset, .unset, .unset, .unset] [(.int (lcmpW j10 (100000000000000000 : Int64)))])) _
      refine XS.ifNo X0.here hx rfl (hb hby at_147) rfl ((if0 _ _).trans (flt (mt (lw_lt _ _).mp hc147)).1) ?_
      show Steps p.tables e below (T0.setTop (mkF m 150 #[.val (.long j0), .second, .val (.int i2), .val (.int i3), .val (.int i4), .val (.long j5), .second, .val (.ref a7), .val (.int i8), .val (.int i9), .val (.long j10), .second, .val (.int i12), .val (.int i13), .val (.int i14), .val (.int (i8 - i12)), .unset, .unset, .unset, .unset, .unset, .unset, .unset, .unset, .unset, .unset] [])) _
      refine XS.iconst X0.here hx rfl (hb hby at_150) ?_
      show Steps p.tables e below (T0.setTop (mkF m 151 #[.val (.long j0), .second, .val (.int i2), .val (.int i3), .val (.int i4), .val (.long j5), .second, .val (.ref a7), .val (.int i8), .val (.int i9), .val (.long j10), .second, .val (.int i12), .val (.int i13), .val (.int i14), .val (.int (i8 - i12)), .unset, .unset, .unset, .unset, .unset, .unset, .unset, .unset, .unset, .unset] [(.int (1 : Int32))])) _
      refine XS.goto X0.here hx rfl (pc0 := 151) (pc' := 155) rfl (hb hby at_151) (by decide) (by decide) ?_
      exact kt
    have hI5 : n_a7 = 24 ∧ 4 ≤ i8.toInt ∧ i8.toInt ≤ 23 ∧ 0 ≤ i12.toInt ∧ i12.toInt ≤ 3 ∧ (i8 - i12).toInt = i8.toInt - i12.toInt := by exact own_w155 hI
    obtain ⟨T5, L5, k5, n5, X5, N5, hk5', hn5, st5⟩ := own_b0_155 hx hZ hw hby hml hown hret j0 i2 i3 i4 j5 a7 i8 i9 j10 i12 i13 i14 (i8 - i12) (1 : Int32) n_a7 A_a7 X0 e0 N0 Z0 g_a7 V_a7 hI5
    have hv : (own_f0_134 j0 i2 i3 i4 j5 i8 i9 j10 i12 i13 i14 n_a7 A_a7) = (own_f0_155 j0 i2 i3 i4 j5 i8 i9 j10 i12 i13 i14 (i8 - i12) (1 : Int32) n_a7 A_a7) := by unfold own_f0_134; rw [if_neg hc147]
    exact ⟨T5, L5, k5, n5, X5, N5, hk5', hn5, fun fs hr => pre4 _ (st5 fs (by rw [hv] at hr; exact hr))⟩
set_option maxRecDepth 65536 in
set_option maxHeartbeats 40000000 in
theorem own_b0_107 {p : Program} {l : Launch} {e : Env} {s : State} {m : MethodId} {args : Array Value} {below : List Frame} {meth : Method} {c : Code} {Z : State} {a0_ : Array Value} {n0 : Nat} (hx : p.tables.exec = Jvm.exec) (hZ : Z.Warmed39 s.vm) (hw : ∀ d ∈ tables_1, d.before a0_ Z = true) (hby : c.code = code) (hml : c.maxLocals = 26) (hown : s.vm.findClass "com/example/rollcalldb/rollcalldb/resp/DecimalParsePinLaw" = some m.cls) (hret : meth.sig.returnType = some .boolean) {T0 : State} {locs : List Loc} {h0 : Heap} (j0 : Int64) (i2 : Int32) (i3 : Int32) (i4 : Int32) (j5 : Int64) (a7 : Addr) (i8 : Int32) (i9 : Int32) (j10 : Int64) (i12 : Int32) (i13 : Int32) (i14 : Int32) (n_a7 : Int32) (A_a7 : Nat → Int32)
    (X0 : Stand p l e room_1 s m args below meth c T0 locs 1 24) (e0 : T0.heap = h0) (N0 : Fr n0 locs) (Z0 : n0 ≤ h0.size) (g_a7 : n0 ≤ a7) (V_a7 : own_Ar Z h0 a7 .byte n_a7 A_a7) (hI : n_a7 = 24 ∧ 4 ≤ i8.toInt ∧ i8.toInt ≤ 23 ∧ 0 ≤ i12.toInt ∧ i12.toInt ≤ 3) :
    ∃ T' locs' cells' slots', Stand p l e room_1 s m args below meth c T' locs' cells' slots' ∧ Fr n0 locs' ∧ cells' ≤ room_1.cells ∧ slots' ≤ room_1.slots ∧ ∀ fs, (∀ (f : JFrame) (acts : List Action), f.method = m → f.locked = none → f.entered = [] → (doReturn e (T'.setTop f) acts (some (.int (own_f0_107 j0 i2 i3 i4 j5 i8 i9 j10 i12 i13 i14 n_a7 A_a7)))).1 = T'.setFrames fs) → Steps p.tables e below (T0.setTop (mkF m 107 #[.val (.long j0), .second, .val (.int i2), .val (.int i3), .val (.int i4), .val (.long j5), .second, .val (.ref a7), .val (.int i8), .val (.int i9), .val (.long j10), .second, .val (.int i12), .val (.int i13), .val (.int i14), .unset, .unset, .unset, .unset, .unset, .unset, .unset, .unset, .unset, .unset, .unset] [])) (T'.setFrames fs) := by
  have pre1 : ∀ target, Steps p.tables e below (T0.setTop (mkF m 109 #[.val (.long j0), .second, .val (.int i2), .val (.int i3), .val (.int i4), .val (.long j5), .second, .val (.ref a7), .val (.int i8), .val (.int i9), .val (.long j10), .second, .val (.int i12), .val (.int i13), .val (.int i14), .unset, .unset, .unset, .unset, .unset, .unset, .unset, .unset, .unset, .unset, .unset] [(.int i9)])) target → Steps p.tables e below (T0.setTop (mkF m 107 #[.val (.long j0), .second, .val (.int i2), .val (.int i3), .val (.int i4), .val (.long j5), .second, .val (.ref a7), .val (.int i8), .val (.int i9), .val (.long j10), .second, .val (.int i12), .val (.int i13), .val (.int i14), .unset, .unset, .unset, .unset, .unset, .unset, .unset, .unset, .unset, .unset, .unset] [])) target := by
    intro target kt
    show Steps p.tables e below (T0.setTop (mkF m 107 #[.val (.long j0), .second, .val (.int i2), .val (.int i3), .val (.int i4), .val (.long j5), .second, .val (.ref a7), .val (.int i8), .val (.int i9), .val (.long j10), .second, .val (.int i12), .val (.int i13), .val (.int i14), .unset, .unset, .unset, .unset, .unset, .unset, .unset, .unset, .unset, .unset, .unset] [])) _
    refine XS.iload X0.here hx rfl (hb hby at_107) rfl ?_
    exact kt
  by_cases hc109 : i9 = (0 : Int32)
  · have pre2 : ∀ target, Steps p.tables e below (T0.setTop (mkF m 134 #[.val (.long j0), .second, .val (.int i2), .val (.int i3), .val (.int i4), .val (.long j5), .second, .val (.ref a7), .val (.int i8), .val (.int i9), .val (.long j10), .second, .val (.int i12), .val (.int i13), .val (.int i14), .unset, .unset, .unset, .unset, .unset, .unset, .unset, .unset, .unset, .unset, .unset] [])) target → Steps p.tables e below (T0.setTop (mkF m 107 #[.val (.long j0), .second, .val (.int i2), .val (.int i3), .val (.int i4), .val (.long j5), .second, .val (.ref a7), .val (.int i8), .val (.int i9), .val (.long j10), .second, .val (.int i12), .val (.int i13), .val (.int i14), .unset, .unset, .unset, .unset, .unset, .unset, .unset, .unset, .unset, .unset, .unset] [])) target := by
      intro target kt
      refine pre1 target ?_
      show Steps p.tables e below (T0.setTop (mkF m 109 #[.val (.long j0), .second, .val (.int i2), .val (.int i3), .val (.int i4), .val (.long j5), .second, .val (.ref a7), .val (.int i8), .val (.int i9), .val (.long j10), .second, .val (.int i12), .val (.int i13), .val (.int i14), .unset, .unset, .unset, .unset, .unset, .unset, .unset, .unset, .unset, .unset, .unset] [(.int i9)])) _
      refine XS.ifYes X0.here hx rfl (pc0 := 109) (pc' := 134) rfl (hb hby at_109) rfl ((if0 _ _).trans (teq hc109).1) (by decide) (by decide) ?_
      exact kt
    have hI3 : n_a7 = 24 ∧ 4 ≤ i8.toInt ∧ i8.toInt ≤ 23 ∧ 0 ≤ i12.toInt ∧ i12.toInt ≤ 3 := by exact hI
    obtain ⟨T3, L3, k3, n3, X3, N3, hk3', hn3, st3⟩ := own_b0_134 hx hZ hw hby hml hown hret j0 i2 i3 i4 j5 a7 i8 i9 j10 i12 i13 i14 n_a7 A_a7 X0 e0 N0 Z0 g_a7 V_a7 hI3
    have hv : (own_f0_107 j0 i2 i3 i4 j5 i8 i9 j10 i12 i13 i14 n_a7 A_a7) = (own_f0_134 j0 i2 i3 i4 j5 i8 i9 j10 i12 i13 i14 n_a7 A_a7) := by unfold own_f0_107; rw [if_pos hc109]
    exact ⟨T3, L3, k3, n3, X3, N3, hk3', hn3, fun fs hr => pre2 _ (st3 fs (by rw [hv] at hr; exact hr))⟩
  · have pre4 : ∀ target, Steps p.tables e below (T0.setTop (mkF m 114 #[.val (.long j0), .second, .val (.int i2), .val (.int i3), .val (.int i4), .val (.long j5), .second, .val (.ref a7), .val (.int i8), .val (.int i9), .val (.long j10), .second, .val (.int i12), .val (.int i13), .val (.int i14), .unset, .unset, .unset, .unset, .unset, .unset, .unset, .unset, .unset, .unset, .unset] [(.int i12)])) target → Steps p.tables e below (T0.setTop (mkF m 107 #[.val (.long j0), .second, .val (.int i2), .val (.int i3), .val (.int i4), .val (.long j5), .second, .val (.ref a7), .val (.int i8), .val (.int i9), .val (.long j10), .second, .val (.int i12), .val (.int i13), .val (.int i14), .unset, .unset, .unset, .unset, .unset, .unset, .unset, .unset, .unset, .unset, .unset] [])) target := by
      intro target kt
      refine pre1 target ?_
      show Steps p.tables e below (T0.setTop (mkF m 109 #[.val (.long j0), .second, .val (.int i2), .val (.int i3), .val (.int i4), .val (.long j5), .second, .val (.ref a7), .val (.int i8), .val (.int i9), .val (.long j10), .second, .val (.int i12), .val (.int i13), .val (.int i14), .unset, .unset, .unset, .unset, .unset, .unset, .unset, .unset, .unset, .unset, .unset] [(.int i9)])) _
      refine XS.ifNo X0.here hx rfl (hb hby at_109) rfl ((if0 _ _).trans (feq hc109).1) ?_
      show Steps p.tables e below (T0.setTop (mkF m 112 #[.val (.long j0), .second, .val (.int i2), .val (.int i3), .val (.int i4), .val (.long j5), .second, .val (.ref a7), .val (.int i8), .val (.int i9), .val (.long j10), .second, .val (.int i12), .val (.int i13), .val (.int i14), .unset, .unset, .unset, .unset, .unset, .unset, .unset, .unset, .unset, .unset, .unset] [])) _
      refine XS.iload X0.here hx rfl (hb hby at_112) rfl ?_
      exact kt
    by_cases hc114 : (0 : Int32) < i12
    · have hix123 : ¬ i8 < 0 ∧ i8 < n_a7 := by exact own_s0 hI
      obtain ⟨T5, h5, X5, e5, W5, V5, st5⟩ := own_stB X0 hx hZ e0 V_a7 hix123 (g := (mkF m 123 #[.val (.long j0), .second, .val (.int i2), .val (.int i3), .val (.int i4), .val (.long j5), .second, .val (.ref a7), .val (.int i8), .val (.int i9), .val (.long j10), .second, .val (.int i12), .val (.int i13), .val (.int i14), .unset, .unset, .unset, .unset, .unset, .unset, .unset, .unset, .unset, .unset, .unset] [(.int (48 : Int32)), (.int i8), (.ref a7)])) rfl rfl (hb hby at_123)
      have N5 := Fr.snoc X5 N0 g_a7
      have Z5 : n0 ≤ h5.size := Nat.le_trans Z0 (Keep.of_wr W5).1
      have V_a7_k5 := V5
      have hix133 : ¬ (i8 - i12) < 0 ∧ (i8 - i12) < n_a7 := by exact own_sz hI
      obtain ⟨T6, h6, X6, e6, W6, V6, st6⟩ := own_stB X5 hx hZ e5 V_a7_k5 hix133 (g := (mkF m 133 #[.val (.long j0), .second, .val (.int i2), .val (.int i3), .val (.int i4), .val (.long j5), .second, .val (.ref a7), .val (.int i8), .val (.int i9), .val (.long j10), .second, .val (.int i12), .val (.int i13), .val (.int i14), .unset, .unset, .unset, .unset, .unset, .unset, .unset, .unset, .unset, .unset, .unset] [(.int (45 : Int32)), (.int (i8 - i12)), (.ref a7)])) rfl rfl (hb hby at_133)
      have N6 := Fr.snoc X6 N5 g_a7
      have Z6 : n0 ≤ h6.size := Nat.le_trans Z5 (Keep.of_wr W6).1
      have V_a7_k6 := V6
      have pre7 : ∀ target, Steps p.tables e below (T6.setTop (mkF m 134 #[.val (.long j0), .second, .val (.int i2), .val (.int i3), .val (.int i4), .val (.long j5), .second, .val (.ref a7), .val (.int i8), .val (.int i9), .val (.long j10), .second, .val (.int i12), .val (.int i13), .val (.int i14), .unset, .unset, .unset, .unset, .unset, .unset, .unset, .unset, .unset, .unset, .unset] [])) target → Steps p.tables e below (T0.setTop (mkF m 107 #[.val (.long j0), .second, .val (.int i2), .val (.int i3), .val (.int i4), .val (.long j5), .second, .val (.ref a7), .val (.int i8), .val (.int i9), .val (.long j10), .second, .val (.int i12), .val (.int i13), .val (.int i14), .unset, .unset, .unset, .unset, .unset, .unset, .unset, .unset, .unset, .unset, .unset] [])) target := by
        intro target kt
        refine pre4 target ?_
        show Steps p.tables e below (T0.setTop (mkF m 114 #[.val (.long j0), .second, .val (.int i2), .val (.int i3), .val (.int i4), .val (.long j5), .second, .val (.ref a7), .val (.int i8), .val (.int i9), .val (.long j10), .second, .val (.int i12), .val (.int i13), .val (.int i14), .unset, .unset, .unset, .unset, .unset, .unset, .unset, .unset, .unset, .unset, .unset] [(.int i12)])) _
        refine XS.ifNo X0.here hx rfl (hb hby at_114) rfl ((if0 _ _).trans (tlt hc114).2.2.2) ?_
        show Steps p.tables e below (T0.setTop (mkF m 117 #[.val (.long j0), .second, .val (.int i2), .val (.int i3), .val (.int i4), .val (.long j5), .second, .val (.ref a7), .val (.int i8), .val (.int i9), .val (.long j10), .second, .val (.int i12), .val (.int i13), .val (.int i14), .unset, .unset, .unset, .unset, .unset, .unset, .unset, .unset, .unset, .unset, .unset] [])) _
        refine XS.aload X0.here hx rfl (hb hby at_117) rfl rfl ?_
        show Steps p.tables e below (T0.setTop (mkF m 119 #[.val (.long j0), .second, .val (.int i2), .val (.int i3), .val (.int i4), .val (.long j5), .second, .val (.ref a7), .val (.int i8), .val (.int i9), .val (.long j10), .second, .val (.int i12), .val (.int i13), .val (.int i14), .unset, .unset, .unset, .unset, .unset, .unset, .unset, .unset, .unset, .unset, .unset] [(.ref a7)])) _
        refine XS.iload X0.here hx rfl (hb hby at_119) rfl ?_
        show Steps p.tables e below (T0.setTop (mkF m 121 #[.val (.long j0), .second, .val (.int i2), .val (.int i3), .val (.int i4), .val (.long j5), .second, .val (.ref a7), .val (.int i8), .val (.int i9), .val (.long j10), .second, .val (.int i12), .val (.int i13), .val (.int i14), .unset, .unset, .unset, .unset, .unset, .unset, .unset, .unset, .unset, .unset, .unset] [(.int i8), (.ref a7)])) _
        refine XS.bipush X0.here hx rfl (hb hby at_121) ?_
        show Steps p.tables e below (T0.setTop (mkF m 123 #[.val (.long j0), .second, .val (.int i2), .val (.int i3), .val (.int i4), .val (.long j5), .second, .val (.ref a7), .val (.int i8), .val (.int i9), .val (.long j10), .second, .val (.int i12), .val (.int i13), .val (.int i14), .unset, .unset, .unset, .unset, .unset, .unset, .unset, .unset, .unset, .unset, .unset] [(.int (48 : Int32)), (.int i8), (.ref a7)])) _
        refine st5 _ ?_
        show Steps p.tables e below (T5.setTop (mkF m 124 #[.val (.long j0), .second, .val (.int i2), .val (.int i3), .val (.int i4), .val (.long j5), .second, .val (.ref a7), .val (.int i8), .val (.int i9), .val (.long j10), .second, .val (.int i12), .val (.int i13), .val (.int i14), .unset, .unset, .unset, .unset, .unset, .unset, .unset, .unset, .unset, .unset, .unset] [])) _
        refine XS.aload X5.here hx rfl (hb hby at_124) rfl rfl ?_
        show Steps p.tables e below (T5.setTop (mkF m 126 #[.val (.long j0), .second, .val (.int i2), .val (.int i3), .val (.int i4), .val (.long j5), .second, .val (.ref a7), .val (.int i8), .val (.int i9), .val (.long j10), .second, .val (.int i12), .val (.int i13), .val (.int i14), .unset, .unset, .unset, .unset, .unset, .unset, .unset, .unset, .unset, .unset, .unset] [(.ref a7)])) _
        refine XS.iload X5.here hx rfl (hb hby at_126) rfl ?_
        show Steps p.tables e below (T5.setTop (mkF m 128 #[.val (.long j0), .second, .val (.int i2), .val (.int i3), .val (.int i4), .val (.long j5), .second, .val (.ref a7), .val (.int i8), .val (.int i9), .val (.long j10), .second, .val (.int i12), .val (.int i13), .val (.int i14), .unset, .unset, .unset, .unset, .unset, .unset, .unset, .unset, .unset, .unset, .unset] [(.int i8), (.ref a7)])) _
        refine XS.iload X5.here hx rfl (hb hby at_128) rfl ?_
        show Steps p.tables e below (T5.setTop (mkF m 130 #[.val (.long j0), .second, .val (.int i2), .val (.int i3), .val (.int i4), .val (.long j5), .second, .val (.ref a7), .val (.int i8), .val (.int i9), .val (.long j10), .second, .val (.int i12), .val (.int i13), .val (.int i14), .unset, .unset, .unset, .unset, .unset, .unset, .unset, .unset, .unset, .unset, .unset] [(.int i12), (.int i8), (.ref a7)])) _
        refine XS.isub X5.here hx rfl (hb hby at_130) rfl ?_
        show Steps p.tables e below (T5.setTop (mkF m 131 #[.val (.long j0), .second, .val (.int i2), .val (.int i3), .val (.int i4), .val (.long j5), .second, .val (.ref a7), .val (.int i8), .val (.int i9), .val (.long j10), .second, .val (.int i12), .val (.int i13), .val (.int i14), .unset, .unset, .unset, .unset, .unset, .unset, .unset, .unset, .unset, .unset, .unset] [(.int (i8 - i12)), (.ref a7)])) _
        refine XS.bipush X5.here hx rfl (hb hby at_131) ?_
        show Steps p.tables e below (T5.setTop (mkF m 133 #[.val (.long j0), .second, .val (.int i2), .val (.int i3), .val (.int i4), .val (.long j5), .second, .val (.ref a7), .val (.int i8), .val (.int i9), .val (.long j10), .second, .val (.int i12), .val (.int i13), .val (.int i14), .unset, .unset, .unset, .unset, .unset, .unset, .unset, .unset, .unset, .unset, .unset] [(.int (45 : Int32)), (.int (i8 - i12)), (.ref a7)])) _
        refine st6 _ ?_
        exact kt
      have hI8 : n_a7 = 24 ∧ 4 ≤ i8.toInt ∧ i8.toInt ≤ 23 ∧ 0 ≤ i12.toInt ∧ i12.toInt ≤ 3 := by exact hI
      obtain ⟨T8, L8, k8, n8, X8, N8, hk8', hn8, st8⟩ := own_b0_134 hx hZ hw hby hml hown hret j0 i2 i3 i4 j5 a7 i8 i9 j10 i12 i13 i14 n_a7 (own_up (own_up A_a7 i8.toNatClampNeg ((48 : Int32).toInt8.toInt32)) (i8 - i12).toNatClampNeg ((45 : Int32).toInt8.toInt32)) X6 e6 N6 Z6 g_a7 V_a7_k6 hI8
      have hv : (own_f0_107 j0 i2 i3 i4 j5 i8 i9 j10 i12 i13 i14 n_a7 A_a7) = (own_f0_134 j0 i2 i3 i4 j5 i8 i9 j10 i12 i13 i14 n_a7 (own_up (own_up A_a7 i8.toNatClampNeg ((48 : Int32).toInt8.toInt32)) (i8 - i12).toNatClampNeg ((45 : Int32).toInt8.toInt32))) := by unfold own_f0_107; rw [if_neg hc109, if_pos hc114]
      exact ⟨T8, L8, k8, n8, X8, N8, hk8', hn8, fun fs hr => pre7 _ (st8 fs (by rw [hv] at hr; exact hr))⟩
    · have pre9 : ∀ target, Steps p.tables e below (T0.setTop (mkF m 134 #[.val (.long j0), .second, .val (.int i2), .val (.int i3), .val (.int i4), .val (.long j5), .second, .val (.ref a7), .val (.int i8), .val (.int i9), .val (.long j10), .second, .val (.int i12), .val (.int i13), .val (.int i14), .unset, .unset, .unset, .unset, .unset, .unset, .unset, .unset, .unset, .unset, .unset] [])) target → Steps p.tables e below (T0.setTop (mkF m 107 #[.val (.long j0), .second, .val (.int i2), .val (.int i3), .val (.int i4), .val (.long j5), .second, .val (.ref a7), .val (.int i8), .val (.int i9), .val (.long j10), .second, .val (.int i12), .val (.int i13), .val (.int i14), .unset, .unset, .unset, .unset, .unset, .unset, .unset, .unset, .unset, .unset, .unset] [])) target := by
        intro target kt
        refine pre4 target ?_
        show Steps p.tables e below (T0.setTop (mkF m 114 #[.val (.long j0), .second, .val (.int i2), .val (.int i3), .val (.int i4), .val (.long j5), .second, .val (.ref a7), .val (.int i8), .val (.int i9), .val (.long j10), .second, .val (.int i12), .val (.int i13), .val (.int i14), .unset, .unset, .unset, .unset, .unset, .unset, .unset, .unset, .unset, .unset, .unset] [(.int i12)])) _
        refine XS.ifYes X0.here hx rfl (pc0 := 114) (pc' := 134) rfl (hb hby at_114) rfl ((if0 _ _).trans (flt hc114).2.2.2) (by decide) (by decide) ?_
        exact kt
      have hI10 : n_a7 = 24 ∧ 4 ≤ i8.toInt ∧ i8.toInt ≤ 23 ∧ 0 ≤ i12.toInt ∧ i12.toInt ≤ 3 := by exact hI
      obtain ⟨T10, L10, k10, n10, X10, N10, hk10', hn10, st10⟩ := own_b0_134 hx hZ hw hby hml hown hret j0 i2 i3 i4 j5 a7 i8 i9 j10 i12 i13 i14 n_a7 A_a7 X0 e0 N0 Z0 g_a7 V_a7 hI10
      have hv : (own_f0_107 j0 i2 i3 i4 j5 i8 i9 j10 i12 i13 i14 n_a7 A_a7) = (own_f0_134 j0 i2 i3 i4 j5 i8 i9 j10 i12 i13 i14 n_a7 A_a7) := by unfold own_f0_107; rw [if_neg hc109, if_neg hc114]
      exact ⟨T10, L10, k10, n10, X10, N10, hk10', hn10, fun fs hr => pre9 _ (st10 fs (by rw [hv] at hr; exact hr))⟩
set_option maxRecDepth 65536 in
set_option maxHeartbeats 40000000 in
theorem own_b0_92 {p : Program} {l : Launch} {e : Env} {s : State} {m : MethodId} {args : Array Value} {below : List Frame} {meth : Method} {c : Code} {Z : State} {a0_ : Array Value} {n0 : Nat} (hx : p.tables.exec = Jvm.exec) (hZ : Z.Warmed39 s.vm) (hw : ∀ d ∈ tables_1, d.before a0_ Z = true) (hby : c.code = code) (hml : c.maxLocals = 26) (hown : s.vm.findClass "com/example/rollcalldb/rollcalldb/resp/DecimalParsePinLaw" = some m.cls) (hret : meth.sig.returnType = some .boolean) {T0 : State} {locs : List Loc} {h0 : Heap} (j0 : Int64) (i2 : Int32) (i3 : Int32) (i4 : Int32) (j5 : Int64) (a7 : Addr) (i8 : Int32) (i9 : Int32) (j10 : Int64) (i12 : Int32) (i13 : Int32) (i14 : Int32) (n_a7 : Int32) (A_a7 : Nat → Int32)
    (X0 : Stand p l e room_1 s m args below meth c T0 locs 1 24) (e0 : T0.heap = h0) (N0 : Fr n0 locs) (Z0 : n0 ≤ h0.size) (g_a7 : n0 ≤ a7) (V_a7 : own_Ar Z h0 a7 .byte n_a7 A_a7) (hI : n_a7 = 24 ∧ 4 ≤ i8.toInt ∧ i8.toInt ≤ 23 ∧ 0 ≤ i12.toInt ∧ i12.toInt ≤ 3) :
    ∃ T' locs' cells' slots', Stand p l e room_1 s m args below meth c T' locs' cells' slots' ∧ Fr n0 locs' ∧ cells' ≤ room_1.cells ∧ slots' ≤ room_1.slots ∧ ∀ fs, (∀ (f : JFrame) (acts : List Action), f.method = m → f.locked = none → f.entered = [] → (doReturn e (T'.setTop f) acts (some (.int (own_f0_92 j0 i2 i3 i4 j5 i8 i9 j10 i12 i13 i14 n_a7 A_a7)))).1 = T'.setFrames fs) → Steps p.tables e below (T0.setTop (mkF m 92 #[.val (.long j0), .second, .val (.int i2), .val (.int i3), .val (.int i4), .val (.long j5), .second, .val (.ref a7), .val (.int i8), .val (.int i9), .val (.long j10), .second, .val (.int i12), .val (.int i13), .val (.int i14), .unset, .unset, .unset, .unset, .unset, .unset, .unset, .unset, .unset, .unset, .unset] [])) (T'.setFrames fs) := by
  have pre1 : ∀ target, Steps p.tables e below (T0.setTop (mkF m 95 #[.val (.long j0), .second, .val (.int i2), .val (.int i3), .val (.int i4), .val (.long j5), .second, .val (.ref a7), .val (.int i8), .val (.int i9), .val (.long j10), .second, .val (.int i12), .val (.int i13), .val (.int i14), .unset, .unset, .unset, .unset, .unset, .unset, .unset, .unset, .unset, .unset, .unset] [(.int (3 : Int32)), (.int i12)])) target → Steps p.tables e below (T0.setTop (mkF m 92 #[.val (.long j0), .second, .val (.int i2), .val (.int i3), .val (.int i4), .val (.long j5), .second, .val (.ref a7), .val (.int i8), .val (.int i9), .val (.long j10), .second, .val (.int i12), .val (.int i13), .val (.int i14), .unset, .unset, .unset, .unset, .unset, .unset, .unset, .unset, .unset, .unset, .unset] [])) target := by
    intro target kt
    show Steps p.tables e below (T0.setTop (mkF m 92 #[.val (.long j0), .second, .val (.int i2), .val (.int i3), .val (.int i4), .val (.long j5), .second, .val (.ref a7), .val (.int i8), .val (.int i9), .val (.long j10), .second, .val (.int i12), .val (.int i13), .val (.int i14), .unset, .unset, .unset, .unset, .unset, .unset, .unset, .unset, .unset, .unset, .unset] [])) _
    refine XS.iload X0.here hx rfl (hb hby at_92) rfl ?_
    show Steps p.tables e below (T0.setTop (mkF m 94 #[.val (.long j0), .second, .val (.int i2), .val (.int i3), .val (.int i4), .val (.long j5), .second, .val (.ref a7), .val (.int i8), .val (.int i9), .val (.long j10), .second, .val (.int i12), .val (.int i13), .val (.int i14), .unset, .unset, .unset, .unset, .unset, .unset, .unset, .unset, .unset, .unset, .unset] [(.int i12)])) _
    refine XS.iconst X0.here hx rfl (hb hby at_94) ?_
    exact kt
  by_cases hc95 : i12 < (3 : Int32)
  · have pre2 : ∀ target, Steps p.tables e below (T0.setTop (mkF m 107 #[.val (.long j0), .second, .val (.int i2), .val (.int i3), .val (.int i4), .val (.long j5), .second, .val (.ref a7), .val (.int i8), .val (.int i9), .val (.long j10), .second, .val (.int i12), .val (.int i13), .val (.int i14), .unset, .unset, .unset, .unset, .unset, .unset, .unset, .unset, .unset, .unset, .unset] [])) target → Steps p.tables e below (T0.setTop (mkF m 92 #[.val (.long j0), .second, .val (.int i2), .val (.int i3), .val (.int i4), .val (.long j5), .second, .val (.ref a7), .val (.int i8), .val (.int i9), .val (.long j10), .second, .val (.int i12), .val (.int i13), .val (.int i14), .unset, .unset, .unset, .unset, .unset, .unset, .unset, .unset, .unset, .unset, .unset] [])) target := by
      intro target kt
      refine pre1 target ?_
      show Steps p.tables e below (T0.setTop (mkF m 95 #[.val (.long j0), .second, .val (.int i2), .val (.int i3), .val (.int i4), .val (.long j5), .second, .val (.ref a7), .val (.int i8), .val (.int i9), .val (.long j10), .second, .val (.int i12), .val (.int i13), .val (.int i14), .unset, .unset, .unset, .unset, .unset, .unset, .unset, .unset, .unset, .unset, .unset] [(.int (3 : Int32)), (.int i12)])) _
      refine XS.icmpYes X0.here hx rfl (pc0 := 95) (pc' := 107) rfl (hb hby at_95) rfl (tlt hc95).1 (by decide) (by decide) ?_
      exact kt
    have hI3 : n_a7 = 24 ∧ 4 ≤ i8.toInt ∧ i8.toInt ≤ 23 ∧ 0 ≤ i12.toInt ∧ i12.toInt ≤ 3 := by exact hI
    obtain ⟨T3, L3, k3, n3, X3, N3, hk3', hn3, st3⟩ := own_b0_107 hx hZ hw hby hml hown hret j0 i2 i3 i4 j5 a7 i8 i9 j10 i12 i13 i14 n_a7 A_a7 X0 e0 N0 Z0 g_a7 V_a7 hI3
    have hv : (own_f0_92 j0 i2 i3 i4 j5 i8 i9 j10 i12 i13 i14 n_a7 A_a7) = (own_f0_107 j0 i2 i3 i4 j5 i8 i9 j10 i12 i13 i14 n_a7 A_a7) := by unfold own_f0_92; rw [if_pos hc95]
    exact ⟨T3, L3, k3, n3, X3, N3, hk3', hn3, fun fs hr => pre2 _ (st3 fs (by rw [hv] at hr; exact hr))⟩
  · have hix106 : ¬ (i8 - (3 : Int32)) < 0 ∧ (i8 - (3 : Int32)) < n_a7 := by exact own_s3 hI
    obtain ⟨T4, h4, X4, e4, W4, V4, st4⟩ := own_stB X0 hx hZ e0 V_a7 hix106 (g := (mkF m 106 #[.val (.long j0), .second, .val (.int i2), .val (.int i3), .val (.int i4), .val (.long j5), .second, .val (.ref a7), .val (.int i8), .val (.int i9), .val (.long j10), .second, .val (.int i12), .val (.int i13), .val (.int i14), .unset, .unset, .unset, .unset, .unset, .unset, .unset, .unset, .unset, .unset, .unset] [(.int (48 : Int32)), (.int (i8 - (3 : Int32))), (.ref a7)])) rfl rfl (hb hby at_106)
    have N4 := Fr.snoc X4 N0 g_a7
    have Z4 : n0 ≤ h4.size := Nat.le_trans Z0 (Keep.of_wr W4).1
    have V_a7_k4 := V4
    have pre5 : ∀ target, Steps p.tables e below (T4.setTop (mkF m 107 #[.val (.long j0), .second, .val (.int i2), .val (.int i3), .val (.int i4), .val (.long j5), .second, .val (.ref a7), .val (.int i8), .val (.int i9), .val (.long j10), .second, .val (.int i12), .val (.int i13), .val (.int i14), .unset, .unset, .unset, .unset, .unset, .unset, .unset, .unset, .unset, .unset, .unset] [])) target → Steps p.tables e below (T0.setTop (mkF m 92 #[.val (.long j0), .second, .val (.int i2), .val (.int i3), .val (.int i4), .val (.long j5), .second, .val (.ref a7), .val (.int i8), .val (.int i9), .val (.long j10), .second, .val (.int i12), .val (.int i13), .val (.int i14), .unset, .unset, .unset, .unset, .unset, .unset, .unset, .unset, .unset, .unset, .unset] [])) target := by
      intro target kt
      refine pre1 target ?_
      show Steps p.tables e below (T0.setTop (mkF m 95 #[.val (.long j0), .second, .val (.int i2), .val (.int i3), .val (.int i4), .val (.long j5), .second, .val (.ref a7), .val (.int i8), .val (.int i9), .val (.long j10), .second, .val (.int i12), .val (.int i13), .val (.int i14), .unset, .unset, .unset, .unset, .unset, .unset, .unset, .unset, .unset, .unset, .unset] [(.int (3 : Int32)), (.int i12)])) _
      refine XS.icmpNo X0.here hx rfl (hb hby at_95) rfl (flt hc95).1 ?_
      show Steps p.tables e below (T0.setTop (mkF m 98 #[.val (.long j0), .second, .val (.int i2), .val (.int i3), .val (.int i4), .val (.long j5), .second, .val (.ref a7), .val (.int i8), .val (.int i9), .val (.long j10), .second, .val (.int i12), .val (.int i13), .val (.int i14), .unset, .unset, .unset, .unset, .unset, .unset, .unset, .unset, .unset, .unset, .unset] [])) _
      refine XS.aload X0.here hx rfl (hb hby at_98) rfl rfl ?_
      show Steps p.tables e below (T0.setTop (mkF m 100 #[.val (.long j0), .second, .val (.int i2), .val (.int i3), .val (.int i4), .val (.long j5), .second, .val (.ref a7), .val (.int i8), .val (.int i9), .val (.long j10), .second, .val (.int i12), .val (.int i13), .val (.int i14), .unset, .unset, .unset, .unset, .unset, .unset, .unset, .unset, .unset, .unset, .unset] [(.ref a7)])) _
      refine XS.iload X0.here hx rfl (hb hby at_100) rfl ?_
      show Steps p.tables e below (T0.setTop (mkF m 102 #[.val (.long j0), .second, .val (.int i2), .val (.int i3), .val (.int i4), .val (.long j5), .second, .val (.ref a7), .val (.int i8), .val (.int i9), .val (.long j10), .second, .val (.int i12), .val (.int i13), .val (.int i14), .unset, .unset, .unset, .unset, .unset, .unset, .unset, .unset, .unset, .unset, .unset] [(.int i8), (.ref a7)])) _
      refine XS.iconst X0.here hx rfl (hb hby at_102) ?_
      show Steps p.tables e below (T0.setTop (mkF m 103 #[.val (.long j0), .second, .val (.int i2), .val (.int i3), .val (.int i4), .val (.long j5), .second, .val (.ref a7), .val (.int i8), .val (.int i9), .val (.long j10), .second, .val (.int i12), .val (.int i13), .val (.int i14), .unset, .unset, .unset, .unset, .unset, .unset, .unset, .unset, .unset, .unset, .unset] [(.int (3 : Int32)), (.int i8), (.ref a7)])) _
      refine XS.isub X0.here hx rfl (hb hby at_103) rfl ?_
      show Steps p.tables e below (T0.setTop (mkF m 104 #[.val (.long j0), .second, .val (.int i2), .val (.int i3), .val (.int i4), .val (.long j5), .second, .val (.ref a7), .val (.int i8), .val (.int i9), .val (.long j10), .second, .val (.int i12), .val (.int i13), .val (.int i14), .unset, .unset, .unset, .unset, .unset, .unset, .unset, .unset, .unset, .unset, .unset] [(.int (i8 - (3 : Int32))), (.ref a7)])) _
      refine XS.bipush X0.here hx rfl (hb hby at_104) ?_
      show Steps p.tables e below (T0.setTop (mkF m 106 #[.val (.long j0), .second, .val (.int i2), .val (.int i3), .val (.int i4), .val (.long j5), .second, .val (.ref a7), .val (.int i8), .val (.int i9), .val (.long j10), .second, .val (.int i12), .val (.int i13), .val (.int i14), .unset, .unset, .unset, .unset, .unset, .unset, .unset, .unset, .unset, .unset, .unset] [(.int (48 : Int32)), (.int (i8 - (3 : Int32))), (.ref a7)])) _
      refine st4 _ ?_
      exact kt
    have hI6 : n_a7 = 24 ∧ 4 ≤ i8.toInt ∧ i8.toInt ≤ 23 ∧ 0 ≤ i12.toInt ∧ i12.toInt ≤ 3 := by exact hI
    obtain ⟨T6, L6, k6, n6, X6, N6, hk6', hn6, st6⟩ := own_b0_107 hx hZ hw hby hml hown hret j0 i2 i3 i4 j5 a7 i8 i9 j10 i12 i13 i14 n_a7 (own_up A_a7 (i8 - (3 : Int32)).toNatClampNeg ((48 : Int32).toInt8.toInt32)) X4 e4 N4 Z4 g_a7 V_a7_k4 hI6
    have hv : (own_f0_92 j0 i2 i3 i4 j5 i8 i9 j10 i12 i13 i14 n_a7 A_a7) = (own_f0_107 j0 i2 i3 i4 j5 i8 i9 j10 i12 i13 i14 n_a7 (own_up A_a7 (i8 - (3 : Int32)).toNatClampNeg ((48 : Int32).toInt8.toInt32))) := by unfold own_f0_92; rw [if_neg hc95]
    exact ⟨T6, L6, k6, n6, X6, N6, hk6', hn6, fun fs hr => pre5 _ (st6 fs (by rw [hv] at hr; exact hr))⟩
set_option maxRecDepth 65536 in
set_option maxHeartbeats 40000000 in
theorem own_b0_77 {p : Program} {l : Launch} {e : Env} {s : State} {m : MethodId} {args : Array Value} {below : List Frame} {meth : Method} {c : Code} {Z : State} {a0_ : Array Value} {n0 : Nat} (hx : p.tables.exec = Jvm.exec) (hZ : Z.Warmed39 s.vm) (hw : ∀ d ∈ tables_1, d.before a0_ Z = true) (hby : c.code = code) (hml : c.maxLocals = 26) (hown : s.vm.findClass "com/example/rollcalldb/rollcalldb/resp/DecimalParsePinLaw" = some m.cls) (hret : meth.sig.returnType = some .boolean) {T0 : State} {locs : List Loc} {h0 : Heap} (j0 : Int64) (i2 : Int32) (i3 : Int32) (i4 : Int32) (j5 : Int64) (a7 : Addr) (i8 : Int32) (i9 : Int32) (j10 : Int64) (i12 : Int32) (i13 : Int32) (i14 : Int32) (n_a7 : Int32) (A_a7 : Nat → Int32)
    (X0 : Stand p l e room_1 s m args below meth c T0 locs 1 24) (e0 : T0.heap = h0) (N0 : Fr n0 locs) (Z0 : n0 ≤ h0.size) (g_a7 : n0 ≤ a7) (V_a7 : own_Ar Z h0 a7 .byte n_a7 A_a7) (hI : n_a7 = 24 ∧ 4 ≤ i8.toInt ∧ i8.toInt ≤ 23 ∧ 0 ≤ i12.toInt ∧ i12.toInt ≤ 3) :
    ∃ T' locs' cells' slots', Stand p l e room_1 s m args below meth c T' locs' cells' slots' ∧ Fr n0 locs' ∧ cells' ≤ room_1.cells ∧ slots' ≤ room_1.slots ∧ ∀ fs, (∀ (f : JFrame) (acts : List Action), f.method = m → f.locked = none → f.entered = [] → (doReturn e (T'.setTop f) acts (some (.int (own_f0_77 j0 i2 i3 i4 j5 i8 i9 j10 i12 i13 i14 n_a7 A_a7)))).1 = T'.setFrames fs) → Steps p.tables e below (T0.setTop (mkF m 77 #[.val (.long j0), .second, .val (.int i2), .val (.int i3), .val (.int i4), .val (.long j5), .second, .val (.ref a7), .val (.int i8), .val (.int i9), .val (.long j10), .second, .val (.int i12), .val (.int i13), .val (.int i14), .unset, .unset, .unset, .unset, .unset, .unset, .unset, .unset, .unset, .unset, .unset] [])) (T'.setFrames fs) := by
  have pre1 : ∀ target, Steps p.tables e below (T0.setTop (mkF m 80 #[.val (.long j0), .second, .val (.int i2), .val (.int i3), .val (.int i4), .val (.long j5), .second, .val (.ref a7), .val (.int i8), .val (.int i9), .val (.long j10), .second, .val (.int i12), .val (.int i13), .val (.int i14), .unset, .unset, .unset, .unset, .unset, .unset, .unset, .unset, .unset, .unset, .unset] [(.int (2 : Int32)), (.int i12)])) target → Steps p.tables e below (T0.setTop (mkF m 77 #[.val (.long j0), .second, .val (.int i2), .val (.int i3), .val (.int i4), .val (.long j5), .second, .val (.ref a7), .val (.int i8), .val (.int i9), .val (.long j10), .second, .val (.int i12), .val (.int i13), .val (.int i14), .unset, .unset, .unset, .unset, .unset, .unset, .unset, .unset, .unset, .unset, .unset] [])) target := by
    intro target kt
    show Steps p.tables e below (T0.setTop (mkF m 77 #[.val (.long j0), .second, .val (.int i2), .val (.int i3), .val (.int i4), .val (.long j5), .second, .val (.ref a7), .val (.int i8), .val (.int i9), .val (.long j10), .second, .val (.int i12), .val (.int i13), .val (.int i14), .unset, .unset, .unset, .unset, .unset, .unset, .unset, .unset, .unset, .unset, .unset] [])) _
    refine XS.iload X0.here hx rfl (hb hby at_77) rfl ?_
    show Steps p.tables e below (T0.setTop (mkF m 79 #[.val (.long j0), .second, .val (.int i2), .val (.int i3), .val (.int i4), .val (.long j5), .second, .val (.ref a7), .val (.int i8), .val (.int i9), .val (.long j10), .second, .val (.int i12), .val (.int i13), .val (.int i14), .unset, .unset, .unset, .unset, .unset, .unset, .unset, .unset, .unset, .unset, .unset] [(.int i12)])) _
    refine XS.iconst X0.here hx rfl (hb hby at_79) ?_
    exact kt
  by_cases hc80 : i12 < (2 : Int32)
  · have pre2 : ∀ target, Steps p.tables e below (T0.setTop (mkF m 92 #[.val (.long j0), .second, .val (.int i2), .val (.int i3), .val (.int i4), .val (.long j5), .second, .val (.ref a7), .val (.int i8), .val (.int i9), .val (.long j10), .second, .val (.int i12), .val (.int i13), .val (.int i14), .unset, .unset, .unset, .unset, .unset, .unset, .unset, .unset, .unset, .unset, .unset] [])) target → Steps p.tables e below (T0.setTop (mkF m 77 #[.val (.long j0), .second, .val (.int i2), .val (.int i3), .val (.int i4), .val (.long j5), .second, .val (.ref a7), .val (.int i8), .val (.int i9), .val (.long j10), .second, .val (.int i12), .val (.int i13), .val (.int i14), .unset, .unset, .unset, .unset, .unset, .unset, .unset, .unset, .unset, .unset, .unset] [])) target := by
      intro target kt
      refine pre1 target ?_
      show Steps p.tables e below (T0.setTop (mkF m 80 #[.val (.long j0), .second, .val (.int i2), .val (.int i3), .val (.int i4), .val (.long j5), .second, .val (.ref a7), .val (.int i8), .val (.int i9), .val (.long j10), .second, .val (.int i12), .val (.int i13), .val (.int i14), .unset, .unset, .unset, .unset, .unset, .unset, .unset, .unset, .unset, .unset, .unset] [(.int (2 : Int32)), (.int i12)])) _
      refine XS.icmpYes X0.here hx rfl (pc0 := 80) (pc' := 92) rfl (hb hby at_80) rfl (tlt hc80).1 (by decide) (by decide) ?_
      exact kt
    have hI3 : n_a7 = 24 ∧ 4 ≤ i8.toInt ∧ i8.toInt ≤ 23 ∧ 0 ≤ i12.toInt ∧ i12.toInt ≤ 3 := by exact hI
    obtain ⟨T3, L3, k3, n3, X3, N3, hk3', hn3, st3⟩ := own_b0_92 hx hZ hw hby hml hown hret j0 i2 i3 i4 j5 a7 i8 i9 j10 i12 i13 i14 n_a7 A_a7 X0 e0 N0 Z0 g_a7 V_a7 hI3
    have hv : (own_f0_77 j0 i2 i3 i4 j5 i8 i9 j10 i12 i13 i14 n_a7 A_a7) = (own_f0_92 j0 i2 i3 i4 j5 i8 i9 j10 i12 i13 i14 n_a7 A_a7) := by unfold own_f0_77; rw [if_pos hc80]
    exact ⟨T3, L3, k3, n3, X3, N3, hk3', hn3, fun fs hr => pre2 _ (st3 fs (by rw [hv] at hr; exact hr))⟩
  · have hix91 : ¬ (i8 - (2 : Int32)) < 0 ∧ (i8 - (2 : Int32)) < n_a7 := by exact own_s2 hI
    obtain ⟨T4, h4, X4, e4, W4, V4, st4⟩ := own_stB X0 hx hZ e0 V_a7 hix91 (g := (mkF m 91 #[.val (.long j0), .second, .val (.int i2), .val (.int i3), .val (.int i4), .val (.long j5), .second, .val (.ref a7), .val (.int i8), .val (.int i9), .val (.long j10), .second, .val (.int i12), .val (.int i13), .val (.int i14), .unset, .unset, .unset, .unset, .unset, .unset, .unset, .unset, .unset, .unset, .unset] [(.int (48 : Int32)), (.int (i8 - (2 : Int32))), (.ref a7)])) rfl rfl (hb hby at_91)
    have N4 := Fr.snoc X4 N0 g_a7
    have Z4 : n0 ≤ h4.size := Nat.le_trans Z0 (Keep.of_wr W4).1
    have V_a7_k4 := V4
    have pre5 : ∀ target, Steps p.tables e below (T4.setTop (mkF m 92 #[.val (.long j0), .second, .val (.int i2), .val (.int i3), .val (.int i4), .val (.long j5), .second, .val (.ref a7), .val (.int i8), .val (.int i9), .val (.long j10), .second, .val (.int i12), .val (.int i13), .val (.int i14), .unset, .unset, .unset, .unset, .unset, .unset, .unset, .unset, .unset, .unset, .unset] [])) target → Steps p.tables e below (T0.setTop (mkF m 77 #[.val (.long j0), .second, .val (.int i2), .val (.int i3), .val (.int i4), .val (.long j5), .second, .val (.ref a7), .val (.int i8), .val (.int i9), .val (.long j10), .second, .val (.int i12), .val (.int i13), .val (.int i14), .unset, .unset, .unset, .unset, .unset, .unset, .unset, .unset, .unset, .unset, .unset] [])) target := by
      intro target kt
      refine pre1 target ?_
      show Steps p.tables e below (T0.setTop (mkF m 80 #[.val (.long j0), .second, .val (.int i2), .val (.int i3), .val (.int i4), .val (.long j5), .second, .val (.ref a7), .val (.int i8), .val (.int i9), .val (.long j10), .second, .val (.int i12), .val (.int i13), .val (.int i14), .unset, .unset, .unset, .unset, .unset, .unset, .unset, .unset, .unset, .unset, .unset] [(.int (2 : Int32)), (.int i12)])) _
      refine XS.icmpNo X0.here hx rfl (hb hby at_80) rfl (flt hc80).1 ?_
      show Steps p.tables e below (T0.setTop (mkF m 83 #[.val (.long j0), .second, .val (.int i2), .val (.int i3), .val (.int i4), .val (.long j5), .second, .val (.ref a7), .val (.int i8), .val (.int i9), .val (.long j10), .second, .val (.int i12), .val (.int i13), .val (.int i14), .unset, .unset, .unset, .unset, .unset, .unset, .unset, .unset, .unset, .unset, .unset] [])) _
      refine XS.aload X0.here hx rfl (hb hby at_83) rfl rfl ?_
      show Steps p.tables e below (T0.setTop (mkF m 85 #[.val (.long j0), .second, .val (.int i2), .val (.int i3), .val (.int i4), .val (.long j5), .second, .val (.ref a7), .val (.int i8), .val (.int i9), .val (.long j10), .second, .val (.int i12), .val (.int i13), .val (.int i14), .unset, .unset, .unset, .unset, .unset, .unset, .unset, .unset, .unset, .unset, .unset] [(.ref a7)])) _
      refine XS.iload X0.here hx rfl (hb hby at_85) rfl ?_
      show Steps p.tables e below (T0.setTop (mkF m 87 #[.val (.long j0), .second, .val (.int i2), .val (.int i3), .val (.int i4), .val (.long j5), .second, .val (.ref a7), .val (.int i8), .val (.int i9), .val (.long j10), .second, .val (.int i12), .val (.int i13), .val (.int i14), .unset, .unset, .unset, .unset, .unset, .unset, .unset, .unset, .unset, .unset, .unset] [(.int i8), (.ref a7)])) _
      refine XS.iconst X0.here hx rfl (hb hby at_87) ?_
      show Steps p.tables e below (T0.setTop (mkF m 88 #[.val (.long j0), .second, .val (.int i2), .val (.int i3), .val (.int i4), .val (.long j5), .second, .val (.ref a7), .val (.int i8), .val (.int i9), .val (.long j10), .second, .val (.int i12), .val (.int i13), .val (.int i14), .unset, .unset, .unset, .unset, .unset, .unset, .unset, .unset, .unset, .unset, .unset] [(.int (2 : Int32)), (.int i8), (.ref a7)])) _
      refine XS.isub X0.here hx rfl (hb hby at_88) rfl ?_
      show Steps p.tables e below (T0.setTop (mkF m 89 #[.val (.long j0), .second, .val (.int i2), .val (.int i3), .val (.int i4), .val (.long j5), .second, .val (.ref a7), .val (.int i8), .val (.int i9), .val (.long j10), .second, .val (.int i12), .val (.int i13), .val (.int i14), .unset, .unset, .unset, .unset, .unset, .unset, .unset, .unset, .unset, .unset, .unset] [(.int (i8 - (2 : Int32))), (.ref a7)])) _
      refine XS.bipush X0.here hx rfl (hb hby at_89) ?_
      show Steps p.tables e below (T0.setTop (mkF m 91 #[.val (.long j0), .second, .val (.int i2), .val (.int i3), .val (.int i4), .val (.long j5), .second, .val (.ref a7), .val (.int i8), .val (.int i9), .val (.long j10), .second, .val (.int i12), .val (.int i13), .val (.int i14), .unset, .unset, .unset, .unset, .unset, .unset, .unset, .unset, .unset, .unset, .unset] [(.int (48 : Int32)), (.int (i8 - (2 : Int32))), (.ref a7)])) _
      refine st4 _ ?_
      exact kt
    have hI6 : n_a7 = 24 ∧ 4 ≤ i8.toInt ∧ i8.toInt ≤ 23 ∧ 0 ≤ i12.toInt ∧ i12.toInt ≤ 3 := by exact hI
    obtain ⟨T6, L6, k6, n6, X6, N6, hk6', hn6, st6⟩ := own_b0_92 hx hZ hw hby hml hown hret j0 i2 i3 i4 j5 a7 i8 i9 j10 i12 i13 i14 n_a7 (own_up A_a7 (i8 - (2 : Int32)).toNatClampNeg ((48 : Int32).toInt8.toInt32)) X4 e4 N4 Z4 g_a7 V_a7_k4 hI6
    have hv : (own_f0_77 j0 i2 i3 i4 j5 i8 i9 j10 i12 i13 i14 n_a7 A_a7) = (own_f0_92 j0 i2 i3 i4 j5 i8 i9 j10 i12 i13 i14 n_a7 (own_up A_a7 (i8 - (2 : Int32)).toNatClampNeg ((48 : Int32).toInt8.toInt32))) := by unfold own_f0_77; rw [if_neg hc80]
    exact ⟨T6, L6, k6, n6, X6, N6, hk6', hn6, fun fs hr => pre5 _ (st6 fs (by rw [hv] at hr; exact hr))⟩
set_option maxRecDepth 65536 in
set_option maxHeartbeats 40000000 in
theorem own_b0_30 {p : Program} {l : Launch} {e : Env} {s : State} {m : MethodId} {args : Array Value} {below : List Frame} {meth : Method} {c : Code} {Z : State} {a0_ : Array Value} {n0 : Nat} (hx : p.tables.exec = Jvm.exec) (hZ : Z.Warmed39 s.vm) (hw : ∀ d ∈ tables_1, d.before a0_ Z = true) (hby : c.code = code) (hml : c.maxLocals = 26) (hown : s.vm.findClass "com/example/rollcalldb/rollcalldb/resp/DecimalParsePinLaw" = some m.cls) (hret : meth.sig.returnType = some .boolean) {T0 : State} {locs : List Loc} {h0 : Heap} (j0 : Int64) (i2 : Int32) (i3 : Int32) (i4 : Int32) (j5 : Int64) (a7 : Addr) (i8 : Int32) (u0 : Int32) (n_a7 : Int32) (A_a7 : Nat → Int32)
    (X0 : Stand p l e room_1 s m args below meth c T0 locs 1 24) (e0 : T0.heap = h0) (N0 : Fr n0 locs) (Z0 : n0 ≤ h0.size) (g_a7 : n0 ≤ a7) (V_a7 : own_Ar Z h0 a7 .byte n_a7 A_a7) (hI : n_a7 = 24 ∧ 4 ≤ i8.toInt ∧ i8.toInt ≤ 23) :
    ∃ T' locs' cells' slots', Stand p l e room_1 s m args below meth c T' locs' cells' slots' ∧ Fr n0 locs' ∧ cells' ≤ room_1.cells ∧ slots' ≤ room_1.slots ∧ ∀ fs, (∀ (f : JFrame) (acts : List Action), f.method = m → f.locked = none → f.entered = [] → (doReturn e (T'.setTop f) acts (some (.int (own_f0_30 j0 i2 i3 i4 j5 i8 u0 n_a7 A_a7)))).1 = T'.setFrames fs) → Steps p.tables e below (T0.setTop (mkF m 30 #[.val (.long j0), .second, .val (.int i2), .val (.int i3), .val (.int i4), .val (.long j5), .second, .val (.ref a7), .val (.int i8), .unset, .unset, .unset, .unset, .unset, .unset, .unset, .unset, .unset, .unset, .unset, .unset, .unset, .unset, .unset, .unset, .unset] [(.int u0)])) (T'.setFrames fs) := by
  obtain ⟨_, _, ⟨T1, L1, k1, n1⟩, -, X1, ⟨Lc1, hQ1, l1, y1, z1⟩, st1⟩ := Jvm.LawKit.callS X0 hx (y := (⟨"java/lang/Math", "abs", "(J)J"⟩ : MethodName)) hown (mvT hZ (hw _ (List.mem_of_getElem? (i := 9) rfl))) (mvT hZ (hw _ (List.mem_of_getElem? (i := 10) rfl))) (mvT hZ (hw _ (List.mem_of_getElem? (i := 11) rfl))) (mvT hZ (hw _ (List.mem_of_getElem? (i := 12) rfl))) (by decide) (backOf (W := 0) (rm2 l Z a0_ hw [] (j0 / (10 : Int64))  h0 n0 Z0 ) hZ (hw _ (List.mem_of_getElem? (i := 12) rfl)) (hw _ (List.mem_of_getElem? (i := 11) rfl)) (by decide) (by decide)) (g := (mkF m 37 #[.val (.long j0), .second, .val (.int i2), .val (.int i3), .val (.int i4), .val (.long j5), .second, .val (.ref a7), .val (.int i8), .val (.int u0), .unset, .unset, .unset, .unset, .unset, .unset, .unset, .unset, .unset, .unset, .unset, .unset, .unset, .unset, .unset, .unset] [(.long (j0 / (10 : Int64)))])) rfl (by rw [hml]; rfl) (argsL := [(.long (j0 / (10 : Int64)))]) (rest := []) (lenOf pd_0_1 rfl) rfl (by show 2 * 0 + _ ≤ _; exact Nat.le_of_eq rfl) (hb hby at_37) (fun _ _ => ⟨rfl, e0, (by decide : 1 + 0 ≤ room_1.cells), (by decide : 24 + 0 ≤ room_1.slots)⟩)
  dsimp only [Pt.U, Pt.locs, Pt.cells, Pt.slots] at X1 l1 y1 z1 st1 hQ1
  subst l1 y1 z1
  obtain ⟨rfl, rfl, e1⟩ := hQ1
  rw [List.append_nil] at X1
  have pre2 : ∀ target, Steps p.tables e below (T1.setTop (mkF m 65 #[.val (.long j0), .second, .val (.int i2), .val (.int i3), .val (.int i4), .val (.long j5), .second, .val (.ref a7), .val (.int i8), .val (.int u0), .val (.long (own_f2_0 (j0 / (10 : Int64)))), .second, .val (.int (i3 &&& (3 : Int32))), .val (.int (((i3.toUInt32 >>> ((2 : Int32) &&& 31).toUInt32).toInt32) &&& (3 : Int32))), .val (.int (((i3.toUInt32 >>> ((4 : Int32) &&& 31).toUInt32).toInt32) &&& (15 : Int32))), .unset, .unset, .unset, .unset, .unset, .unset, .unset, .unset, .unset, .unset, .unset] [(.int (1 : Int32)), (.int (i3 &&& (3 : Int32)))])) target → Steps p.tables e below (T0.setTop (mkF m 30 #[.val (.long j0), .second, .val (.int i2), .val (.int i3), .val (.int i4), .val (.long j5), .second, .val (.ref a7), .val (.int i8), .unset, .unset, .unset, .unset, .unset, .unset, .unset, .unset, .unset, .unset, .unset, .unset, .unset, .unset, .unset, .unset, .unset] [(.int u0)])) target := by
    intro target kt
    show Steps p.tables e below (T0.setTop (mkF m 30 #[.val (.long j0), .second, .val (.int i2), .val (.int i3), .val (.int i4), .val (.long j5), .second, .val (.ref a7), .val (.int i8), .unset, .unset, .unset, .unset, .unset, .unset, .unset, .unset, .unset, .unset, .unset, .unset, .unset, .unset, .unset, .unset, .unset] [(.int u0)])) _
    refine XS.istore X0.here hx rfl (hb hby at_30) rfl (l' := #[.val (.long j0), .second, .val (.int i2), .val (.int i3), .val (.int i4), .val (.long j5), .second, .val (.ref a7), .val (.int i8), .val (.int u0), .unset, .unset, .unset, .unset, .unset, .unset, .unset, .unset, .unset, .unset, .unset, .unset, .unset, .unset, .unset, .unset]) rfl ?_
    show Steps p.tables e below (T0.setTop (mkF m 32 #[.val (.long j0), .second, .val (.int i2), .val (.int i3), .val (.int i4), .val (.long j5), .second, .val (.ref a7), .val (.int i8), .val (.int u0), .unset, .unset, .unset, .unset, .unset, .unset, .unset, .unset, .unset, .unset, .unset, .unset, .unset, .unset, .unset, .unset] [])) _
    refine XS.lloadN X0.here hx rfl (hb hby at_32) rfl ?_
    show Steps p.tables e below (T0.setTop (mkF m 33 #[.val (.long j0), .second, .val (.int i2), .val (.int i3), .val (.int i4), .val (.long j5), .second, .val (.ref a7), .val (.int i8), .val (.int u0), .unset, .unset, .unset, .unset, .unset, .unset, .unset, .unset, .unset, .unset, .unset, .unset, .unset, .unset, .unset, .unset] [(.long j0)])) _
    refine X0.ldc2Long hx hown (mvT hZ (hw _ (List.mem_of_getElem? (i := 8) rfl))) (g := (mkF m 33 #[.val (.long j0), .second, .val (.int i2), .val (.int i3), .val (.int i4), .val (.long j5), .second, .val (.ref a7), .val (.int i8), .val (.int u0), .unset, .unset, .unset, .unset, .unset, .unset, .unset, .unset, .unset, .unset, .unset, .unset, .unset, .unset, .unset, .unset] [(.long j0)])) rfl (hb hby at_33) _ ?_
    show Steps p.tables e below (T0.setTop (mkF m 36 #[.val (.long j0), .second, .val (.int i2), .val (.int i3), .val (.int i4), .val (.long j5), .second, .val (.ref a7), .val (.int i8), .val (.int u0), .unset, .unset, .unset, .unset, .unset, .unset, .unset, .unset, .unset, .unset, .unset, .unset, .unset, .unset, .unset, .unset] [(.long (10 : Int64)), (.long j0)])) _
    refine XS.ldiv X0.here hx rfl (hb hby at_36) rfl (by decide) ?_
    show Steps p.tables e below (T0.setTop (mkF m 37 #[.val (.long j0), .second, .val (.int i2), .val (.int i3), .val (.int i4), .val (.long j5), .second, .val (.ref a7), .val (.int i8), .val (.int u0), .unset, .unset, .unset, .unset, .unset, .unset, .unset, .unset, .unset, .unset, .unset, .unset, .unset, .unset, .unset, .unset] [(.long (j0 / (10 : Int64)))])) _
    refine st1 _ ?_
    show Steps p.tables e below (T1.setTop (mkF m 40 #[.val (.long j0), .second, .val (.int i2), .val (.int i3), .val (.int i4), .val (.long j5), .second, .val (.ref a7), .val (.int i8), .val (.int u0), .unset, .unset, .unset, .unset, .unset, .unset, .unset, .unset, .unset, .unset, .unset, .unset, .unset, .unset, .unset, .unset] [(.long (own_f2_0 (j0 / (10 : Int64))))])) _
    refine XS.lstore X1.here hx rfl (hb hby at_40) rfl (l' := #[.val (.long j0), .second, .val (.int i2), .val (.int i3), .val (.int i4), .val (.long j5), .second, .val (.ref a7), .val (.int i8), .val (.int u0), .val (.long (own_f2_0 (j0 / (10 : Int64)))), .second, .unset, .unset, .unset, .unset, .unset, .unset, .unset, .unset, .unset, .unset, .unset, .unset, .unset, .unset]) rfl ?_
    show Steps p.tables e below (T1.setTop (mkF m 42 #[.val (.long j0), .second, .val (.int i2), .val (.int i3), .val (.int i4), .val (.long j5), .second, .val (.ref a7), .val (.int i8), .val (.int u0), .val (.long (own_f2_0 (j0 / (10 : Int64)))), .second, .unset, .unset, .unset, .unset, .unset, .unset, .unset, .unset, .unset, .unset, .unset, .unset, .unset, .unset] [])) _
    refine XS.iloadN X1.here hx rfl (hb hby at_42) rfl ?_
    show Steps p.tables e below (T1.setTop (mkF m 43 #[.val (.long j0), .second, .val (.int i2), .val (.int i3), .val (.int i4), .val (.long j5), .second, .val (.ref a7), .val (.int i8), .val (.int u0), .val (.long (own_f2_0 (j0 / (10 : Int64)))), .second, .unset, .unset, .unset, .unset, .unset, .unset, .unset, .unset, .unset, .unset, .unset, .unset, .unset, .unset] [(.int i3)])) _
    refine XS.iconst X1.here hx rfl (hb hby at_43) ?_
    show Steps p.tables e below (T1.setTop (mkF m 44 #[.val (.long j0), .second, .val (.int i2), .val (.int i3), .val (.int i4), .val (.long j5), .second, .val (.ref a7), .val (.int i8), .val (.int u0), .val (.long (own_f2_0 (j0 / (10 : Int64)))), .second, .unset, .unset, .unset, .unset, .unset, .unset, .unset, .unset, .unset, .unset, .unset, .unset, .unset, .unset] [(.int (3 : Int32)), (.int i3)])) _
    refine XS.iand X1.here hx rfl (hb hby at_44) rfl ?_
    show Steps p.tables e below (T1.setTop (mkF m 45 #[.val (.long j0), .second, .val (.int i2), .val (.int i3), .val (.int i4), .val (.long j5), .second, .val (.ref a7), .val (.int i8), .val (.int u0), .val (.long (own_f2_0 (j0 / (10 : Int64)))), .second, .unset, .unset, .unset, .unset, .unset, .unset, .unset, .unset, .unset, .unset, .unset, .unset, .unset, .unset] [(.int (i3 &&& (3 : Int32)))])) _
    refine XS.istore X1.here hx rfl (hb hby at_45) rfl (l' := #[.val (.long j0), .second, .val (.int i2), .val (.int i3), .val (.int i4), .val (.long j5), .second, .val (.ref a7), .val (.int i8), .val (.int u0), .val (.long (own_f2_0 (j0 / (10 : Int64)))), .second, .val (.int (i3 &&& (3 : Int32))), .unset, .unset, .unset, .unset, .unset, .unset, .unset, .unset, .unset, .unset, .unset, .unset, .unset]) rfl ?_
    show Steps p.tables e below (T1.setTop (mkF m 47 #[.val (.long j0), .second, .val (.int i2), .val (.int i3), .val (.int i4), .val (.long j5), .second, .val (.ref a7), .val (.int i8), .val (.int u0), .val (.long (own_f2_0 (j0 / (10 : Int64)))), .second, .val (.int (i3 &&& (3 : Int32))), .unset, .unset, .unset, .unset, .unset, .unset, .unset, .unset, .unset, .unset, .unset, .unset, .unset] [])) _
    refine XS.iloadN X1.here hx rfl (hb hby at_47) rfl ?_
    show Steps p.tables e below (T1.setTop (mkF m 48 #[.val (.long j0), .second, .val (.int i2), .val (.int i3), .val (.int i4), .val (.long j5), .second, .val (.ref a7), .val (.int i8), .val (.int u0), .val (.long (own_f2_0 (j0 / (10 : Int64)))), .second, .val (.int (i3 &&& (3 : Int32))), .unset, .unset, .unset, .unset, .unset, .unset, .unset, .unset, .unset, .unset, .unset, .unset, .unset] [(.int i3)])) _
    refine XS.iconst X1.here hx rfl (hb hby at_48) ?_
    show Steps p.tables e below (T1.setTop (mkF m 49 #[.val (.long j0), .second, .val (.int i2), .val (.int i3), .val (.int i4), .val (.long j5), .second, .val (.ref a7), .val (.int i8), .val (.int u0), .val (.long (own_f2_0 (j0 / (10 : Int64)))), .second, .val (.int (i3 &&& (3 : Int32))), .unset, .unset, .unset, .unset, .unset, .unset, .unset, .unset, .unset, .unset, .unset, .unset, .unset] [(.int (2 : Int32)), (.int i3)])) _
    refine XS.iushr X1.here hx rfl (hb hby at_49) rfl ?_
    show Steps p.tables e below (T1.setTop (mkF m 50 #[.val (.long j0), .second, .val (.int i2), .val (.int i3), .val (.int i4), .val (.long j5), .second, .val (.ref a7), .val (.int i8), .val (.int u0), .val (.long (own_f2_0 (j0 / (10 : Int64)))), .second, .val (.int (i3 &&& (3 : Int32))), .unset, .unset, .unset, .unset, .unset, .unset, .unset, .unset, .unset, .unset, .unset, .unset, .unset] [(.int ((i3.toUInt32 >>> ((2 : Int32) &&& 31).toUInt32).toInt32))])) _
    refine XS.iconst X1.here hx rfl (hb hby at_50) ?_
    show Steps p.tables e below (T1.setTop (mkF m 51 #[.val (.long j0), .second, .val (.int i2), .val (.int i3), .val (.int i4), .val (.long j5), .second, .val (.ref a7), .val (.int i8), .val (.int u0), .val (.long (own_f2_0 (j0 / (10 : Int64)))), .second, .val (.int (i3 &&& (3 : Int32))), .unset, .unset, .unset, .unset, .unset, .unset, .unset, .unset, .unset, .unset, .unset, .unset, .unset] [(.int (3 : Int32)), (.int ((i3.toUInt32 >>> ((2 : Int32) &&& 31).toUInt32).toInt32))])) _
    refine XS.iand X1.here hx rfl (hb hby at_51) rfl ?_
    show Steps p.tables e below (T1.setTop (mkF m 52 #[.val (.long j0), .second, .val (.int i2), .val (.int i3), .val (.int i4), .val (.long j5), .second, .val (.ref a7), .val (.int i8), .val (.int u0), .val (.long (own_f2_0 (j0 / (10 : Int64)))), .second, .val (.int (i3 &&& (3 : Int32))), .unset, .unset, .unset, .unset, .unset, .unset, .unset, .unset, .unset, .unset, .unset, .unset, .unset] [(.int (((i3.toUInt32 >>> ((2 : Int32) &&& 31).toUInt32).toInt32) &&& (3 : Int32)))])) _
    refine XS.istore X1.here hx rfl (hb hby at_52) rfl (l' := #[.val (.long j0), .second, .val (.int i2), .val (.int i3), .val (.int i4), .val (.long j5), .second, .val (.ref a7), .val (.int i8), .val (.int u0), .val (.long (own_f2_0 (j0 / (10 : Int64)))), .second, .val (.int (i3 &&& (3 : Int32))), .val (.int (((i3.toUInt32 >>> ((2 : Int32) &&& 31).toUInt32).toInt32) &&& (3 : Int32))), .unset, .unset, .unset, .unset, .unset, .unset, .unset, .unset, .unset, .unset, .unset, .unset]) rfl ?_
    show Steps p.tables e below (T1.setTop (mkF m 54 #[.val (.long j0), .second, .val (.int i2), .val (.int i3), .val (.int i4), .val (.long j5), .second, .val (.ref a7), .val (.int i8), .val (.int u0), .val (.long (own_f2_0 (j0 / (10 : Int64)))), .second, .val (.int (i3 &&& (3 : Int32))), .val (.int (((i3.toUInt32 >>> ((2 : Int32) &&& 31).toUInt32).toInt32) &&& (3 : Int32))), .unset, .unset, .unset, .unset, .unset, .unset, .unset, .unset, .unset, .unset, .unset, .unset] [])) _
    refine XS.iloadN X1.here hx rfl (hb hby at_54) rfl ?_
    show Steps p.tables e below (T1.setTop (mkF m 55 #[.val (.long j0), .second, .val (.int i2), .val (.int i3), .val (.int i4), .val (.long j5), .second, .val (.ref a7), .val (.int i8), .val (.int u0), .val (.long (own_f2_0 (j0 / (10 : Int64)))), .second, .val (.int (i3 &&& (3 : Int32))), .val (.int (((i3.toUInt32 >>> ((2 : Int32) &&& 31).toUInt32).toInt32) &&& (3 : Int32))), .unset, .unset, .unset, .unset, .unset, .unset, .unset, .unset, .unset, .unset, .unset, .unset] [(.int i3)])) _
    refine XS.iconst X1.here hx rfl (hb hby at_55) ?_
    show Steps p.tables e below (T1.setTop (mkF m 56 #[.val (.long j0), .second, .val (.int i2), .val (.int i3), .val (.int i4), .val (.long j5), .second, .val (.ref a7), .val (.int i8), .val (.int u0), .val (.long (own_f2_0 (j0 / (10 : Int64)))), .second, .val (.int (i3 &&& (3 : Int32))), .val (.int (((i3.toUInt32 >>> ((2 : Int32) &&& 31).toUInt32).toInt32) &&& (3 : Int32))), .unset, .unset, .unset, .unset, .unset, .unset, .unset, .unset, .unset, .unset, .unset, .unset] [(.int (4 : Int32)), (.int i3)])) _
    refine XS.iushr X1.here hx rfl (hb hby at_56) rfl ?_
    show Steps p.tables e below (T1.setTop (mkF m 57 #[.val (.long j0), .second, .val (.int i2), .val (.int i3), .val (.int i4), .val (.long j5), .second, .val (.ref a7), .val (.int i8), .val (.int u0), .val (.long (own_f2_0 (j0 / (10 : Int64)))), .second, .val (.int (i3 &&& (3 : Int32))), .val (.int (((i3.toUInt32 >>> ((2 : Int32) &&& 31).toUInt32).toInt32) &&& (3 : Int32))), .unset, .unset, .unset, .unset, .unset, .unset, .unset, .unset, .unset, .unset, .unset, .unset] [(.int ((i3.toUInt32 >>> ((4 : Int32) &&& 31).toUInt32).toInt32))])) _
    refine XS.bipush X1.here hx rfl (hb hby at_57) ?_
    show Steps p.tables e below (T1.setTop (mkF m 59 #[.val (.long j0), .second, .val (.int i2), .val (.int i3), .val (.int i4), .val (.long j5), .second, .val (.ref a7), .val (.int i8), .val (.int u0), .val (.long (own_f2_0 (j0 / (10 : Int64)))), .second, .val (.int (i3 &&& (3 : Int32))), .val (.int (((i3.toUInt32 >>> ((2 : Int32) &&& 31).toUInt32).toInt32) &&& (3 : Int32))), .unset, .unset, .unset, .unset, .unset, .unset, .unset, .unset, .unset, .unset, .unset, .unset] [(.int (15 : Int32)), (.int ((i3.toUInt32 >>> ((4 : Int32) &&& 31).toUInt32).toInt32))])) _
    refine XS.iand X1.here hx rfl (hb hby at_59) rfl ?_
    show Steps p.tables e below (T1.setTop (mkF m 60 #[.val (.long j0), .second, .val (.int i2), .val (.int i3), .val (.int i4), .val (.long j5), .second, .val (.ref a7), .val (.int i8), .val (.int u0), .val (.long (own_f2_0 (j0 / (10 : Int64)))), .second, .val (.int (i3 &&& (3 : Int32))), .val (.int (((i3.toUInt32 >>> ((2 : Int32) &&& 31).toUInt32).toInt32) &&& (3 : Int32))), .unset, .unset, .unset, .unset, .unset, .unset, .unset, .unset, .unset, .unset, .unset, .unset] [(.int (((i3.toUInt32 >>> ((4 : Int32) &&& 31).toUInt32).toInt32) &&& (15 : Int32)))])) _
    refine XS.istore X1.here hx rfl (hb hby at_60) rfl (l' := #[.val (.long j0), .second, .val (.int i2), .val (.int i3), .val (.int i4), .val (.long j5), .second, .val (.ref a7), .val (.int i8), .val (.int u0), .val (.long (own_f2_0 (j0 / (10 : Int64)))), .second, .val (.int (i3 &&& (3 : Int32))), .val (.int (((i3.toUInt32 >>> ((2 : Int32) &&& 31).toUInt32).toInt32) &&& (3 : Int32))), .val (.int (((i3.toUInt32 >>> ((4 : Int32) &&& 31).toUInt32).toInt32) &&& (15 : Int32))), .unset, .unset, .unset, .unset, .unset, .unset, .unset, .unset, .unset, .unset, .unset]) rfl ?_
    show Steps p.tables e below (T1.setTop (mkF m 62 #[.val (.long j0), .second, .val (.int i2), .val (.int i3), .val (.int i4), .val (.long j5), .second, .val (.ref a7), .val (.int i8), .val (.int u0), .val (.long (own_f2_0 (j0 / (10 : Int64)))), .second, .val (.int (i3 &&& (3 : Int32))), .val (.int (((i3.toUInt32 >>> ((2 : Int32) &&& 31).toUInt32).toInt32) &&& (3 : Int32))), .val (.int (((i3.toUInt32 >>> ((4 : Int32) &&& 31).toUInt32).toInt32) &&& (15 : Int32))), .unset, .unset, .unset, .unset, .unset, .unset, .unset, .unset, .unset, .unset, .unset] [])) _
    refine XS.iload X1.here hx rfl (hb hby at_62) rfl ?_
    show Steps p.tables e below (T1.setTop (mkF m 64 #[.val (.long j0), .second, .val (.int i2), .val (.int i3), .val (.int i4), .val (.long j5), .second, .val (.ref a7), .val (.int i8), .val (.int u0), .val (.long (own_f2_0 (j0 / (10 : Int64)))), .second, .val (.int (i3 &&& (3 : Int32))), .val (.int (((i3.toUInt32 >>> ((2 : Int32) &&& 31).toUInt32).toInt32) &&& (3 : Int32))), .val (.int (((i3.toUInt32 >>> ((4 : Int32) &&& 31).toUInt32).toInt32) &&& (15 : Int32))), .unset, .unset, .unset, .unset, .unset, .unset, .unset, .unset, .unset, .unset, .unset] [(.int (i3 &&& (3 : Int32)))])) _
    refine XS.iconst X1.here hx rfl (hb hby at_64) ?_
    exact kt
  by_cases hc65 : (i3 &&& (3 : Int32)) < (1 : Int32)
  · have pre3 : ∀ target, Steps p.tables e below (T1.setTop (mkF m 77 #[.val (.long j0), .second, .val (.int i2), .val (.int i3), .val (.int i4), .val (.long j5), .second, .val (.ref a7), .val (.int i8), .val (.int u0), .val (.long (own_f2_0 (j0 / (10 : Int64)))), .second, .val (.int (i3 &&& (3 : Int32))), .val (.int (((i3.toUInt32 >>> ((2 : Int32) &&& 31).toUInt32).toInt32) &&& (3 : Int32))), .val (.int (((i3.toUInt32 >>> ((4 : Int32) &&& 31).toUInt32).toInt32) &&& (15 : Int32))), .unset, .unset, .unset, .unset, .unset, .unset, .unset, .unset, .unset, .unset, .unset] [])) target → Steps p.tables e below (T0.setTop (mkF m 30 #[.val (.long j0), .second, .val (.int i2), .val (.int i3), .val (.int i4), .val (.long j5), .second, .val (.ref a7), .val (.int i8), .unset, .unset, .unset, .unset, .unset, .unset, .unset, .unset, .unset, .unset, .unset, .unset, .unset, .unset, .unset, .unset, .unset] [(.int u0)])) target := by
      intro target kt
      refine pre2 target ?_
      show Steps p.tables e below (T1.setTop (mkF m 65 #[.val (.long j0), .second, .val (.int i2), .val (.int i3), .val (.int i4), .val (.long j5), .second, .val (.ref a7), .val (.int i8), .val (.int u0), .val (.long (own_f2_0 (j0 / (10 : Int64)))), .second, .val (.int (i3 &&& (3 : Int32))), .val (.int (((i3.toUInt32 >>> ((2 : Int32) &&& 31).toUInt32).toInt32) &&& (3 : Int32))), .val (.int (((i3.toUInt32 >>> ((4 : Int32) &&& 31).toUInt32).toInt32) &&& (15 : Int32))), .unset, .unset, .unset, .unset, .unset, .unset, .unset, .unset, .unset, .unset, .unset] [(.int (1 : Int32)), (.int (i3 &&& (3 : Int32)))])) _
      refine XS.icmpYes X1.here hx rfl (pc0 := 65) (pc' := 77) rfl (hb hby at_65) rfl (tlt hc65).1 (by decide) (by decide) ?_
      exact kt
    have hI4 : n_a7 = 24 ∧ 4 ≤ i8.toInt ∧ i8.toInt ≤ 23 ∧ 0 ≤ (i3 &&& (3 : Int32)).toInt ∧ (i3 &&& (3 : Int32)).toInt ≤ 3 := by exact ⟨hI.1, hI.2.1, hI.2.2, own_z3 _⟩
    obtain ⟨T4, L4, k4, n4, X4, N4, hk4', hn4, st4⟩ := own_b0_77 hx hZ hw hby hml hown hret j0 i2 i3 i4 j5 a7 i8 u0 (own_f2_0 (j0 / (10 : Int64))) (i3 &&& (3 : Int32)) (((i3.toUInt32 >>> ((2 : Int32) &&& 31).toUInt32).toInt32) &&& (3 : Int32)) (((i3.toUInt32 >>> ((4 : Int32) &&& 31).toUInt32).toInt32) &&& (15 : Int32)) n_a7 A_a7 X1 e1 N0 Z0 g_a7 V_a7 hI4
    have hv : (own_f0_30 j0 i2 i3 i4 j5 i8 u0 n_a7 A_a7) = (own_f0_77 j0 i2 i3 i4 j5 i8 u0 (own_f2_0 (j0 / (10 : Int64))) (i3 &&& (3 : Int32)) (((i3.toUInt32 >>> ((2 : Int32) &&& 31).toUInt32).toInt32) &&& (3 : Int32)) (((i3.toUInt32 >>> ((4 : Int32) &&& 31).toUInt32).toInt32) &&& (15 : Int32)) n_a7 A_a7) := by unfold own_f0_30; rw [if_pos hc65]
    exact ⟨T4, L4, k4, n4, X4, N4, hk4', hn4, fun fs hr => pre3 _ (st4 fs (by rw [hv] at hr; exact hr))⟩
  · have hix76 : ¬ (i8 - (1 : Int32)) < 0 ∧ (i8 - (1 : Int32)) < n_a7 := by exact own_s1 hI
    obtain ⟨T5, h5, X5, e5, W5, V5, st5⟩ := own_stB X1 hx hZ e1 V_a7 hix76 (g := (mkF m 76 #[.val (.long j0), .second, .val (.int i2), .val (.int i3), .val (.int i4), .val (.long j5), .second, .val (.ref a7), .val (.int i8), .val (.int u0), .val (.long (own_f2_0 (j0 / (10 : Int64)))), .second, .val (.int (i3 &&& (3 : Int32))), .val (.int (((i3.toUInt32 >>> ((2 : Int32) &&& 31).toUInt32).toInt32) &&& (3 : Int32))), .val (.int (((i3.toUInt32 >>> ((4 : Int32) &&& 31).toUInt32).toInt32) &&& (15 : Int32))), .unset, .unset, .unset, .unset, .unset, .unset, .unset, .unset, .unset, .unset, .unset] [(.int (48 : Int32)), (.int (i8 - (1 : Int32))), (.ref a7)])) rfl rfl (hb hby at_76)
    have N5 := Fr.snoc X5 N0 g_a7
    have Z5 : n0 ≤ h5.size := Nat.le_trans Z0 (Keep.of_wr W5).1
    have V_a7_k5 := V5
    have pre6 : ∀ target, Steps p.tables e below (T5.setTop (mkF m 77 #[.val (.long j0), .second, .val (.int i2), .val (.int i3), .val (.int i4), .val (.long j5), .second, .val (.ref a7), .val (.int i8), .val (.int u0), .val (.long (own_f2_0 (j0 / (10 : Int64)))), .second, .val (.int (i3 &&& (3 : Int32))), .val (.int (((i3.toUInt32 >>> ((2 : Int32) &&& 31).toUInt32).toInt32) &&& (3 : Int32))), .val (.int (((i3.toUInt32 >>> ((4 : Int32) &&& 31).toUInt32).toInt32) &&& (15 : Int32))), .unset, .unset, .unset, .unset, .unset, .unset, .unset, .unset, .unset, .unset, .unset] [])) target → Steps p.tables e below (T0.setTop (mkF m 30 #[.val (.long j0), .second, .val (.int i2), .val (.int i3), .val (.int i4), .val (.long j5), .second, .val (.ref a7), .val (.int i8), .unset, .unset, .unset, .unset, .unset, .unset, .unset, .unset, .unset, .unset, .unset, .unset, .unset, .unset, .unset, .unset, .unset] [(.int u0)])) target := by
      intro target kt
      refine pre2 target ?_
      show Steps p.tables e below (T1.setTop (mkF m 65 #[.val (.long j0), .second, .val (.int i2), .val (.int i3), .val (.int i4), .val (.long j5), .second, .val (.ref a7), .val (.int i8), .val (.int u0), .val (.long (own_f2_0 (j0 / (10 : Int64)))), .second, .val (.int (i3 &&& (3 : Int32))), .val (.int (((i3.toUInt32 >>> ((2 : Int32) &&& 31).toUInt32).toInt32) &&& (3 : Int32))), .val (.int (((i3.toUInt32 >>> ((4 : Int32) &&& 31).toUInt32).toInt32) &&& (15 : Int32))), .unset, .unset, .unset, .unset, .unset, .unset, .unset, .unset, .unset, .unset, .unset] [(.int (1 : Int32)), (.int (i3 &&& (3 : Int32)))])) _
      refine XS.icmpNo X1.here hx rfl (hb hby at_65) rfl (flt hc65).1 ?_
      show Steps p.tables e below (T1.setTop (mkF m 68 #[.val (.long j0), .second, .val (.int i2), .val (.int i3), .val (.int i4), .val (.long j5), .second, .val (.ref a7), .val (.int i8), .val (.int u0), .val (.long (own_f2_0 (j0 / (10 : Int64)))), .second, .val (.int (i3 &&& (3 : Int32))), .val (.int (((i3.toUInt32 >>> ((2 : Int32) &&& 31).toUInt32).toInt32) &&& (3 : Int32))), .val (.int (((i3.toUInt32 >>> ((4 : Int32) &&& 31).toUInt32).toInt32) &&& (15 : Int32))), .unset, .unset, .unset, .unset, .unset, .unset, .unset, .unset, .unset, .unset, .unset] [])) _
      refine XS.aload X1.here hx rfl (hb hby at_68) rfl rfl ?_
      show Steps p.tables e below (T1.setTop (mkF m 70 #[.val (.long j0), .second, .val (.int i2), .val (.int i3), .val (.int i4), .val (.long j5), .second, .val (.ref a7), .val (.int i8), .val (.int u0), .val (.long (own_f2_0 (j0 / (10 : Int64)))), .second, .val (.int (i3 &&& (3 : Int32))), .val (.int (((i3.toUInt32 >>> ((2 : Int32) &&& 31).toUInt32).toInt32) &&& (3 : Int32))), .val (.int (((i3.toUInt32 >>> ((4 : Int32) &&& 31).toUInt32).toInt32) &&& (15 : Int32))), .unset, .unset, .unset, .unset, .unset, .unset, .unset, .unset, .unset, .unset, .unset] [(.ref a7)])) _
      refine XS.iload X1.here hx rfl (hb hby at_70) rfl ?_
      show Steps p.tables e below (T1.setTop (mkF m 72 #[.val (.long j0), .second, .val (.int i2), .val (.int i3), .val (.int i4), .val (.long j5), .second, .val (.ref a7), .val (.int i8), .val (.int u0), .val (.long (own_f2_0 (j0 / (10 : Int64)))), .second, .val (.int (i3 &&& (3 : Int32))), .val (.int (((i3.toUInt32 >>> ((2 : Int32) &&& 31).toUInt32).toInt32) &&& (3 : Int32))), .val (.int (((i3.toUInt32 >>> ((4 : Int32) &&& 31).toUInt32).toInt32) &&& (15 : Int32))), .unset, .unset, .unset, .unset, .unset, .unset, .unset, .unset, .unset, .unset, .unset] [(.int i8), (.ref a7)])) _
      refine XS.iconst X1.here hx rfl (hb hby at_72) ?_
      show Steps p.tables e below (T1.setTop (mkF m 73 #[.val (.long j0), .second, .val (.int i2), .val (.int i3), .val (.int i4), .val (.long j5), .second, .val (.ref a7), .val (.int i8), .val (.int u0), .val (.long (own_f2_0 (j0 / (10 : Int64)))), .second, .val (.int (i3 &&& (3 : Int32))), .val (.int (((i3.toUInt32 >>> ((2 : Int32) &&& 31).toUInt32).toInt32) &&& (3 : Int32))), .val (.int (((i3.toUInt32 >>> ((4 : Int32) &&& 31).toUInt32).toInt32) &&& (15 : Int32))), .unset, .unset, .unset, .unset, .unset, .unset, .unset, .unset, .unset, .unset, .unset] [(.int (1 : Int32)), (.int i8), (.ref a7)])) _
      refine XS.isub X1.here hx rfl (hb hby at_73) rfl ?_
      show Steps p.tables e below (T1.setTop (mkF m 74 #[.val (.long j0), .second, .val (.int i2), .val (.int i3), .val (.int i4), .val (.long j5), .second, .val (.ref a7), .val (.int i8), .val (.int u0), .val (.long (own_f2_0 (j0 / (10 : Int64)))), .second, .val (.int (i3 &&& (3 : Int32))), .val (.int (((i3.toUInt32 >>> ((2 : Int32) &&& 31).toUInt32).toInt32) &&& (3 : Int32))), .val (.int (((i3.toUInt32 >>> ((4 : Int32) &&& 31).toUInt32).toInt32) &&& (15 : Int32))), .unset, .unset, .unset, .unset, .unset, .unset, .unset, .unset, .unset, .unset, .unset] [(.int (i8 - (1 : Int32))), (.ref a7)])) _
      refine XS.bipush X1.here hx rfl (hb hby at_74) ?_
      show Steps p.tables e below (T1.setTop (mkF m 76 #[.val (.long j0), .second, .val (.int i2), .val (.int i3), .val (.int i4), .val (.long j5), .second, .val (.ref a7), .val (.int i8), .val (.int u0), .val (.long (own_f2_0 (j0 / (10 : Int64)))), .second, .val (.int (i3 &&& (3 : Int32))), .val (.int (((i3.toUInt32 >>> ((2 : Int32) &&& 31).toUInt32).toInt32) &&& (3 : Int32))), .val (.int (((i3.toUInt32 >>> ((4 : Int32) &&& 31).toUInt32).toInt32) &&& (15 : Int32))), .unset, .unset, .unset, .unset, .unset, .unset, .unset, .unset, .unset, .unset, .unset] [(.int (48 : Int32)), (.int (i8 - (1 : Int32))), (.ref a7)])) _
      refine st5 _ ?_
      exact kt
    have hI7 : n_a7 = 24 ∧ 4 ≤ i8.toInt ∧ i8.toInt ≤ 23 ∧ 0 ≤ (i3 &&& (3 : Int32)).toInt ∧ (i3 &&& (3 : Int32)).toInt ≤ 3 := by exact ⟨hI.1, hI.2.1, hI.2.2, own_z3 _⟩
    obtain ⟨T7, L7, k7, n7, X7, N7, hk7', hn7, st7⟩ := own_b0_77 hx hZ hw hby hml hown hret j0 i2 i3 i4 j5 a7 i8 u0 (own_f2_0 (j0 / (10 : Int64))) (i3 &&& (3 : Int32)) (((i3.toUInt32 >>> ((2 : Int32) &&& 31).toUInt32).toInt32) &&& (3 : Int32)) (((i3.toUInt32 >>> ((4 : Int32) &&& 31).toUInt32).toInt32) &&& (15 : Int32)) n_a7 (own_up A_a7 (i8 - (1 : Int32)).toNatClampNeg ((48 : Int32).toInt8.toInt32)) X5 e5 N5 Z5 g_a7 V_a7_k5 hI7
    have hv : (own_f0_30 j0 i2 i3 i4 j5 i8 u0 n_a7 A_a7) = (own_f0_77 j0 i2 i3 i4 j5 i8 u0 (own_f2_0 (j0 / (10 : Int64))) (i3 &&& (3 : Int32)) (((i3.toUInt32 >>> ((2 : Int32) &&& 31).toUInt32).toInt32) &&& (3 : Int32)) (((i3.toUInt32 >>> ((4 : Int32) &&& 31).toUInt32).toInt32) &&& (15 : Int32)) n_a7 (own_up A_a7 (i8 - (1 : Int32)).toNatClampNeg ((48 : Int32).toInt8.toInt32))) := by unfold own_f0_30; rw [if_neg hc65]
    exact ⟨T7, L7, k7, n7, X7, N7, hk7', hn7, fun fs hr => pre6 _ (st7 fs (by rw [hv] at hr; exact hr))⟩
set_option maxRecDepth 65536 in
set_option maxHeartbeats 40000000 in
theorem own_b0_0 {p : Program} {l : Launch} {e : Env} {s : State} {m : MethodId} {args : Array Value} {below : List Frame} {meth : Method} {c : Code} {Z : State} {a0_ : Array Value} {n0 : Nat} (hx : p.tables.exec = Jvm.exec) (hZ : Z.Warmed39 s.vm) (hw : ∀ d ∈ tables_1, d.before a0_ Z = true) (hby : c.code = code) (hml : c.maxLocals = 26) (hown : s.vm.findClass "com/example/rollcalldb/rollcalldb/resp/DecimalParsePinLaw" = some m.cls) (hret : meth.sig.returnType = some .boolean) {T0 : State} {locs : List Loc} {h0 : Heap} (j0 : Int64) (i2 : Int32) (i3 : Int32) (i4 : Int32)
    (X0 : Stand p l e room_1 s m args below meth c T0 locs 0 0) (e0 : T0.heap = h0) (N0 : Fr n0 locs) (Z0 : n0 ≤ h0.size)  :
    ∃ T' locs' cells' slots', Stand p l e room_1 s m args below meth c T' locs' cells' slots' ∧ Fr n0 locs' ∧ cells' ≤ room_1.cells ∧ slots' ≤ room_1.slots ∧ ∀ fs, (∀ (f : JFrame) (acts : List Action), f.method = m → f.locked = none → f.entered = [] → (doReturn e (T'.setTop f) acts (some (.int (own_f0_0 j0 i2 i3 i4)))).1 = T'.setFrames fs) → Steps p.tables e below (T0.setTop (mkF m 0 #[.val (.long j0), .second, .val (.int i2), .val (.int i3), .val (.int i4), .unset, .unset, .unset, .unset, .unset, .unset, .unset, .unset, .unset, .unset, .unset, .unset, .unset, .unset, .unset, .unset, .unset, .unset, .unset, .unset, .unset] [])) (T'.setFrames fs) := by
  obtain ⟨T1, h1, k1, X1, e1, E1, A1, st1⟩ := newP X0 hx hZ (hw _ (List.mem_of_getElem? (i := 1) rfl)) e0 (g := (mkF m 7 #[.val (.long j0), .second, .val (.int i2), .val (.int i3), .val (.int i4), .val (.long (-9223372036854775808 : Int64)), .second, .unset, .unset, .unset, .unset, .unset, .unset, .unset, .unset, .unset, .unset, .unset, .unset, .unset, .unset, .unset, .unset, .unset, .unset, .unset] [(.int (24 : Int32))])) rfl (hb hby at_7) rfl (by decide) (cap := 24) (by decide) (by decide) (by decide) (by decide)
  obtain ⟨b1, g1⟩ : ∃ z, z = h0.size := ⟨_, rfl⟩
  rw [← g1] at A1 st1
  have g_b1 : n0 ≤ b1 := Nat.le_trans Z0 (Nat.le_of_eq g1.symm)
  have Z1 : n0 ≤ h1.size := Nat.le_trans Z0 E1.1
  have V_b1 : own_Ar Z h1 b1 .byte (24 : Int32) (fun _ => 0) := own_Ar.new A1 (by decide) rfl
  have hJ2 : 20 ≤ (24 : Int32).toInt := by decide
  obtain ⟨_, _, ⟨T2, L2, k2, n2⟩, -, X2, ⟨Lc2, hQ2, l2, y2, z2⟩, st2⟩ := Jvm.LawKit.callS X1 hx (y := (⟨"com/example/rollcalldb/rollcalldb/resp/Decimal", "format", "(J[B)I"⟩ : MethodName)) hown (mvT hZ (hw _ (List.mem_of_getElem? (i := 2) rfl))) (mvT hZ (hw _ (List.mem_of_getElem? (i := 3) rfl))) (mvT hZ (hw _ (List.mem_of_getElem? (i := 4) rfl))) (mvT hZ (hw _ (List.mem_of_getElem? (i := 5) rfl))) (by decide) (backOf (W := 0) (rm1 l Z a0_ hw [] j0 b1 (24 : Int32) (fun _ => 0) h1 n0 Z1 g_b1 V_b1 hJ2) hZ (hw _ (List.mem_of_getElem? (i := 5) rfl)) (hw _ (List.mem_of_getElem? (i := 4) rfl)) (by decide) (by decide)) (g := (mkF m 14 #[.val (.long j0), .second, .val (.int i2), .val (.int i3), .val (.int i4), .val (.long (-9223372036854775808 : Int64)), .second, .val (.ref b1), .unset, .unset, .unset, .unset, .unset, .unset, .unset, .unset, .unset, .unset, .unset, .unset, .unset, .unset, .unset, .unset, .unset, .unset] [(.ref b1), (.long j0)])) rfl (by rw [hml]; rfl) (argsL := [(.long j0), (.ref b1)]) (rest := []) (lenOf pd_0_0 rfl) rfl (by show 2 * 0 + _ ≤ _; exact Nat.le_of_eq rfl) (hb hby at_14) (fun _ _ => ⟨rfl, e1, (by decide : 1 + 0 ≤ room_1.cells), (by decide : 24 + 0 ≤ room_1.slots)⟩)
  dsimp only [Pt.U, Pt.locs, Pt.cells, Pt.slots] at X2 l2 y2 z2 st2 hQ2
  subst l2 y2 z2
  obtain ⟨rfl, Nq2, Kq2, Gq2_A⟩ := hQ2
  have N2 := Fr.app N0 Nq2
  have Z2 : n0 ≤ T2.heap.size := Nat.le_trans Z1 Kq2.1
  have V_b1_k2 := Gq2_A
  have pre3 : ∀ target, Steps p.tables e below (T2.setTop (mkF m 22 #[.val (.long j0), .second, .val (.int i2), .val (.int i3), .val (.int i4), .val (.long (-9223372036854775808 : Int64)), .second, .val (.ref b1), .val (.int (own_f1_0 j0 (24 : Int32) (fun _ => 0))), .unset, .unset, .unset, .unset, .unset, .unset, .unset, .unset, .unset, .unset, .unset, .unset, .unset, .unset, .unset, .unset, .unset] [(.int (lcmpW j0 (0 : Int64)))])) target → Steps p.tables e below (T0.setTop (mkF m 0 #[.val (.long j0), .second, .val (.int i2), .val (.int i3), .val (.int i4), .unset, .unset, .unset, .unset, .unset, .unset, .unset, .unset, .unset, .unset, .unset, .unset, .unset, .unset, .unset, .unset, .unset, .unset, .unset, .unset, .unset] [])) target := by
    intro target kt
    show Steps p.tables e below (T0.setTop (mkF m 0 #[.val (.long j0), .second, .val (.int i2), .val (.int i3), .val (.int i4), .unset, .unset, .unset, .unset, .unset, .unset, .unset, .unset, .unset, .unset, .unset, .unset, .unset, .unset, .unset, .unset, .unset, .unset, .unset, .unset, .unset] [])) _
    refine X0.ldc2Long hx hown (mvT hZ (hw _ (List.mem_of_getElem? (i := 0) rfl))) (g := (mkF m 0 #[.val (.long j0), .second, .val (.int i2), .val (.int i3), .val (.int i4), .unset, .unset, .unset, .unset, .unset, .unset, .unset, .unset, .unset, .unset, .unset, .unset, .unset, .unset, .unset, .unset, .unset, .unset, .unset, .unset, .unset] [])) rfl (hb hby at_0) _ ?_
    show Steps p.tables e below (T0.setTop (mkF m 3 #[.val (.long j0), .second, .val (.int i2), .val (.int i3), .val (.int i4), .unset, .unset, .unset, .unset, .unset, .unset, .unset, .unset, .unset, .unset, .unset, .unset, .unset, .unset, .unset, .unset, .unset, .unset, .unset, .unset, .unset] [(.long (-9223372036854775808 : Int64))])) _
    refine XS.lstore X0.here hx rfl (hb hby at_3) rfl (l' := #[.val (.long j0), .second, .val (.int i2), .val (.int i3), .val (.int i4), .val (.long (-9223372036854775808 : Int64)), .second, .unset, .unset, .unset, .unset, .unset, .unset, .unset, .unset, .unset, .unset, .unset, .unset, .unset, .unset, .unset, .unset, .unset, .unset, .unset]) rfl ?_
    show Steps p.tables e below (T0.setTop (mkF m 5 #[.val (.long j0), .second, .val (.int i2), .val (.int i3), .val (.int i4), .val (.long (-9223372036854775808 : Int64)), .second, .unset, .unset, .unset, .unset, .unset, .unset, .unset, .unset, .unset, .unset, .unset, .unset, .unset, .unset, .unset, .unset, .unset, .unset, .unset] [])) _
    refine XS.bipush X0.here hx rfl (hb hby at_5) ?_
    show Steps p.tables e below (T0.setTop (mkF m 7 #[.val (.long j0), .second, .val (.int i2), .val (.int i3), .val (.int i4), .val (.long (-9223372036854775808 : Int64)), .second, .unset, .unset, .unset, .unset, .unset, .unset, .unset, .unset, .unset, .unset, .unset, .unset, .unset, .unset, .unset, .unset, .unset, .unset, .unset] [(.int (24 : Int32))])) _
    refine st1 _ ?_
    show Steps p.tables e below (T1.setTop (mkF m 9 #[.val (.long j0), .second, .val (.int i2), .val (.int i3), .val (.int i4), .val (.long (-9223372036854775808 : Int64)), .second, .unset, .unset, .unset, .unset, .unset, .unset, .unset, .unset, .unset, .unset, .unset, .unset, .unset, .unset, .unset, .unset, .unset, .unset, .unset] [(.ref b1)])) _
    refine XS.astore X1.here hx rfl (hb hby at_9) rfl rfl (l' := #[.val (.long j0), .second, .val (.int i2), .val (.int i3), .val (.int i4), .val (.long (-9223372036854775808 : Int64)), .second, .val (.ref b1), .unset, .unset, .unset, .unset, .unset, .unset, .unset, .unset, .unset, .unset, .unset, .unset, .unset, .unset, .unset, .unset, .unset, .unset]) rfl ?_
    show Steps p.tables e below (T1.setTop (mkF m 11 #[.val (.long j0), .second, .val (.int i2), .val (.int i3), .val (.int i4), .val (.long (-9223372036854775808 : Int64)), .second, .val (.ref b1), .unset, .unset, .unset, .unset, .unset, .unset, .unset, .unset, .unset, .unset, .unset, .unset, .unset, .unset, .unset, .unset, .unset, .unset] [])) _
    refine XS.lloadN X1.here hx rfl (hb hby at_11) rfl ?_
    show Steps p.tables e below (T1.setTop (mkF m 12 #[.val (.long j0), .second, .val (.int i2), .val (.int i3), .val (.int i4), .val (.long (-9223372036854775808 : Int64)), .second, .val (.ref b1), .unset, .unset, .unset, .unset, .unset, .unset, .unset, .unset, .unset, .unset, .unset, .unset, .unset, .unset, .unset, .unset, .unset, .unset] [(.long j0)])) _
    refine XS.aload X1.here hx rfl (hb hby at_12) rfl rfl ?_
    show Steps p.tables e below (T1.setTop (mkF m 14 #[.val (.long j0), .second, .val (.int i2), .val (.int i3), .val (.int i4), .val (.long (-9223372036854775808 : Int64)), .second, .val (.ref b1), .unset, .unset, .unset, .unset, .unset, .unset, .unset, .unset, .unset, .unset, .unset, .unset, .unset, .unset, .unset, .unset, .unset, .unset] [(.ref b1), (.long j0)])) _
    refine st2 _ ?_
    show Steps p.tables e below (T2.setTop (mkF m 17 #[.val (.long j0), .second, .val (.int i2), .val (.int i3), .val (.int i4), .val (.long (-9223372036854775808 : Int64)), .second, .val (.ref b1), .unset, .unset, .unset, .unset, .unset, .unset, .unset, .unset, .unset, .unset, .unset, .unset, .unset, .unset, .unset, .unset, .unset, .unset] [(.int (own_f1_0 j0 (24 : Int32) (fun _ => 0)))])) _
    refine XS.istore X2.here hx rfl (hb hby at_17) rfl (l' := #[.val (.long j0), .second, .val (.int i2), .val (.int i3), .val (.int i4), .val (.long (-9223372036854775808 : Int64)), .second, .val (.ref b1), .val (.int (own_f1_0 j0 (24 : Int32) (fun _ => 0))), .unset, .unset, .unset, .unset, .unset, .unset, .unset, .unset, .unset, .unset, .unset, .unset, .unset, .unset, .unset, .unset, .unset]) rfl ?_
    show Steps p.tables e below (T2.setTop (mkF m 19 #[.val (.long j0), .second, .val (.int i2), .val (.int i3), .val (.int i4), .val (.long (-9223372036854775808 : Int64)), .second, .val (.ref b1), .val (.int (own_f1_0 j0 (24 : Int32) (fun _ => 0))), .unset, .unset, .unset, .unset, .unset, .unset, .unset, .unset, .unset, .unset, .unset, .unset, .unset, .unset, .unset, .unset, .unset] [])) _
    refine XS.lloadN X2.here hx rfl (hb hby at_19) rfl ?_
    show Steps p.tables e below (T2.setTop (mkF m 20 #[.val (.long j0), .second, .val (.int i2), .val (.int i3), .val (.int i4), .val (.long (-9223372036854775808 : Int64)), .second, .val (.ref b1), .val (.int (own_f1_0 j0 (24 : Int32) (fun _ => 0))), .unset, .unset, .unset, .unset, .unset, .unset, .unset, .unset, .unset, .unset, .unset, .unset, .unset, .unset, .unset, .unset, .unset] [(.long j0)])) _
    refine XS.lconst X2.here hx rfl (hb hby at_20) ?_
    show Steps p.tables e below (T2.setTop (mkF m 21 #[.val (.long j0), .second, .val (.int i2), .val (.int i3), .val (.int i4), .val (.long (-9223372036854775808 : Int64)), .second, .val (.ref b1), .val (.int (own_f1_0 j0 (24 : Int32) (fun _ => 0))), .unset, .unset, .unset, .unset, .unset, .unset, .unset, .unset, .unset, .unset, .unset, .unset, .unset, .unset, .unset, .unset, .unset] [(.long (0 : Int64)), (.long j0)])) _
    refine XS.lcmp X2.here hx rfl (hb hby at_21) rfl ?_
    exact kt
  by_cases hc22 : j0 < (0 : Int64)
  · have pre4 : ∀ target, Steps p.tables e below (T2.setTop (mkF m 30 #[.val (.long j0), .second, .val (.int i2), .val (.int i3), .val (.int i4), .val (.long (-9223372036854775808 : Int64)), .second, .val (.ref b1), .val (.int (own_f1_0 j0 (24 : Int32) (fun _ => 0))), .unset, .unset, .unset, .unset, .unset, .unset, .unset, .unset, .unset, .unset, .unset, .unset, .unset, .unset, .unset, .unset, .unset] [(.int (1 : Int32))])) target → Steps p.tables e below (T0.setTop (mkF m 0 #[.val (.long j0), .second, .val (.int i2), .val (.int i3), .val (.int i4), .unset, .unset, .unset, .unset, .unset, .unset, .unset, .unset, .unset, .unset, .unset, .unset, .unset, .unset, .unset, .unset, .unset, .unset, .unset, .unset, .unset] [])) target := by
      intro target kt
      refine pre3 target ?_
      show Steps p.tables e below (T2.setTop (mkF m 22 #[.val (.long j0), .second, .val (.int i2), .val (.int i3), .val (.int i4), .val (.long (-9223372036854775808 : Int64)), .second, .val (.ref b1), .val (.int (own_f1_0 j0 (24 : Int32) (fun _ => 0))), .unset, .unset, .unset, .unset, .unset, .unset, .unset, .unset, .unset, .unset, .unset, .unset, .unset, .unset, .unset, .unset, .unset] [(.int (lcmpW j0 (0 : Int64)))])) _
      refine XS.ifNo X2.here hx rfl (hb hby at_22) rfl ((if0 _ _).trans (tlt ((lw_lt _ _).mpr hc22)).2.1) ?_
      show Steps p.tables e below (T2.setTop (mkF m 25 #[.val (.long j0), .second, .val (.int i2), .val (.int i3), .val (.int i4), .val (.long (-9223372036854775808 : Int64)), .second, .val (.ref b1), .val (.int (own_f1_0 j0 (24 : Int32) (fun _ => 0))), .unset, .unset, .unset, .unset, .unset, .unset, .unset, .unset, .unset, .unset, .unset, .unset, .unset, .unset, .unset, .unset, .unset] [])) _
      refine XS.iconst X2.here hx rfl (hb hby at_25) ?_
      show Steps p.tables e below (T2.setTop (mkF m 26 #[.val (.long j0), .second, .val (.int i2), .val (.int i3), .val (.int i4), .val (.long (-9223372036854775808 : Int64)), .second, .val (.ref b1), .val (.int (own_f1_0 j0 (24 : Int32) (fun _ => 0))), .unset, .unset, .unset, .unset, .unset, .unset, .unset, .unset, .unset, .unset, .unset, .unset, .unset, .unset, .unset, .unset, .unset] [(.int (1 : Int32))])) _
      refine XS.goto X2.here hx rfl (pc0 := 26) (pc' := 30) rfl (hb hby at_26) (by decide) (by decide) ?_
      exact kt
    have hI5 : (24 : Int32) = 24 ∧ 4 ≤ (own_f1_0 j0 (24 : Int32) (fun _ => 0)).toInt ∧ (own_f1_0 j0 (24 : Int32) (fun _ => 0)).toInt ≤ 23 := by exact ⟨rfl, own_fb _⟩
    obtain ⟨T5, L5, k5, n5, X5, N5, hk5', hn5, st5⟩ := own_b0_30 hx hZ hw hby hml hown hret j0 i2 i3 i4 (-9223372036854775808 : Int64) b1 (own_f1_0 j0 (24 : Int32) (fun _ => 0)) (1 : Int32) (24 : Int32) (own_o1_A j0 (24 : Int32) (fun _ => 0)) X2 rfl N2 Z2 g_b1 V_b1_k2 hI5
    have hv : (own_f0_0 j0 i2 i3 i4) = (own_f0_30 j0 i2 i3 i4 (-9223372036854775808 : Int64) (own_f1_0 j0 (24 : Int32) (fun _ => 0)) (1 : Int32) (24 : Int32) (own_o1_A j0 (24 : Int32) (fun _ => 0))) := by unfold own_f0_0; rw [if_pos hc22]
    exact ⟨T5, L5, k5, n5, X5, N5, hk5', hn5, fun fs hr => pre4 _ (st5 fs (by rw [hv] at hr; exact hr))⟩
  · have pre6 : ∀ target, Steps p.tables e below (T2.setTop (mkF m 30 #[.val (.long j0), .second, .val (.int i2), .val (.int i3), .val (.int i4), .val (.long (-9223372036854775808 : Int64)), .second, .val (.ref b1), .val (.int (own_f1_0 j0 (24 : Int32) (fun _ => 0))), .unset, .unset, .unset, .unset, .unset, .unset, .unset, .unset, .unset, .unset, .unset, .unset, .unset, .unset, .unset, .unset, .unset] [(.int (0 : Int32))])) target → Steps p.tables e below (T0.setTop (mkF m 0 #[.val (.long j0), .second, .val (.int i2), .val (.int i3), .val (.int i4), .unset, .unset, .unset, .unset, .unset, .unset, .unset, .unset, .unset, .unset, .unset, .unset, .unset, .unset, .unset, .unset, .unset, .unset, .unset, .unset, .unset] [])) target := by
      intro target kt
      refine pre3 target ?_
      show Steps p.tables e below (T2.setTop (mkF m 22 #[.val (.long j0), .second, .val (.int i2), .val (.int i3), .val (.int i4), .val (.long (-9223372036854775808 : Int64)), .second, .val (.ref b1), .val (.int (own_f1_0 j0 (24 : Int32) (fun _ => 0))), .unset, .unset, .unset, .unset, .unset, .unset, .unset, .unset, .unset, .unset, .unset, .unset, .unset, .unset, .unset, .unset, .unset] [(.int (lcmpW j0 (0 : Int64)))])) _
      refine XS.ifYes X2.here hx rfl (pc0 := 22) (pc' := 29) rfl (hb hby at_22) rfl ((if0 _ _).trans (flt (mt (lw_lt _ _).mp hc22)).2.1) (by decide) (by decide) ?_
      show Steps p.tables e below (T2.setTop (mkF m 29 #[.val (.long j0), .second, .val (.int i2), .val (.int i3), .val (.int i4), .val (.long (-9223372036854775808 : Int64)), .second, .val (.ref b1), .val (.int (own_f1_0 j0 (24 : Int32) (fun _ => 0))), .unset, .unset, .unset, .unset, .unset, .unset, .unset, .unset, .unset, .unset, .unset, .unset, .unset, .unset, .unset, .unset, .unset] [])) _
      refine XS.iconst X2.here hx rfl (hb hby at_29) ?_
      exact kt
    have hI7 : (24 : Int32) = 24 ∧ 4 ≤ (own_f1_0 j0 (24 : Int32) (fun _ => 0)).toInt ∧ (own_f1_0 j0 (24 : Int32) (fun _ => 0)).toInt ≤ 23 := by exact ⟨rfl, own_fb _⟩
    obtain ⟨T7, L7, k7, n7, X7, N7, hk7', hn7, st7⟩ := own_b0_30 hx hZ hw hby hml hown hret j0 i2 i3 i4 (-9223372036854775808 : Int64) b1 (own_f1_0 j0 (24 : Int32) (fun _ => 0)) (0 : Int32) (24 : Int32) (own_o1_A j0 (24 : Int32) (fun _ => 0)) X2 rfl N2 Z2 g_b1 V_b1_k2 hI7
    have hv : (own_f0_0 j0 i2 i3 i4) = (own_f0_30 j0 i2 i3 i4 (-9223372036854775808 : Int64) (own_f1_0 j0 (24 : Int32) (fun _ => 0)) (0 : Int32) (24 : Int32) (own_o1_A j0 (24 : Int32) (fun _ => 0))) := by unfold own_f0_0; rw [if_neg hc22]
    exact ⟨T7, L7, k7, n7, X7, N7, hk7', hn7, fun fs hr => pre6 _ (st7 fs (by rw [hv] at hr; exact hr))⟩
def Q0 (Z : State) (j0 : Int64) (i2 : Int32) (i3 : Int32) (i4 : Int32) (h0 : Heap) (n0 : Nat) (v : Option Value) (h : Heap) (L : List Loc) : Prop := v = some (.int (own_f0_0 j0 i2 i3 i4)) ∧ Fr n0 L
set_option maxRecDepth 65536 in
set_option maxHeartbeats 40000000 in
theorem rm0 (l : Launch) (Z : State) (a0_ : Array Value) (hw : ∀ d ∈ tables_1, d.before a0_ Z = true) (ws : List Jvm.Cond) (j0 : Int64) (i2 : Int32) (i3 : Int32) (i4 : Int32) (h0 : Heap) (n0 : Nat) (Z0 : n0 ≤ h0.size)  :
    MetFree l x (head1 (Jvm.Cond.code x code maxLocals ret :: ws) room_1) (fun a U => a = #[(.long j0), (.int i2), (.int i3), (.int i4)] ∧ Z.Warmed39 U.vm ∧ U.heap = h0) (fun _ _ _ _ _ => True) (fun _ U o U' => ∃ v L, o = .returned v ∧ Q0 Z j0 i2 i3 i4 h0 n0 v U'.heap L ∧ FrameEnd U o U' L room_1.cells room_1.slots) := by
  refine MetFree.of_bodySF (plainFor_of_name pn_0) hisR ?_
  intro p e s m args below meth c s₁ Bd hml0 hP hK
  obtain ⟨rfl, hZ, hh⟩ := hP
  have hx := Bd.exec
  have hby := Bd.bytes
  have hml : c.maxLocals = 26 := hml0
  have hown : s.vm.findClass "com/example/rollcalldb/rollcalldb/resp/DecimalParsePinLaw" = some m.cls := findClass_of_methodNamed Bd.named
  have X0 : Stand p l e room_1 s m #[(.long j0), (.int i2), (.int i3), (.int i4)] below meth c s₁ [] 0 0 := Stand.of_body Bd
  have e0 : s₁.heap = h0 := by rw [← hh, Bd.state]; rfl
  obtain ⟨T', L', k', n', X', N', hk', hn', st'⟩ := own_b0_0 hx hZ hw hby hml hown Bd.returns  j0 i2 i3 i4 X0 e0 (Fr.nil n0) Z0 
  obtain ⟨fs, hr, hrun, hended, hW, hsame⟩ := X'.leave (v := some (.int (own_f0_0 j0 i2 i3 i4))) (fun h => by rw [Bd.returns] at h; cases h)
  refine ⟨_, _, castTop (ef_0 m j0 i2 i3 i4) (st' fs hr), hrun, hended, _, _, rfl, ?_, ⟨_, rfl⟩, hW, hsame.mono hk' hn'⟩
  exact ⟨rfl, N'⟩
theorem own_pall_good (i1 i2 n : Int32) (A : Nat → Int32) (fr e c : Nat) (h1 : i1.toInt = fr) (h2 : i2.toInt = (fr : Int) + e + c) (hc : 1 ≤ c) (h3 : fr + e + c ≤ 1000) (he : (e = 0 ∧ ¬ A fr = 45) ∨ (e = 1 ∧ A fr = 45)) (ok : own_ok A (fr + e) c) (hle : own_h A (fr + e) c 0 ≤ 9223372036854775807) :
    (own_f3_0 i1 i2 n A).toInt = if e = 0 then (own_h A (fr + e) c 0 : Int) else -(own_h A (fr + e) c 0 : Int) := by
  rcases he with ⟨rfl, hA⟩ | ⟨rfl, hA⟩
  · rw [if_pos rfl]
    exact own_ptop_pos i1 i2 n A fr c h1 (by omega) hc (by omega) hA ok hle
  · rw [if_neg (by decide +kernel)]
    exact own_ptop_neg i1 i2 n A fr c h1 (by omega) hc (by omega) hA ok hle
theorem own_pall_bad (i1 i2 n : Int32) (A : Nat → Int32) (fr e c : Nat) (h1 : i1.toInt = fr) (h2 : i2.toInt = (fr : Int) + e + c) (h3 : fr + e + c ≤ 1000) (he : (e = 0 ∧ (c = 0 ∨ ¬ A fr = 45)) ∨ (e = 1 ∧ A fr = 45)) (bad : c = 0 ∨ ¬ (own_ok A (fr + e) c ∧ own_h A (fr + e) c 0 ≤ 9223372036854775807)) :
    own_f3_0 i1 i2 n A = (-9223372036854775808 : Int64) := by
  have ei : i1.toNatClampNeg = fr := by show i1.toInt.toNat = fr; omega
  rcases he with ⟨rfl, hA⟩ | ⟨rfl, hA⟩
  · have top : own_f3_0 i1 i2 n A = own_f3_17 i1 i2 n A := by
      unfold own_f3_0
      by_cases q : i1 < i2
      · rw [if_pos q, ei]
        rw [Int32.lt_iff_toInt_lt] at q
        rw [if_neg (hA.elim (fun z => absurd z (by omega)) id)]
      · rw [if_neg q]
    rw [top]
    unfold own_f3_17 own_f3_18
    rw [if_pos rfl]
    unfold own_f3_30
    by_cases hc : c = 0
    · rw [if_pos (Int32.toInt_inj.mp (by omega))]
    · rw [if_neg (fun z => by rw [z] at h1; omega)]
      exact own_pbad c _ i1 i2 0 i1 0 i1 n A fr 0 h1 (by omega) (by omega) (by decide +kernel) (by omega : c < (i2.toInt - i1.toInt).toNat + 1) (bad.elim (fun z => absurd z hc) id)
  · have e1 := own_inc i1 (by omega)
    unfold own_f3_0
    rw [if_pos (by rw [Int32.lt_iff_toInt_lt]; omega), ei, if_pos hA]
    unfold own_f3_18
    rw [if_neg (by decide +kernel)]
    unfold own_f3_30
    by_cases hc : c = 0
    · rw [if_pos (Int32.toInt_inj.mp (by omega))]
    · rw [if_neg (fun z => by rw [z] at e1; omega)]
      exact own_pbad c _ i1 i2 1 (i1 + 1) 0 (i1 + 1) n A (fr + 1) 0 (by omega) (by omega) (by omega) (by decide +kernel) (by omega : c < (i2.toInt - (i1 + (1 : Int32)).toInt).toNat + 1) (bad.elim (fun z => absurd z hc) id)
theorem own_b8 (x : Int32) : x.toInt8.toInt32.toInt8.toInt32 = x.toInt8.toInt32 := by
  have u := c_i2b x
  have w := c_i2b x.toInt8.toInt32
  apply Int32.toInt_inj.mp
  omega
theorem own_abs (j0 : Int64) : (own_f2_0 (j0 / (10 : Int64))).toInt = ((j0.toInt.natAbs / 10 : Nat) : Int) := by
  have l0 : (0 : Int64).toInt = 0 := by decide +kernel
  have e := own_div10 j0
  have r := rng64 j0
  have g := c_lneg (j0 / (10 : Int64))
  have gr := rng64 (-(j0 / (10 : Int64)))
  unfold own_f2_0
  by_cases q : (j0 / (10 : Int64)) < (0 : Int64)
  · rw [if_pos q]
    rw [Int64.lt_iff_toInt_lt, l0] at q
    omega
  · rw [if_neg q]
    rw [Int64.lt_iff_toInt_lt, l0] at q
    omega
/-- behind the stores: mode by mode -/
theorem own_220 (j0 : Int64) (i2 i3 i4 i8 i9 : Int32) (j10 : Int64) (i12 i13 i14 i15 i16 i17 n : Int32) (C : Nat → Int32) (m d z e fr : Nat)
    (hm : m ≤ 9223372036854775808) (d1 : 1 ≤ d) (d19 : d ≤ 19) (d3 : m < 10 ^ d) (d4 : m ≠ 0 → 10 ^ (d - 1) ≤ m) (d5 : m = 0 → d = 1)
    (he : (e = 0 ∧ i9 = 0) ∨ (e = 1 ∧ i9 = 1)) (h10 : j10.toInt = ((m / 10 : Nat) : Int)) (h12 : i12.toInt = z) (hz : z ≤ 3) (h13 : 0 ≤ i13.toInt ∧ i13.toInt ≤ 3) (h15 : i15.toInt = fr) (hfr : fr + e + z + d = 24)
    (hs : e = 1 → C fr = 45)
    (hC : (i17 = 0 ∧ ∀ j, fr + e ≤ j → j < 23 → (C j).toInt = 48 + ((m / 10 ^ (23 - j) % 10 : Nat) : Int)) ∨ (i17 = 1 ∧ i13 = 0 ∧ fr + e + 20 ≤ 24 ∧ 49 ≤ (C (fr + e)).toInt)) :
    own_f0_220 j0 i2 i3 i4 (-9223372036854775808 : Int64) i8 i9 j10 i12 i13 i14 i15 i16 i17 n C = 1 := by
  have l0 : (0 : Int32).toInt = 0 := by decide +kernel
  have l1 : (1 : Int32).toInt = 1 := by decide +kernel
  have l2 : (2 : Int32).toInt = 2 := by decide +kernel
  have l3 : (3 : Int32).toInt = 3 := by decide +kernel
  have l7 : (7 : Int32).toInt = 7 := by decide +kernel
  have l23 : (23 : Int32).toInt = 23 := by decide +kernel
  have l24 : (24 : Int32).toInt = 24 := by decide +kernel
  have l45 : (45 : Int32).toInt = 45 := by decide +kernel
  have l48 : (48 : Int32).toInt = 48 := by decide +kernel
  have l57 : (57 : Int32).toInt = 57 := by decide +kernel
  have k0 : (0 : Int64).toInt = 0 := by decide +kernel
  have k10 : (10 : Int64).toInt = 10 := by decide +kernel
  have kq : (922337203685477580 : Int64).toInt = 922337203685477580 := by decide +kernel
  have km : (-9223372036854775808 : Int64).toInt = -9223372036854775808 := by decide +kernel
  have x23 : (23 : Int32).toNatClampNeg = 23 := by decide +kernel
  have dc := own_dec i15 (by omega)
  have xf : (i15 - (1 : Int32)).toNatClampNeg = fr - 1 := by show (i15 - (1 : Int32)).toInt.toNat = fr - 1; omega
  have e1 : e ≤ 1 := by rcases he with q | q <;> omega
  unfold own_f0_220
  rw [x23, xf, own_b8 i2, own_b8 i4]
  have hE : ∃ E : Nat → Int32, E = own_up (own_up C 23 i2.toInt8.toInt32) (fr - 1) i4.toInt8.toInt32 ∧ E 23 = i2.toInt8.toInt32 ∧ ∀ j, fr ≤ j → j < 23 → E j = C j := by
    refine ⟨_, rfl, ?_, fun j p1 p2 => ?_⟩
    · rw [own_up_miss _ _ _ (by omega), own_up_hit]
    · rw [own_up_miss _ _ _ (by omega), own_up_miss _ _ _ (by omega)]
  obtain ⟨E, eE, E23, EC⟩ := hE
  rw [← eE]
  have fin : ∀ (x y : Int32) (v : Int64), own_f3_0 x y n E = v → own_f0_433 j0 i2 i3 i4 (-9223372036854775808 : Int64) i8 i9 j10 i12 i13 i14 i15 i16 i17 x y v n E = 1 := fun x y v q => by
    unfold own_f0_433
    rw [if_pos q]
  have sgn : fr < 23 → ((e = 0 ∧ ¬ E fr = 45) ∨ (e = 1 ∧ E fr = 45)) := fun q => by
    rcases he with ⟨he, -⟩ | ⟨he, -⟩
    · refine Or.inl ⟨he, fun w => ?_⟩
      rw [EC fr (Nat.le_refl _) q] at w
      rcases hC with ⟨-, hC⟩ | ⟨-, -, -, hC⟩
      · have := hC fr (by omega) q
        rw [w, l45] at this
        omega
      · rw [show fr + e = fr by omega, w, l45] at hC
        omega
    · exact Or.inr ⟨he, by rw [EC fr (Nat.le_refl _) q]; exact hs he⟩
  have efr : e = 1 → fr < 23 := fun q => by omega
  -- the digits ahead of the last one
  have dig : i17 = 0 → own_h E (fr + e) (23 - (fr + e)) 0 = m / 10 ∧ own_ok E (fr + e) (23 - (fr + e)) := fun q => by
    have hC' : ∀ j, fr + e ≤ j → j < 23 → (C j).toInt = 48 + ((m / 10 ^ (23 - j) % 10 : Nat) : Int) := by
      rcases hC with ⟨-, hC⟩ | ⟨w, -⟩
      · exact hC
      · rw [w] at q; exact absurd q (by decide +kernel)
    refine ⟨?_, fun j p1 p2 => ?_⟩
    · have g := own_hdig E (23 - (fr + e)) (fr + e) (m / 10) fun j p1 p2 => by
        rw [EC j (by omega) (by omega), hC' j p1 (by omega)]
        have u : m / 10 ^ (23 - j) = m / 10 / 10 ^ (fr + e + (23 - (fr + e)) - 1 - j) := by
          rw [Nat.div_div_eq_div_mul, show 23 - j = (fr + e + (23 - (fr + e)) - 1 - j) + 1 by omega, Nat.pow_succ, Nat.mul_comm]
        rw [u]
      have b : m / 10 / 10 ^ (23 - (fr + e)) = 0 := by
        apply Nat.div_eq_of_lt
        have a1 : (10 : Nat) ^ (d - 1) ≤ 10 ^ (23 - (fr + e)) := Nat.pow_le_pow_right (by decide +kernel) (by omega)
        have a2 : (10 : Nat) ^ d = 10 ^ (d - 1) * 10 := by rw [← Nat.pow_succ, show (d - 1).succ = d by omega]
        omega
      rwa [b] at g
    · rw [EC j (by omega) (by omega), hC' j p1 (by omega)]
      omega
  by_cases c1 : i13 = 1
  · -- the last place left out
    have n17 : i17 = 0 := by
      rcases hC with ⟨q, -⟩ | ⟨-, q, -⟩
      · exact q
      · rw [q] at c1; exact absurd c1 (by decide +kernel)
    obtain ⟨hd, hok⟩ := dig n17
    rw [if_pos c1]
    unfold own_f0_285
    rw [if_pos (by rw [c1]; decide +kernel), if_pos c1]
    by_cases cz : 23 - (fr + e) = 0
    · have hd1 : d = 1 := by omega
      have hz0 : z = 0 := by omega
      have m10 : m / 10 = 0 := by rw [hd1] at d3; omega
      rw [if_pos (Int64.toInt_inj.mp (by rw [h10, m10, k0]; rfl)), if_pos (Int32.toInt_inj.mp (by rw [h12, hz0, l0]; rfl))]
      unfold own_f0_334
      refine fin _ _ _ (own_pall_bad i15 23 n E fr e 0 h15 (by omega) (by omega) ?_ (Or.inl rfl))
      rcases he with ⟨he', -⟩ | ⟨he', -⟩
      · exact Or.inl ⟨he', Or.inl rfl⟩
      · rcases sgn (efr he') with w | w
        · exact absurd w.1 (by omega)
        · exact Or.inr w
    · have good := own_pall_good i15 23 n E fr e (23 - (fr + e)) h15 (by omega) (by omega) (by omega) (sgn (by omega)) hok (by rw [hd]; omega)
      rw [hd] at good
      have go : own_f0_321 j0 i2 i3 i4 (-9223372036854775808 : Int64) i8 i9 j10 i12 i13 i14 i15 i16 i17 i15 23 n E = 1 := by
        unfold own_f0_321
        rcases he with ⟨he', h9⟩ | ⟨he', h9⟩
        · rw [if_pos h9]
          unfold own_f0_334
          rw [if_pos he'] at good
          exact fin _ _ _ (Int64.toInt_inj.mp (by rw [good, h10]))
        · rw [if_neg (by rw [h9]; decide +kernel)]
          unfold own_f0_334
          rw [if_neg (by omega)] at good
          have g := c_lneg j10
          have gr := rng64 (-j10)
          exact fin _ _ _ (Int64.toInt_inj.mp (by rw [good]; omega))
      by_cases q0 : j10 = 0
      · rw [if_pos q0]
        have m10 : m / 10 = 0 := by rw [q0, k0] at h10; omega
        have hd1 : d = 1 := by
          by_cases mz : m = 0
          · exact d5 mz
          · have := d4 mz
            refine Nat.le_antisymm (Nat.le_of_not_lt fun w => ?_) d1
            have a : (10 : Nat) ^ 1 ≤ 10 ^ (d - 1) := Nat.pow_le_pow_right (by decide +kernel) (by omega)
            omega
        rw [if_neg (fun w => by rw [w, l0] at h12; omega)]
        exact go
      · rw [if_neg q0]
        exact go
  rw [if_neg c1]
  have c1' : ¬ i13.toInt = 1 := fun q => c1 (Int32.toInt_inj.mp (by rw [q, l1]))
  have l5 : i13 < 2 → ¬ i13 = 0 → False := fun q w => by
    rw [Int32.lt_iff_toInt_lt, l2] at q
    exact w (Int32.toInt_inj.mp (by rw [l0]; omega))
  by_cases c2 : i13 = 2
  · rw [if_pos c2]
    unfold own_f0_285
    rw [if_neg (by rw [c2]; decide +kernel)]
    exact fin _ _ _ (own_pall_bad i15 i15 n E fr 0 0 h15 (by omega) (by omega) (Or.inl ⟨rfl, Or.inl rfl⟩) (Or.inl rfl))
  rw [if_neg c2]
  by_cases c3 : i13 = 3
  · rw [if_pos c3]
    unfold own_f0_285
    rw [if_neg (by rw [c3]; decide +kernel)]
    exact fin _ _ _ (own_pall_bad 24 24 n E 24 0 0 l24 (by omega) (by omega) (Or.inl ⟨rfl, Or.inl rfl⟩) (Or.inl rfl))
  rw [if_neg c3]
  have c2' : ¬ i13.toInt = 2 := fun q => c2 (Int32.toInt_inj.mp (by rw [q, l2]))
  have c3' : ¬ i13.toInt = 3 := fun q => c3 (Int32.toInt_inj.mp (by rw [q, l3]))
  unfold own_f0_285
  rw [if_pos (by rw [Int32.lt_iff_toInt_lt]; omega), if_neg c1]
  by_cases n17 : i17 = 0
  · rw [if_pos n17]
    obtain ⟨hd, hok⟩ := dig n17
    have app : own_h E (fr + e) (24 - (fr + e)) 0 = m / 10 * 10 + (i2.toInt8.toInt32.toInt - 48).toNat := by
      rw [show 24 - (fr + e) = (23 - (fr + e)) + 1 by omega, own_h_app, hd, own_hs, own_h0, show fr + e + (23 - (fr + e)) = 23 by omega, E23]
    have rc := c_i2b i2
    have bad : ¬ (48 ≤ i2.toInt8.toInt32.toInt ∧ i2.toInt8.toInt32.toInt ≤ 57) → own_f3_0 i15 24 n E = (-9223372036854775808 : Int64) := fun w => by
      by_cases q : fr < 23
      · refine own_pall_bad i15 24 n E fr e (24 - (fr + e)) h15 (by omega) (by omega) ?_ (Or.inr fun v => w (by rw [← E23]; exact v.1 23 (by omega) (by omega)))
        rcases sgn q with u | u
        · exact Or.inl ⟨u.1, Or.inr u.2⟩
        · exact Or.inr u
      · have fe : fr = 23 ∧ e = 0 := by omega
        obtain ⟨f23, e0⟩ := fe
        by_cases u : E 23 = 45
        · exact own_pall_bad i15 24 n E 23 1 0 (by omega) (by omega) (by omega) (Or.inr ⟨rfl, u⟩) (Or.inl rfl)
        · refine own_pall_bad i15 24 n E 23 0 1 (by omega) (by omega) (by omega) (Or.inl ⟨rfl, Or.inr u⟩) (Or.inr fun v => w (by rw [← E23]; exact v.1 23 (by omega) (by omega)))
    by_cases cl : i2.toInt8.toInt32 < (48 : Int32)
    · rw [if_pos cl]
      rw [Int32.lt_iff_toInt_lt] at cl
      unfold own_f0_369
      exact fin _ _ _ (bad (by omega))
    rw [if_neg cl]
    by_cases ch : (57 : Int32) < i2.toInt8.toInt32
    · rw [if_pos ch]
      rw [Int32.lt_iff_toInt_lt] at ch
      unfold own_f0_369
      exact fin _ _ _ (bad (by omega))
    rw [if_neg ch]
    rw [Int32.lt_iff_toInt_lt] at cl ch
    have n45 : ¬ E 23 = 45 := fun w => by rw [E23] at w; rw [w, l45] at cl; omega
    have sg : (e = 0 ∧ ¬ E fr = 45) ∨ (e = 1 ∧ E fr = 45) := by
      by_cases q : fr < 23
      · exact sgn q
      · have fe : fr = 23 ∧ e = 0 := by omega
        rw [fe.1]
        exact Or.inl ⟨fe.2, n45⟩
    have okk : own_ok E (fr + e) (24 - (fr + e)) := fun j p1 p2 => by
      by_cases q : j = 23
      · rw [q, E23]; omega
      · exact hok j p1 (by omega)
    have sb := c_isub i2.toInt8.toInt32 48
    have sbr := rng32 (i2.toInt8.toInt32 - 48)
    have sl := c_i2l (i2.toInt8.toInt32 - 48)
    have mu := c_lmul j10 10
    have mur := rng64 (j10 * 10)
    rw [k10] at mu
    have ad := c_ladd (j10 * 10) ((i2.toInt8.toInt32 - 48).toInt64)
    have adr := rng64 (j10 * 10 + (i2.toInt8.toInt32 - 48).toInt64)
    have go : m / 10 * 10 + (i2.toInt8.toInt32.toInt - 48).toNat ≤ 9223372036854775807 → own_f0_399 j0 i2 i3 i4 (-9223372036854775808 : Int64) i8 i9 j10 i12 i13 i14 i15 i16 i17 i15 24 i2.toInt8.toInt32 (i2.toInt8.toInt32 - (48 : Int32)) n E = 1 := fun w => by
      have good := own_pall_good i15 24 n E fr e (24 - (fr + e)) h15 (by omega) (by omega) (by omega) sg okk (by rw [app]; exact w)
      rw [app] at good
      unfold own_f0_399
      rcases he with ⟨he', h9⟩ | ⟨he', h9⟩
      · rw [if_pos h9]
        unfold own_f0_424
        rw [if_pos he'] at good
        exact fin _ _ _ (Int64.toInt_inj.mp (by rw [good]; omega))
      · rw [if_neg (by rw [h9]; decide +kernel)]
        unfold own_f0_424
        rw [if_neg (by omega)] at good
        have g := c_lneg (j10 * 10 + (i2.toInt8.toInt32 - 48).toInt64)
        have gr := rng64 (-(j10 * 10 + (i2.toInt8.toInt32 - 48).toInt64))
        exact fin _ _ _ (Int64.toInt_inj.mp (by rw [good]; omega))
    by_cases cq : j10 < (922337203685477580 : Int64)
    · rw [if_pos cq]
      rw [Int64.lt_iff_toInt_lt] at cq
      exact go (by omega)
    rw [if_neg cq]
    rw [Int64.lt_iff_toInt_lt] at cq
    by_cases c7 : (7 : Int32) < (i2.toInt8.toInt32 - (48 : Int32))
    · rw [if_pos c7]
      rw [Int32.lt_iff_toInt_lt] at c7
      refine fin _ _ _ (own_pall_bad i15 24 n E fr e (24 - (fr + e)) h15 (by omega) (by omega) ?_ (Or.inr fun v => ?_))
      · rcases sg with u | u
        · exact Or.inl ⟨u.1, Or.inr u.2⟩
        · exact Or.inr u
      · have := v.2
        rw [app] at this
        omega
    · rw [if_neg c7]
      rw [Int32.lt_iff_toInt_lt] at c7
      exact go (by omega)
  · rw [if_neg n17]
    rcases hC with ⟨q, -⟩ | ⟨-, -, q1, q2⟩
    · exact absurd q n17
    · refine fin _ _ _ (own_pall_bad i15 24 n E fr e (24 - (fr + e)) h15 (by omega) (by omega) ?_ (Or.inr fun v => ?_))
      · rcases sgn (by omega) with u | u
        · exact Or.inl ⟨u.1, Or.inr u.2⟩
        · exact Or.inr u
      · have w := v.2
        obtain ⟨k, hk⟩ : ∃ k, 24 - (fr + e) = k + 1 := ⟨23 - (fr + e), by omega⟩
        rw [hk, own_hs, EC _ (by omega) (by omega)] at w
        have a := own_h_mul E k (fr + e + 1) (0 * 10 + ((C (fr + e)).toInt - 48).toNat)
        have b : (10 : Nat) ^ 19 ≤ 10 ^ k := Nat.pow_le_pow_right (by decide +kernel) (by omega)
        have c : (10 : Nat) ^ 19 = 10000000000000000000 := by decide +kernel
        have f : 1 * 10 ^ k ≤ (0 * 10 + ((C (fr + e)).toInt - 48).toNat) * 10 ^ k := Nat.mul_le_mul_right _ (by omega)
        omega
theorem own_134 (j0 : Int64) (i2 i3 i4 i8 i9 : Int32) (j10 : Int64) (i12 i13 i14 n : Int32) (B : Nat → Int32) (m d z e fr : Nat)
    (hm : m ≤ 9223372036854775808) (d1 : 1 ≤ d) (d19 : d ≤ 19) (d3 : m < 10 ^ d) (d4 : m ≠ 0 → 10 ^ (d - 1) ≤ m) (d5 : m = 0 → d = 1)
    (he : (e = 0 ∧ i9 = 0) ∨ (e = 1 ∧ i9 = 1)) (h10 : j10.toInt = ((m / 10 : Nat) : Int)) (h12 : i12.toInt = z) (hz : z ≤ 3) (h13 : 0 ≤ i13.toInt ∧ i13.toInt ≤ 3) (h14 : 0 ≤ i14.toInt ∧ i14.toInt ≤ 15) (h8 : i8.toInt = (fr : Int) + z) (hfr : fr + e + z + d = 24)
    (hs : e = 1 → B fr = 45) (hB : ∀ j, fr + e ≤ j → j < 23 → (B j).toInt = 48 + ((m / 10 ^ (23 - j) % 10 : Nat) : Int)) :
    own_f0_134 j0 i2 i3 i4 (-9223372036854775808 : Int64) i8 i9 j10 i12 i13 i14 n B = 1 := by
  have l0 : (0 : Int32).toInt = 0 := by decide +kernel
  have l1 : (1 : Int32).toInt = 1 := by decide +kernel
  have l48 : (48 : Int32).toInt = 48 := by decide +kernel
  have k17 : (100000000000000000 : Int64).toInt = 100000000000000000 := by decide +kernel
  have h15 : (i8 - i12).toInt = (fr : Int) := by rw [own_sub i8 i12 (by omega) (by omega)]; omega
  have plain : ∀ i16, own_f0_189 j0 i2 i3 i4 (-9223372036854775808 : Int64) i8 i9 j10 i12 i13 i14 (i8 - i12) i16 n B = 1 := fun i16 => by
    unfold own_f0_189 own_f0_190
    rw [if_pos rfl]
    exact own_220 j0 i2 i3 i4 i8 i9 j10 i12 i13 i14 (i8 - i12) i16 0 n B m d z e fr hm d1 d19 d3 d4 d5 he h10 h12 hz h13 h15 hfr hs (Or.inl ⟨rfl, hB⟩)
  have all : ∀ u0 : Int32, (¬ u0 = 0 → 100000000000000000 ≤ m / 10) → own_f0_155 j0 i2 i3 i4 (-9223372036854775808 : Int64) i8 i9 j10 i12 i13 i14 (i8 - i12) u0 n B = 1 := fun u0 hu => by
    unfold own_f0_155
    by_cases a1 : i13 = 0
    · rw [if_pos a1]
      by_cases a2 : (0 : Int32) < i12
      · rw [if_pos a2]
        by_cases a3 : i14 < (1 : Int32)
        · rw [if_pos a3]; exact plain _
        · rw [if_neg a3]
          by_cases a4 : (9 : Int32) < i14
          · rw [if_pos a4]; exact plain _
          · rw [if_neg a4]
            by_cases a5 : u0 = 0
            · rw [if_pos a5]; exact plain _
            · rw [if_neg a5]
              have big := hu a5
              have hd : d = 19 := by
                refine Nat.le_antisymm d19 (Nat.le_of_not_lt fun q => ?_)
                have a : (10 : Nat) ^ d ≤ 10 ^ 18 := Nat.pow_le_pow_right (by decide +kernel) (by omega)
                have b : (10 : Nat) ^ 18 = 1000000000000000000 := by decide +kernel
                omega
              rw [Int32.lt_iff_toInt_lt] at a2 a3
              have t1 := c_iadd 48 i14
              have t2 := rng32 ((48 : Int32) + i14)
              rw [l48] at t1
              have t3 := c_i2b ((48 : Int32) + i14)
              unfold own_f0_190
              rw [if_neg (by decide +kernel)]
              have top : ∀ x : Int32, x.toNatClampNeg = fr + e → own_f0_213 j0 i2 i3 i4 (-9223372036854775808 : Int64) i8 i9 j10 i12 i13 i14 (i8 - i12) u0 1 x n B = 1 := fun x hx => by
                unfold own_f0_213
                rw [hx, own_b8]
                refine own_220 j0 i2 i3 i4 i8 i9 j10 i12 i13 i14 (i8 - i12) u0 1 n _ m d z e fr hm d1 d19 d3 d4 d5 he h10 h12 hz h13 h15 hfr (fun q => ?_) (Or.inr ⟨rfl, a1, by omega, ?_⟩)
                · rw [own_up_miss _ _ _ (by omega)]; exact hs q
                · rw [own_up_hit]; omega
              rcases he with ⟨e0, h9⟩ | ⟨e0, h9⟩
              · rw [if_pos h9]
                exact top _ (by show (i8 - i12).toInt.toNat = fr + e; omega)
              · rw [if_neg (by rw [h9]; decide +kernel)]
                have u := own_inc (i8 - i12) (by omega)
                exact top _ (by show (i8 - i12 + (1 : Int32)).toInt.toNat = fr + e; omega)
      · rw [if_neg a2]; exact plain _
    · rw [if_neg a1]; exact plain _
  unfold own_f0_134
  by_cases q : j10 < (100000000000000000 : Int64)
  · rw [if_pos q]; exact all _ (fun w => absurd rfl w)
  · rw [if_neg q]
    rw [Int64.lt_iff_toInt_lt] at q
    exact all _ (fun _ => by omega)
theorem own_107 (j0 : Int64) (i2 i3 i4 i8 i9 : Int32) (j10 : Int64) (i12 i13 i14 n : Int32) (A1 : Nat → Int32) (m d z e s : Nat)
    (hm : m ≤ 9223372036854775808) (d1 : 1 ≤ d) (d19 : d ≤ 19) (d3 : m < 10 ^ d) (d4 : m ≠ 0 → 10 ^ (d - 1) ≤ m) (d5 : m = 0 → d = 1)
    (he : (e = 0 ∧ i9 = 0) ∨ (e = 1 ∧ i9 = 1)) (h10 : j10.toInt = ((m / 10 : Nat) : Int)) (h12 : i12.toInt = z) (hz : z ≤ 3) (h13 : 0 ≤ i13.toInt ∧ i13.toInt ≤ 3) (h14 : 0 ≤ i14.toInt ∧ i14.toInt ≤ 15) (h8 : i8.toInt = (s : Int)) (hs : s + e + d = 24)
    (hsg : e = 1 → A1 s = 45) (hzr : ∀ j, s - z ≤ j → j < s → A1 j = 48) (hdg : ∀ j, 24 - d ≤ j → j < 24 → (A1 j).toInt = 48 + ((m / 10 ^ (23 - j) % 10 : Nat) : Int)) :
    own_f0_107 j0 i2 i3 i4 (-9223372036854775808 : Int64) i8 i9 j10 i12 i13 i14 n A1 = 1 := by
  have l0 : (0 : Int32).toInt = 0 := by decide +kernel
  have l48 : (48 : Int32).toInt = 48 := by decide +kernel
  have b48 : (48 : Int32).toInt8.toInt32 = 48 := by decide +kernel
  have b45 : (45 : Int32).toInt8.toInt32 = 45 := by decide +kernel
  -- a zero ahead of the number's first digit
  have lead : ∀ j, j < 24 - d → 48 + ((m / 10 ^ (23 - j) % 10 : Nat) : Int) = 48 := fun j q => by
    have a : (10 : Nat) ^ d ≤ 10 ^ (23 - j) := Nat.pow_le_pow_right (by decide +kernel) (by omega)
    rw [Nat.div_eq_of_lt (by omega)]
    rfl
  unfold own_f0_107
  rcases he with ⟨e0, h9⟩ | ⟨e0, h9⟩
  · rw [if_pos h9]
    refine own_134 j0 i2 i3 i4 i8 i9 j10 i12 i13 i14 n A1 m d z 0 (s - z) hm d1 d19 d3 d4 d5 (Or.inl ⟨rfl, h9⟩) h10 h12 hz h13 h14 (by omega) (by omega) (fun q => absurd q (by decide +kernel)) fun j p1 p2 => ?_
    by_cases q : 24 - d ≤ j
    · exact hdg j q (by omega)
    · rw [hzr j (by omega) (by omega), l48, lead j (by omega)]
  · rw [if_neg (by rw [h9]; decide +kernel)]
    by_cases zp : (0 : Int32) < i12
    · rw [if_pos zp]
      rw [Int32.lt_iff_toInt_lt] at zp
      have x1 : i8.toNatClampNeg = s := by show i8.toInt.toNat = s; omega
      have x2 : (i8 - i12).toNatClampNeg = s - z := by show (i8 - i12).toInt.toNat = s - z; rw [own_sub i8 i12 (by omega) (by omega)]; omega
      rw [x1, x2, b48, b45]
      refine own_134 j0 i2 i3 i4 i8 i9 j10 i12 i13 i14 n _ m d z 1 (s - z) hm d1 d19 d3 d4 d5 (Or.inr ⟨rfl, h9⟩) h10 h12 hz h13 h14 (by omega) (by omega) (fun _ => own_up_hit _ _ _) fun j p1 p2 => ?_
      rw [own_up_miss _ _ _ (by omega)]
      by_cases q : 24 - d ≤ j
      · rw [own_up_miss _ _ _ (by omega)]
        exact hdg j q (by omega)
      · rw [lead j (by omega)]
        by_cases w : j = s
        · rw [w, own_up_hit, l48]
        · rw [own_up_miss _ _ _ w, hzr j (by omega) (by omega), l48]
    · rw [if_neg zp]
      rw [Int32.lt_iff_toInt_lt] at zp
      refine own_134 j0 i2 i3 i4 i8 i9 j10 i12 i13 i14 n A1 m d z 1 s hm d1 d19 d3 d4 d5 (Or.inr ⟨rfl, h9⟩) h10 h12 hz h13 h14 (by omega) (by omega) (fun _ => hsg e0) fun j p1 p2 => hdg j (by omega) (by omega)
theorem own_30 (j0 : Int64) (i2 i3 i4 i8 i9 n : Int32) (A0 : Nat → Int32) (d e s : Nat)
    (d1 : 1 ≤ d) (d19 : d ≤ 19) (d3 : j0.toInt.natAbs < 10 ^ d) (d4 : j0.toInt.natAbs ≠ 0 → 10 ^ (d - 1) ≤ j0.toInt.natAbs) (d5 : j0.toInt.natAbs = 0 → d = 1)
    (he : (e = 0 ∧ i9 = 0) ∨ (e = 1 ∧ i9 = 1)) (h8 : i8.toInt = (s : Int)) (hs : s + e + d = 24)
    (hsg : e = 1 → A0 s = 45) (hdg : ∀ j, 24 - d ≤ j → j < 24 → (A0 j).toInt = 48 + ((j0.toInt.natAbs / 10 ^ (23 - j) % 10 : Nat) : Int)) :
    own_f0_30 j0 i2 i3 i4 (-9223372036854775808 : Int64) i8 i9 n A0 = 1 := by
  have l1 : (1 : Int32).toInt = 1 := by decide +kernel
  have l2 : (2 : Int32).toInt = 2 := by decide +kernel
  have l3 : (3 : Int32).toInt = 3 := by decide +kernel
  have b48 : (48 : Int32).toInt8.toInt32 = 48 := by decide +kernel
  have r := rng64 j0
  have h10 := own_abs j0
  have z3 := own_z3 i3
  have m3 := own_z3 ((i3.toUInt32 >>> ((2 : Int32) &&& 31).toUInt32).toInt32)
  have m15 := c_mask ((i3.toUInt32 >>> ((4 : Int32) &&& 31).toUInt32).toInt32) 15 4 (by decide +kernel) (by decide +kernel)
  unfold own_f0_30
  generalize ((i3.toUInt32 >>> ((2 : Int32) &&& 31).toUInt32).toInt32) &&& (3 : Int32) = i13 at *
  generalize ((i3.toUInt32 >>> ((4 : Int32) &&& 31).toUInt32).toInt32) &&& (15 : Int32) = i14 at *
  generalize (i3 &&& (3 : Int32)) = i12 at *
  generalize own_f2_0 (j0 / (10 : Int64)) = j10 at *
  have e1 : e ≤ 1 := by rcases he with q | q <;> omega
  obtain ⟨z, hz⟩ : ∃ z : Nat, i12.toInt = z := ⟨i12.toInt.toNat, by omega⟩
  have x1 : (i8 - (1 : Int32)).toNatClampNeg = s - 1 := by show (i8 - (1 : Int32)).toInt.toNat = s - 1; rw [own_sub i8 1 (by omega) (by omega)]; omega
  have x2 : (i8 - (2 : Int32)).toNatClampNeg = s - 2 := by show (i8 - (2 : Int32)).toInt.toNat = s - 2; rw [own_sub i8 2 (by omega) (by omega)]; omega
  have x3 : (i8 - (3 : Int32)).toNatClampNeg = s - 3 := by show (i8 - (3 : Int32)).toInt.toNat = s - 3; rw [own_sub i8 3 (by omega) (by omega)]; omega
  have go : ∀ A1 : Nat → Int32, (∀ j, s - z ≤ j → j < s → A1 j = 48) → (∀ j, s ≤ j → A1 j = A0 j) → own_f0_107 j0 i2 i3 i4 (-9223372036854775808 : Int64) i8 i9 j10 i12 i13 i14 n A1 = 1 := fun A1 q1 q2 =>
    own_107 j0 i2 i3 i4 i8 i9 j10 i12 i13 i14 n A1 j0.toInt.natAbs d z e s (by omega) d1 d19 d3 d4 d5 he h10 hz (by omega) m3 (by omega) h8 hs (fun q => by rw [q2 s (Nat.le_refl _)]; exact hsg q) q1 fun j p1 p2 => by rw [q2 j (by omega)]; exact hdg j p1 p2
  have t1 : i12 < (1 : Int32) ↔ z < 1 := by rw [Int32.lt_iff_toInt_lt]; omega
  have t2 : i12 < (2 : Int32) ↔ z < 2 := by rw [Int32.lt_iff_toInt_lt]; omega
  have t3 : i12 < (3 : Int32) ↔ z < 3 := by rw [Int32.lt_iff_toInt_lt]; omega
  rw [x1, b48]
  by_cases c1 : z < 1
  · rw [if_pos (t1.mpr c1)]
    unfold own_f0_77
    rw [if_pos (t2.mpr (by omega))]
    unfold own_f0_92
    rw [if_pos (t3.mpr (by omega))]
    exact go _ (fun j p1 p2 => absurd p1 (by omega)) (fun j _ => rfl)
  · rw [if_neg (fun q => c1 (t1.mp q))]
    unfold own_f0_77
    rw [x2, b48]
    by_cases c2 : z < 2
    · rw [if_pos (t2.mpr c2)]
      unfold own_f0_92
      rw [if_pos (t3.mpr (by omega))]
      refine go _ (fun j p1 p2 => ?_) (fun j p => ?_)
      · rw [show j = s - 1 by omega, own_up_hit]
      · rw [own_up_miss _ _ _ (by omega)]
    · rw [if_neg (fun q => c2 (t2.mp q))]
      unfold own_f0_92
      rw [x3, b48]
      by_cases c3 : z < 3
      · rw [if_pos (t3.mpr c3)]
        refine go _ (fun j p1 p2 => ?_) (fun j p => ?_)
        · by_cases w : j = s - 2
          · rw [w, own_up_hit]
          · rw [own_up_miss _ _ _ w, show j = s - 1 by omega, own_up_hit]
        · rw [own_up_miss _ _ _ (by omega), own_up_miss _ _ _ (by omega)]
      · rw [if_neg (fun q => c3 (t3.mp q))]
        refine go _ (fun j p1 p2 => ?_) (fun j p => ?_)
        · by_cases w : j = s - 3
          · rw [w, own_up_hit]
          · rw [own_up_miss _ _ _ w]
            by_cases w2 : j = s - 2
            · rw [w2, own_up_hit]
            · rw [own_up_miss _ _ _ w2, show j = s - 1 by omega, own_up_hit]
        · rw [own_up_miss _ _ _ (by omega), own_up_miss _ _ _ (by omega), own_up_miss _ _ _ (by omega)]
theorem own_law (j0 : Int64) (i2 : Int32) (i3 : Int32) (i4 : Int32) : own_f0_0 j0 i2 i3 i4 = 1 := by
  have l24 : (24 : Int32).toInt = ((24 : Nat) : Int) := by decide +kernel
  have r := rng64 j0
  obtain ⟨d, d1, d2, d3, d4, d5, d6, d7, d8, d9⟩ := own_fmt0 j0 24 (fun _ => 0) 24 l24 (by decide +kernel)
  have q := own_d19 (by omega) d5 d4
  have dg : ∀ j, 24 - d ≤ j → j < 24 → (own_o1_A j0 24 (fun _ => 0) j).toInt = 48 + ((j0.toInt.natAbs / 10 ^ (23 - j) % 10 : Nat) : Int) := fun j p1 p2 => by
    rw [d7 j p1 p2, own_ofN]
  unfold own_f0_0
  by_cases hj : j0 < (0 : Int64)
  · rw [if_pos hj]
    rw [if_pos hj] at d6
    exact own_30 j0 i2 i3 i4 _ 1 24 _ d 1 (24 - d - 1) d1 q d3 d4 d5 (Or.inr ⟨rfl, rfl⟩) (by omega) (by omega) (fun _ => d8 hj) dg
  · rw [if_neg hj]
    rw [if_neg hj] at d6
    exact own_30 j0 i2 i3 i4 _ 0 24 _ d 0 (24 - d) d1 q d3 d4 d5 (Or.inl ⟨rfl, rfl⟩) (by omega) (by omega) (fun w => absurd w (by decide +kernel)) dg
set_option maxRecDepth 65536 in
set_option maxHeartbeats 40000000 in
theorem comes_1 {Post : Tables → Env → Array Value → State → Outcome → State → Prop} (hpost : ∀ tb e args s v u, (limb_1_1.after args s (.returned v) u = true ∧ limb_1_2.after args s (.returned v) u = true ∧ True) → FrameEnd s (.returned v) u (Jvm.fieldLocs frame_1_writes args s ++ Jvm.arrayLocs frame_1_arrays args s ++ Jvm.staticLocs frame_1_statics s) 16 128 → Post tb e args s (.returned v) u) :
    ArmFor flags0 classFile x code maxLocals ret World_1 tables_1 room_1 Calls_1 rest_1 Pre_1 Post := by
  intro l hfl _ _ p e ha hc hk s m args below hf hA hF happ hP
  obtain ⟨hcalls, hrest, hpre⟩ := hP
  obtain ⟨-, -, -, hnamed, -, -, -, hat⟩ := (Spec.applies_iff hf).mp happ
  obtain ⟨hg, hn⟩ := and_e (Cond.before_iff.mp (show (Jvm.Cond.and given_1 narrow_1).before args s = true from hpre))
  obtain ⟨hcount, hg⟩ := and_e hg
  obtain ⟨g0, hg⟩ := and_e hg
  obtain ⟨g1, hg⟩ := and_e hg
  obtain ⟨g2, hg⟩ := and_e hg
  have g3 := hg
  obtain ⟨w0, w1, w2, w3, rfl⟩ : ∃ w0 w1 w2 w3 : Value, args = #[w0, w1, w2, w3] := by
    have hs : args.size = 4 := by simpa [Cond.value, given_1] using hcount
    obtain ⟨L⟩ := args
    match L, hs with
    | [w0, w1, w2, w3], _ => exact ⟨w0, w1, w2, w3, rfl⟩
  have hw := fun d (hd : d ∈ tables_1) => atoms_spec (ws := Jvm.Cond.code x code maxLocals ret :: tables_1) hat d (List.mem_cons_of_mem _ hd)
  obtain ⟨i0, ei0⟩ := isL_v g0
  obtain rfl : w0 = (.long i0) := Option.some.inj ei0
  obtain ⟨i1, ei1⟩ := is_v g1
  obtain rfl : w1 = (.int i1) := Option.some.inj ei1
  obtain ⟨i2, ei2⟩ := is_v g2
  obtain rfl : w2 = (.int i2) := Option.some.inj ei2
  obtain ⟨i3, ei3⟩ := is_v g3
  obtain rfl : w3 = (.int i3) := Option.some.inj ei3
  obtain ⟨n, o, h1, h2, h3, _, L, rfl, ⟨rfl, N⟩, hq⟩ := rm0 l s _ hw tables_1 i0 i1 i2 i3 s.heap s.heap.size (Nat.le_refl _) p e ha hc hk s m _ below hf ((Spec.applies_iff_loose hf).mp happ).1 ⟨rfl, State.Warmed39.refl s, rfl⟩ trivial
  rw [own_law i0 i1 i2 i3] at h3 hq
  refine ⟨n, _, h1, h2, h3, hpost _ _ _ _ _ _ ⟨Cond.after_iff.mpr rfl, Cond.after_iff.mpr (eq_i res_at (Term.int_eval (1)) rfl), trivial⟩ ⟨hq.1, hq.2.1, (hq.2.2.sift fun y hy => Or.inr (N y hy)).mono (by decide) (by decide)⟩⟩
theorem main_1_1 : Claimed_1_1 := comes_1 fun _ _ _ _ _ _ h hF => ⟨h.1, hF⟩
theorem main_1_2 : Claimed_1_2 := comes_1 fun _ _ _ _ _ _ h hF => ⟨h.2.1, hF⟩
end Jvm.Pilot.@@N@@
namespace Jvm.Pilot.@@N@@
open Jvm Jvm.ClassFile Sem Op Lib Jvm.Free Jvm.Stand Jvm.Pilot.@@N@@.Jvm.D
/-! MADE BY PROGRAM (witnessworld.py) out of the Statement's table words and the real class files: 10 classes; the members and pool entries that the words name. The judged class is class 1, her method 1. -/
namespace start1
open Jvm.ClassFile
def u (s : String) : CpInfo := .utf8 (stringToUtf16 s)
/-- a pool by its gaps: so many unusable entries, then the entry; so many at the end -/
def gap : Nat → List CpInfo → List CpInfo
  | 0, r => r
  | n + 1, r => .unusable :: gap n r
def poolList (es : List (Nat × CpInfo)) (last : Nat) : List CpInfo := es.foldr (fun e r => gap e.1 (e.2 :: r)) (gap last [])
def pool (es : List (Nat × CpInfo)) (last : Nat) : Array CpInfo := ⟨poolList es last⟩
def fileOf (pool : Array CpInfo) (this : Nat) (attrs : Array Attribute := #[]) (ms : Array MethodInfo := #[]) (fl : Nat := 33) (sup : Nat := 0) (ifs : Array Nat := #[]) (fds : Array FieldInfo := #[]) : ClassFile where
  minorVersion := 0
  majorVersion := 65
  constantPool := pool
  accessFlags := fl
  thisClass := this
  superClass := sup
  interfaces := ifs
  fields := fds
  methods := ms
  attributes := attrs
def plain (name : String) (sup : Option ClassId) : Class where
  name := name
  kind := .ordinary
  loader := none
  accessFlags := 33
  super := sup
  interfaces := #[]
  cf := none
  fields := #[]
  methods := #[]
  instanceTypes := #[]
  staticTypes := #[]
  resolved := #[]
  callSites := []
  init := .initialized
  statics := none
  mirror := none

def pool0 : Array CpInfo := pool [(5, u "<init>"), (0, u "()V"), (1, .class_ 10), (1, u "java/lang/Object")] 113

def k0m0 : Method := { name := "<init>", desc := "()V", sig := { parameters := [], returnType := none }, accessFlags := 1, code := none }
/-- java/lang/Object -/
def k0 : Class := { plain "java/lang/Object" none with
  accessFlags := 33
  interfaces := #[]
  cf := some (fileOf pool0 8 #[] #[{ accessFlags := 1, nameIndex := 5, descriptorIndex := 6, attributes := #[] }] 33 0 #[] #[])
  fields := #[]
  methods := #[k0m0]
  instanceTypes := #[]
  staticTypes := #[]
  resolved := Array.replicate 124 none
  statics := none }

def pool1 : Array CpInfo := pool [(2, .class_ 4), (1, u "java/lang/Object"), (0, u "<init>"), (0, u "()V"), (2, .long 9223372036854775808), (1, .methodref 12 13), (0, .class_ 14), (0, .nameAndType 15 16), (0, u "com/example/rollcalldb/rollcalldb/resp/Decimal"), (0, u "format"), (0, u "(J[B)I"), (0, .long 10), (1, .methodref 20 21), (0, .class_ 22), (0, .nameAndType 23 24), (0, u "java/lang/Math"), (0, u "abs"), (0, u "(J)J"), (0, .long 100000000000000000), (1, .long 922337203685477580), (1, .methodref 12 30), (0, .nameAndType 31 32), (0, u "parse"), (0, u "([BII)J"), (0, .class_ 34), (0, u "com/example/rollcalldb/rollcalldb/resp/DecimalParsePinLaw"), (2, u "law"), (0, u "(JIII)Z")] 5

def k1m0 : Method := { name := "<init>", desc := "()V", sig := { parameters := [], returnType := none }, accessFlags := 1, code := none }
def k1c1 : Code := { maxStack := 4, maxLocals := 26, code := code, exceptionTable := #[], attributes := #[] }
def k1m1 : Method := { name := "law", desc := "(JIII)Z", sig := { parameters := [.long, .int, .int, .int], returnType := some .boolean }, accessFlags := 9, code := some k1c1 }
/-- com/example/rollcalldb/rollcalldb/resp/DecimalParsePinLaw -/
def k1 : Class := { plain "com/example/rollcalldb/rollcalldb/resp/DecimalParsePinLaw" (some 0) with
  accessFlags := 49
  interfaces := #[]
  cf := some (fileOf pool1 33 #[] #[{ accessFlags := 1, nameIndex := 5, descriptorIndex := 6, attributes := #[] }, { accessFlags := 9, nameIndex := 37, descriptorIndex := 38, attributes := #[] }] 49 2 #[] #[])
  fields := #[]
  methods := #[k1m0, k1m1]
  instanceTypes := #[]
  staticTypes := #[]
  resolved := Array.replicate 44 none
  statics := none }

def pool2 : Array CpInfo := pool [(4, .class_ 6), (1, u "java/lang/Object"), (0, u "<init>"), (0, u "()V"), (0, .class_ 10), (0, u "com/example/rollcalldb/rollcalldb/resp/Decimal"), (0, .long 9223372036854775808), (1, .long 9223372036854775807), (1, .long 10), (1, .long 48), (1, u "NOT_A_NUMBER"), (0, u "J"), (1, u "MAX_LENGTH"), (0, u "I"), (3, u "parse"), (0, u "([BII)J"), (1, u "format"), (0, u "(J[B)I")] 2

def k2m0 : Method := { name := "<init>", desc := "()V", sig := { parameters := [], returnType := none }, accessFlags := 2, code := none }
def k2c1 : Code := { maxStack := 6, maxLocals := 9, code := prog_28_method_2_code, exceptionTable := #[], attributes := #[] }
def k2m1 : Method := { name := "parse", desc := "([BII)J", sig := { parameters := [(.array .byte), .int, .int], returnType := some .long }, accessFlags := 8, code := some k2c1 }
def k2c2 : Code := { maxStack := 8, maxLocals := 6, code := prog_28_method_3_code, exceptionTable := #[], attributes := #[] }
def k2m2 : Method := { name := "format", desc := "(J[B)I", sig := { parameters := [.long, (.array .byte)], returnType := some .int }, accessFlags := 8, code := some k2c2 }
/-- com/example/rollcalldb/rollcalldb/resp/Decimal -/
def k2 : Class := { plain "com/example/rollcalldb/rollcalldb/resp/Decimal" (some 0) with
  accessFlags := 32
  interfaces := #[]
  cf := some (fileOf pool2 9 #[] #[{ accessFlags := 2, nameIndex := 7, descriptorIndex := 8, attributes := #[] }, { accessFlags := 8, nameIndex := 27, descriptorIndex := 28, attributes := #[] }, { accessFlags := 8, nameIndex := 30, descriptorIndex := 31, attributes := #[] }] 32 4 #[] #[{ accessFlags := 24, nameIndex := 19, descriptorIndex := 20, attributes := #[] }, { accessFlags := 24, nameIndex := 22, descriptorIndex := 23, attributes := #[] }])
  fields := #[{ name := "NOT_A_NUMBER", type := .long, accessFlags := 24, slot := 0, constantValue := 0 }, { name := "MAX_LENGTH", type := .int, accessFlags := 24, slot := 1, constantValue := 0 }]
  methods := #[k2m0, k2m1, k2m2]
  instanceTypes := #[]
  staticTypes := #[.long, .int]
  resolved := Array.replicate 34 none
  statics := none }

def pool3 : Array CpInfo := pool [(1, .class_ 2), (0, u "java/lang/Math"), (1, .class_ 6), (1, u "java/lang/Object"), (0, u "<init>"), (0, u "()V"), (89, .class_ 100), (1, u "java/lang/Math$RandomNumberGeneratorHolder"), (23, u "abs"), (0, u "(J)J"), (46, u "negativeZeroFloatBits"), (0, u "J"), (2, u "negativeZeroDoubleBits"), (68, u "$assertionsDisabled"), (0, u "Z"), (91, u "twoToTheDoubleScaleDown"), (0, u "D"), (4, u "twoToTheDoubleScaleUp"), (9, u "E"), (3, u "PI"), (2, u "TAU"), (2, u "DEGREES_TO_RADIANS"), (0, u "RADIANS_TO_DEGREES")] 94

def k3m0 : Method := { name := "<init>", desc := "()V", sig := { parameters := [], returnType := none }, accessFlags := 2, code := none }
def k3c1 : Code := { maxStack := 4, maxLocals := 2, code := jdk_29_method_61_code, exceptionTable := #[], attributes := #[] }
def k3m1 : Method := { name := "abs", desc := "(J)J", sig := { parameters := [.long], returnType := some .long }, accessFlags := 9, code := some k3c1 }
/-- java/lang/Math -/
def k3 : Class := { plain "java/lang/Math" (some 0) with
  accessFlags := 49
  interfaces := #[]
  cf := some (fileOf pool3 1 #[.nestMembers #[98]] #[{ accessFlags := 2, nameIndex := 7, descriptorIndex := 8, attributes := #[] }, { accessFlags := 9, nameIndex := 124, descriptorIndex := 125, attributes := #[] }] 49 4 #[] #[{ accessFlags := 25, nameIndex := 354, descriptorIndex := 339, attributes := #[] }, { accessFlags := 25, nameIndex := 358, descriptorIndex := 339, attributes := #[] }, { accessFlags := 25, nameIndex := 361, descriptorIndex := 339, attributes := #[] }, { accessFlags := 26, nameIndex := 364, descriptorIndex := 339, attributes := #[] }, { accessFlags := 26, nameIndex := 365, descriptorIndex := 339, attributes := #[] }, { accessFlags := 26, nameIndex := 172, descriptorIndex := 173, attributes := #[] }, { accessFlags := 26, nameIndex := 176, descriptorIndex := 173, attributes := #[] }, { accessFlags := 8, nameIndex := 344, descriptorIndex := 339, attributes := #[] }, { accessFlags := 8, nameIndex := 338, descriptorIndex := 339, attributes := #[] }, { accessFlags := 4120, nameIndex := 245, descriptorIndex := 246, attributes := #[] }])
  fields := #[{ name := "E", type := .double, accessFlags := 25, slot := 0, constantValue := 0 }, { name := "PI", type := .double, accessFlags := 25, slot := 1, constantValue := 0 }, { name := "TAU", type := .double, accessFlags := 25, slot := 2, constantValue := 0 }, { name := "DEGREES_TO_RADIANS", type := .double, accessFlags := 26, slot := 3, constantValue := 0 }, { name := "RADIANS_TO_DEGREES", type := .double, accessFlags := 26, slot := 4, constantValue := 0 }, { name := "negativeZeroFloatBits", type := .long, accessFlags := 26, slot := 5, constantValue := 0 }, { name := "negativeZeroDoubleBits", type := .long, accessFlags := 26, slot := 6, constantValue := 0 }, { name := "twoToTheDoubleScaleUp", type := .double, accessFlags := 8, slot := 7, constantValue := 0 }, { name := "twoToTheDoubleScaleDown", type := .double, accessFlags := 8, slot := 8, constantValue := 0 }, { name := "$assertionsDisabled", type := .boolean, accessFlags := 4120, slot := 9, constantValue := 0 }]
  methods := #[k3m0, k3m1]
  instanceTypes := #[]
  staticTypes := #[.double, .double, .double, .double, .double, .long, .long, .double, .double, .boolean]
  resolved := Array.replicate 460 none
  statics := none }

def pool4 : Array CpInfo := pool [(1, u "java/lang/Cloneable"), (0, .class_ 1), (0, u "java/lang/Object"), (0, .class_ 3)] 3

/-- java/lang/Cloneable -/
def k4 : Class := { plain "java/lang/Cloneable" (some 0) with
  accessFlags := 1537
  interfaces := #[]
  cf := some (fileOf pool4 2 #[] #[] 1537 4 #[] #[])
  fields := #[]
  methods := #[]
  instanceTypes := #[]
  staticTypes := #[]
  resolved := Array.replicate 8 none
  statics := none }

def pool5 : Array CpInfo := pool [(1, u "java/io/Serializable"), (0, .class_ 1), (0, u "java/lang/Object"), (0, .class_ 3)] 3

/-- java/io/Serializable -/
def k5 : Class := { plain "java/io/Serializable" (some 0) with
  accessFlags := 1537
  interfaces := #[]
  cf := some (fileOf pool5 2 #[] #[] 1537 4 #[] #[])
  fields := #[]
  methods := #[]
  instanceTypes := #[]
  staticTypes := #[]
  resolved := Array.replicate 8 none
  statics := none }

/-- the primitive byte -/
def k6 : Class := { plain "byte" none with kind := .primitive 'B', accessFlags := 0x411 }
/-- [B -/
def k7 : Class := { plain "[B" (some 0) with kind := .array 6 .byte, interfaces := #[4, 5], accessFlags := 1041 }

/-- the primitive int -/
def k8 : Class := { plain "int" none with kind := .primitive 'I', accessFlags := 0x411 }
/-- [I -/
def k9 : Class := { plain "[I" (some 0) with kind := .array 8 .int, interfaces := #[4, 5], accessFlags := 1041 }

def heap : Heap := #[]
def classes : Array Class := #[k0, k1, k2, k3, k4, k5, k6, k7, k8, k9]
def interned : List (Array UInt16 × Addr) := []
def slotsUsed : Nat := 0
def theMethod : MethodId := ⟨1, 1⟩
def args0 : Array Value := #[.long 5, .int 6, .int 7, .int 8]
def aboutOver (below : List Frame) : State where
  vm := { classes := classes, interned := interned.toArray }
  heap := heap
  slotsUsed := slotsUsed
  threads := #[{ frames := .invoking theMethod args0 :: below }]
def below0 : List Frame := [.native { method := ⟨0, 0⟩, args := #[] }]
def about1 : State := aboutOver below0
def p0 : Program := .bare "" "" ""
def e0 : Env := launch0.env 0 0 0
theorem w_frames : about1.frames = Frame.invoking theMethod args0 :: below0 := rfl
set_option maxRecDepth 65536 in
theorem w_args : argsFit about1.vm theMethod args0 = true := by decide +kernel
set_option maxRecDepth 65536 in
theorem w_heap : heapFits about1 = true := by decide +kernel
set_option maxRecDepth 65536 in
theorem w_runnable : about1.curStatus? = some .runnable := by decide +kernel
set_option maxRecDepth 65536 in
theorem w_alone : about1.alone = true := by decide +kernel
set_option maxRecDepth 65536 in
theorem w_named : about1.methodNamed? x = some theMethod := by decide +kernel
set_option maxRecDepth 65536 in
theorem w_hears : about1.hears theMethod below0 = true := by decide +kernel
set_option maxRecDepth 65536 in
theorem w_ripe : about1.ripe theMethod args0 below0 = true := by decide +kernel
theorem w_running : about1.status = .running := rfl
set_option maxRecDepth 65536 in
theorem w_room : about1.hasRoom e0.platform room_1 = true :=
  launch0.hasRoom_least _ room_1 (by decide +kernel) (by decide +kernel) (by decide +kernel) (by decide +kernel) (by decide +kernel) (by decide +kernel)
theorem allAtoms_all (ts : List Jvm.Cond) (a : Array Jvm.Value) (st : Jvm.State) : (allAtoms ts).before a st = ts.all (fun c => c.before a st) := by
  induction ts with
  | nil => rfl
  | cons c t ih =>
    show (Jvm.Cond.and c (allAtoms t)).before a st = _
    rw [Jvm.Cond.before_and, ih, List.all_cons]
def words1 : List Jvm.Cond := Jvm.Cond.code x code maxLocals ret :: tables_1
/-- a 'code' word, met by the world's own term for the bytes: nothing is compared byte by byte -/
theorem code_word {y : MethodName} {bytes : ByteArray} {mx : Nat} {rt : Option FieldType} {a : Array Value} {s : State} {m : MethodId} {meth : Method} {c : Code} (h1 : s.methodNamed? y = some m) (h2 : s.vm.method? m = some meth) (h3 : meth.code = some c) (h4 : c.code = bytes)
    (h5 : (c.maxLocals == mx && c.exceptionTable.isEmpty && decide (c.maxStack ≤ mostOperands) && decide (meth.sig.returnType = rt) && !meth.locks && decide (parseMethodDescriptor y.desc = some meth.sig)) = true) : (Jvm.Cond.code y bytes mx rt).before a s = true := by
  simp only [Bool.and_eq_true, beq_iff_eq, Bool.not_eq_true', decide_eq_true_eq] at h5
  obtain ⟨⟨⟨⟨⟨g1, g2⟩, g3⟩, g4⟩, g5⟩, g6⟩ := h5
  simp [Cond.before, Cond.holds, Cond.value, h1, h2, h3, h4, g1, g2, g3, g4, g5, g6]
def isCode : Jvm.Cond → Bool
  | .code _ _ _ _ => true
  | _ => false
theorem all_split {L : List Jvm.Cond} {P : Jvm.Cond → Bool} (h1 : L.all (fun c => isCode c || P c) = true) (h2 : ∀ c ∈ L.filter isCode, P c = true) : L.all P = true := by
  refine List.all_eq_true.mpr fun c hc => ?_
  have h := List.all_eq_true.mp h1 c hc
  rcases Bool.eq_false_or_eq_true (isCode c) with hi | hi
  · exact h2 c (List.mem_filter.mpr ⟨hc, hi⟩)
  · simpa [hi] using h
set_option maxRecDepth 65536 in
theorem w_c0 : (Jvm.Cond.code x code maxLocals ret).before args0 about1 = true := code_word (m := ⟨1, 1⟩) (meth := k1m1) (c := k1c1) (by decide +kernel) rfl rfl rfl (by decide +kernel)
set_option maxRecDepth 65536 in
theorem w_c1 : (Jvm.Cond.code ({ cls := "com/example/rollcalldb/rollcalldb/resp/Decimal", name := "format", desc := "(J[B)I" } : Jvm.MethodName) prog_28_method_3_code (6 : Nat) (Option.some Jvm.ClassFile.FieldType.int)).before args0 about1 = true := code_word (m := ⟨2, 2⟩) (meth := k2m2) (c := k2c2) (by decide +kernel) rfl rfl rfl (by decide +kernel)
set_option maxRecDepth 65536 in
theorem w_c2 : (Jvm.Cond.code ({ cls := "java/lang/Math", name := "abs", desc := "(J)J" } : Jvm.MethodName) jdk_29_method_61_code (2 : Nat) (Option.some Jvm.ClassFile.FieldType.long)).before args0 about1 = true := code_word (m := ⟨3, 1⟩) (meth := k3m1) (c := k3c1) (by decide +kernel) rfl rfl rfl (by decide +kernel)
set_option maxRecDepth 65536 in
theorem w_c3 : (Jvm.Cond.code ({ cls := "com/example/rollcalldb/rollcalldb/resp/Decimal", name := "parse", desc := "([BII)J" } : Jvm.MethodName) prog_28_method_2_code (9 : Nat) (Option.some Jvm.ClassFile.FieldType.long)).before args0 about1 = true := code_word (m := ⟨2, 1⟩) (meth := k2m1) (c := k2c1) (by decide +kernel) rfl rfl rfl (by decide +kernel)
def codes1 : List Jvm.Cond := [Jvm.Cond.code x code maxLocals ret, Jvm.Cond.code ({ cls := "com/example/rollcalldb/rollcalldb/resp/Decimal", name := "format", desc := "(J[B)I" } : Jvm.MethodName) prog_28_method_3_code (6 : Nat) (Option.some Jvm.ClassFile.FieldType.int), Jvm.Cond.code ({ cls := "java/lang/Math", name := "abs", desc := "(J)J" } : Jvm.MethodName) jdk_29_method_61_code (2 : Nat) (Option.some Jvm.ClassFile.FieldType.long), Jvm.Cond.code ({ cls := "com/example/rollcalldb/rollcalldb/resp/Decimal", name := "parse", desc := "([BII)J" } : Jvm.MethodName) prog_28_method_2_code (9 : Nat) (Option.some Jvm.ClassFile.FieldType.long)]
set_option maxRecDepth 65536 in
theorem codes_eq : words1.filter isCode = codes1 := rfl
theorem w_codes : ∀ c ∈ words1.filter isCode, c.before args0 about1 = true := by
  rw [codes_eq]
  intro c hc
  simp only [codes1, List.mem_cons, List.not_mem_nil, or_false] at hc
  rcases hc with rfl | rfl | rfl | rfl
  · exact w_c0
  · exact w_c1
  · exact w_c2
  · exact w_c3
set_option maxRecDepth 65536 in
theorem w_t1 : words1.all (fun c => isCode c || c.before args0 about1) = true := by decide +kernel
theorem w_tables : (allAtoms (Jvm.Cond.code x code maxLocals ret :: tables_1)).before args0 about1 = true := by
  rw [allAtoms_all]
  show words1.all (fun c => c.before args0 about1) = true
  refine all_split ?_ w_codes
  rw [w_t1]
set_option maxRecDepth 65536 in
theorem w_case : (Jvm.Cond.and given_1 narrow_1).before args0 about1 = true := by decide +kernel
theorem w_applies : (headSpec (Jvm.Cond.code x code maxLocals ret :: tables_1) room_1).applies x e0.platform about1 = true :=
  (Spec.applies_iff w_frames).mpr ⟨w_running, w_runnable, w_alone, w_named, w_hears, w_ripe, w_room, w_tables⟩
theorem atStart : AtStart classFile x code maxLocals ret World_1 tables_1 room_1 Calls_1 rest_1 Pre_1 launch0 p0 e0 about1 theMethod args0 below0 :=
  ⟨lists_1, trivial, launch0.admits_env _ _ _, launch0.least_env, fairChoices_fair.cas, fairChoices_fair.clock, w_frames, w_args, w_heap, w_applies, trivial, trivial, w_case⟩
end start1
theorem witness_1 : WitnessClaimed_1 := ⟨start1.p0, start1.e0, start1.about1, start1.theMethod, start1.args0, start1.below0, start1.atStart⟩
end Jvm.Pilot.@@N@@
