import JvmDerived
import JvmDerived.Pilot.@@N@@Statement
import JvmDerived.Pilot.@@N@@Code
set_option linter.unusedVariables false
set_option linter.unusedSimpArgs false
set_option maxHeartbeats 40000000
set_option maxRecDepth 65536
namespace Jvm.RoadKit
open Sem ClassFile Op Lib Jvm.Stand Jvm.Free Jvm.LawKit
section New
variable {p : Program} {l : Launch} {e : Env} {R : Room} {s : State} {m : MethodId} {args : Array Value} {below : List Frame} {meth : Method} {c : Code} {T : State} {locs : List Loc} {cells slots : Nat}
theorem retI (X : Stand p l e R s m args below meth c T locs cells slots) (hx : p.tables.exec = Jvm.exec) {pc : Nat} {Ls : Array Slot} {z : Int32} {rest : List Value} (hret : meth.sig.returnType = some .int) (hd : decode c.code pc = .ok (.ireturn, 1)) {fs : List Frame}
    (hl : ∀ (f : JFrame) (acts : List Action), f.method = m → f.locked = none → f.entered = [] → (doReturn e (T.setTop f) acts (some (.int z))).1 = T.setFrames fs) : Steps p.tables e below (T.setTop (mkF m pc Ls (.int z :: rest))) (T.setFrames fs) := by
  have hm' : T.vm.method? m = some meth := X.method'
  have hn : narrow .int (.int z) = .int z := rfl
  show Steps p.tables e below (T.setTop { method := m, pc := pc, locals := Ls, stack := _ :: rest, locked := none }) _
  jvm_step X.here [X.here.top, hx, hd, hm', hret, hn]
  first | (intro acts; rw [hl _ acts rfl rfl rfl]) | rw [hl _ _ rfl rfl rfl]
  exact Steps.refl _
end New
end Jvm.RoadKit
namespace Jvm.Pilot.@@N@@
open Jvm Jvm.ClassFile Sem Op Lib Jvm.Free Jvm.Stand Jvm.LawKit Jvm.RoadKit Bundle Jvm.Pilot.@@N@@.Jvm.D
/-- an array of n places of ints, bytes ..: place i holds A i -/
def own_Ar (Z : State) (h : Heap) (a : Addr) (ty : FieldType) (n : Int32) (A : Nat → Int32) : Prop := ∃ c : Cell, Arr Z h a c ty ∧ c.slots.size = n.toNatClampNeg ∧ ¬ n < 0 ∧ ∀ i, i < c.slots.size → c.slots[i]? = some (.int (A i))
def own_up (A : Nat → Int32) (k : Nat) (v : Int32) : Nat → Int32 := fun i => if i = k then v else A i
theorem own_up_hit (A : Nat → Int32) (k : Nat) (v : Int32) : own_up A k v k = v := if_pos rfl
theorem own_up_miss (A : Nat → Int32) (k : Nat) (v : Int32) {i : Nat} (h : i ≠ k) : own_up A k v i = A i := if_neg h
theorem own_slots (c : Cell) (k : Nat) (v : Value) : (c.setSlot k v).slots = c.slots.setIfInBounds k v := rfl
theorem own_slotsN (k : ClassId) (ty : FieldType) (n : Int32) : (newA k ty n).slots = Array.replicate n.toNatClampNeg (defaultValue ty) := rfl
section OwnArr
variable {Z : State} {h h' : Heap} {a b : Addr} {ty : FieldType} {n : Int32} {A : Nat → Int32} {sl : Nat} {v : Value} {ws : List Addr}
theorem own_Ar.lt (F : own_Ar Z h a ty n A) : a < h.size := by obtain ⟨c, B, -⟩ := F; exact B.lt
theorem own_Ar.ext (F : own_Ar Z h a ty n A) (E : Ext h h') : own_Ar Z h' a ty n A := by obtain ⟨c, B, r⟩ := F; exact ⟨c, B.ext E, r⟩
theorem own_Ar.other (F : own_Ar Z h b ty n A) (W : Wr h h' a sl v) (q : b ≠ a) : own_Ar Z h' b ty n A := by obtain ⟨c, B, r⟩ := F; exact ⟨c, B.other W q, r⟩
theorem own_Ar.keep (F : own_Ar Z h a ty n A) (K : Keep h h' ws) (q : a ∉ ws) : own_Ar Z h' a ty n A := by obtain ⟨c, B, r⟩ := F; exact ⟨c, ⟨K.2.1 a c B.1 q, B.2⟩, r⟩
theorem own_Ar.new {k : ClassId} (B : Arr Z h a (newA k ty n) ty) (q : ¬ n < 0) (hd : defaultValue ty = .int 0) : own_Ar Z h a ty n (fun _ => 0) := by
  refine ⟨_, B, sz_new _ _ _, q, fun i hi => ?_⟩
  rw [sz_new] at hi
  rw [own_slotsN, hd, Array.getElem?_replicate, if_pos hi]
theorem own_Ar.put {cl : Cell} {k : Nat} {x : Int32} (B : Arr Z h a cl ty) (S : cl.slots.size = n.toNatClampNeg) (N : ¬ n < 0) (H : ∀ i, i < cl.slots.size → cl.slots[i]? = some (.int (A i))) (W : Wr h h' a k (.int x)) : own_Ar Z h' a ty n (own_up A k x) := by
  refine ⟨_, B.same W, by rw [sz_set]; exact S, N, fun i hi => ?_⟩
  rw [sz_set] at hi
  rw [own_slots]
  by_cases u : i = k
  · subst u
    rw [own_up_hit, Array.getElem?_setIfInBounds_self_of_lt hi]
  · rw [own_up_miss _ _ _ u, Array.getElem?_setIfInBounds_ne (fun z => u z.symm)]
    exact H i hi
end OwnArr
section OwnArrSteps
variable {p : Program} {l : Launch} {e : Env} {R : Room} {s : State} {m : MethodId} {args : Array Value} {below : List Frame} {meth : Method} {c : Code} {T : State} {locs : List Loc} {cells slots : Nat} {Z : State} {h : Heap} {a : Addr} {ty : FieldType} {n : Int32} {A : Nat → Int32}
theorem own_ldI (X : Stand p l e R s m args below meth c T locs cells slots) (hx : p.tables.exec = Jvm.exec) (hZ : Z.Warmed39 s.vm) (eT : T.heap = h) (F : own_Ar Z h a .int n A) {j : Int32} (hj : ¬ j < 0 ∧ j < n) {g : JFrame} (hg : g.method = m) {rest : List Value} (hs : g.stack = .int j :: .ref a :: rest) (hd : decode c.code g.pc = .ok (.iaload, 1)) (target : State)
    (k : Steps p.tables e below (T.setTop { g with pc := g.pc + 1, stack := .int (A j.toNatClampNeg) :: rest }) target) : Steps p.tables e below (T.setTop g) target := by
  obtain ⟨cl, B, S, N, H⟩ := F
  have hin := inb_of S hj
  exact X.iaload hx (by rw [eT]; exact B.1) (State.isArrayOf_alike hZ.alike B.2.1) B.2.2 hin (H _ (Nat.lt_of_not_le fun y => hin (Or.inr y))) hg hs hd target k
theorem own_ldB (X : Stand p l e R s m args below meth c T locs cells slots) (hx : p.tables.exec = Jvm.exec) (hZ : Z.Warmed39 s.vm) (eT : T.heap = h) (F : own_Ar Z h a .byte n A) {j : Int32} (hj : ¬ j < 0 ∧ j < n) {g : JFrame} (hg : g.method = m) {rest : List Value} (hs : g.stack = .int j :: .ref a :: rest) (hd : decode c.code g.pc = .ok (.baload, 1)) (target : State)
    (k : Steps p.tables e below (T.setTop { g with pc := g.pc + 1, stack := .int (A j.toNatClampNeg) :: rest }) target) : Steps p.tables e below (T.setTop g) target := by
  obtain ⟨cl, B, S, N, H⟩ := F
  have hin := inb_of S hj
  exact X.baloadBytes hx (by rw [eT]; exact B.1) (State.isArrayOf_alike hZ.alike B.2.1) B.2.2 hin (H _ (Nat.lt_of_not_le fun y => hin (Or.inr y))) hg hs hd target k
theorem own_alen (X : Stand p l e R s m args below meth c T locs cells slots) (hx : p.tables.exec = Jvm.exec) (hZ : Z.Warmed39 s.vm) (eT : T.heap = h) (F : own_Ar Z h a ty n A) {g : JFrame} (hg : g.method = m) {rest : List Value} (hs : g.stack = .ref a :: rest) (hd : decode c.code g.pc = .ok (.arraylength, 1)) (target : State)
    (k : Steps p.tables e below (T.setTop { g with pc := g.pc + 1, stack := .int n :: rest }) target) : Steps p.tables e below (T.setTop g) target := by
  obtain ⟨cl, B, S, N, H⟩ := F
  exact X.arraylength hx (by rw [eT]; exact B.1) (State.isArrayOf_alike hZ.alike B.2.1) hg hs hd target (by rw [len_of S N]; exact k)
theorem own_stI (X : Stand p l e R s m args below meth c T locs cells slots) (hx : p.tables.exec = Jvm.exec) (hZ : Z.Warmed39 s.vm) (eT : T.heap = h) (F : own_Ar Z h a .int n A) {j x : Int32} (hj : ¬ j < 0 ∧ j < n) {g : JFrame} (hg : g.method = m) {rest : List Value} (hs : g.stack = .int x :: .int j :: .ref a :: rest) (hd : decode c.code g.pc = .ok (.iastore, 1)) :
    ∃ T' h', Stand p l e R s m args below meth c T' (locs ++ [⟨a, j.toNatClampNeg⟩]) cells slots ∧ T'.heap = h' ∧ Wr h h' a j.toNatClampNeg (.int x) ∧ own_Ar Z h' a .int n (own_up A j.toNatClampNeg x) ∧ ∀ target, Steps p.tables e below (T'.setTop { g with pc := g.pc + 1, stack := rest }) target → Steps p.tables e below (T.setTop g) target := by
  obtain ⟨cl, B, S, N, H⟩ := F
  obtain ⟨T', h', X', e', W, st⟩ := stI X hx hZ eT B (j := j) (inb_of S hj) hg hs hd
  exact ⟨T', h', X', e', W, own_Ar.put B S N H W, st⟩
theorem own_stB (X : Stand p l e R s m args below meth c T locs cells slots) (hx : p.tables.exec = Jvm.exec) (hZ : Z.Warmed39 s.vm) (eT : T.heap = h) (F : own_Ar Z h a .byte n A) {j x : Int32} (hj : ¬ j < 0 ∧ j < n) {g : JFrame} (hg : g.method = m) {rest : List Value} (hs : g.stack = .int x :: .int j :: .ref a :: rest) (hd : decode c.code g.pc = .ok (.bastore, 1)) :
    ∃ T' h', Stand p l e R s m args below meth c T' (locs ++ [⟨a, j.toNatClampNeg⟩]) cells slots ∧ T'.heap = h' ∧ Wr h h' a j.toNatClampNeg (.int x.toInt8.toInt32) ∧ own_Ar Z h' a .byte n (own_up A j.toNatClampNeg x.toInt8.toInt32) ∧ ∀ target, Steps p.tables e below (T'.setTop { g with pc := g.pc + 1, stack := rest }) target → Steps p.tables e below (T.setTop g) target := by
  obtain ⟨cl, B, S, N, H⟩ := F
  obtain ⟨T', h', X', e', W, st⟩ := stB X hx hZ eT B (j := j) (inb_of S hj) hg hs hd
  exact ⟨T', h', X', e', W, own_Ar.put B S N H W, st⟩
end OwnArrSteps
theorem own_neg1 (x : Int32) (h : -2147483647 ≤ x.toInt) : (x + (-1 : Int32)).toInt = x.toInt - 1 := by
  have l : (-1 : Int32).toInt = -1 := by decide +kernel
  have a := c_iadd x (-1)
  have r := rng32 (x + (-1 : Int32))
  have s := rng32 x
  rw [l] at a
  omega
theorem own_div10 (x : Int64) : (x / (10 : Int64)).toInt.natAbs = x.toInt.natAbs / 10 := by
  have l : (10 : Int64).toInt = 10 := by decide +kernel
  have d := c_ldiv x 10 10 l (by decide +kernel)
  by_cases h : 0 ≤ x.toInt
  · rw [d.1 h]; omega
  · rw [d.2 (by omega)]; omega
theorem own_div0 {x : Int64} (h : ¬ (x / (10 : Int64)) = (0 : Int64)) : 10 ≤ x.toInt.natAbs := by
  have l : (0 : Int64).toInt = 0 := by decide +kernel
  have e := own_div10 x
  have n : ¬ (x / (10 : Int64)).toInt = 0 := fun z => h (Int64.toInt_inj.mp (by rw [z, l]))
  omega
theorem own_fx0 {i3 n : Int32} {j4 : Int64} (hI : 2 ≤ i3.toInt ∧ i3.toInt ≤ n.toInt ∧ j4.toInt.natAbs < 10 ^ (i3.toInt.toNat - 1)) : ¬ (i3 + (-1 : Int32)) < 0 ∧ (i3 + (-1 : Int32)) < n := by
  have l0 : (0 : Int32).toInt = 0 := by decide +kernel
  have e := own_neg1 i3 (by omega)
  rw [Int32.lt_iff_toInt_lt, Int32.lt_iff_toInt_lt, e, l0]
  omega
theorem own_fx1 {i3 n : Int32} {j4 : Int64} (hI : 2 ≤ i3.toInt ∧ i3.toInt ≤ n.toInt ∧ j4.toInt.natAbs < 10 ^ (i3.toInt.toNat - 1)) : ¬ ((i3 + (-1 : Int32)) + (-1 : Int32)) < 0 ∧ ((i3 + (-1 : Int32)) + (-1 : Int32)) < n := by
  have l0 : (0 : Int32).toInt = 0 := by decide +kernel
  have e := own_neg1 i3 (by omega)
  have f := own_neg1 (i3 + (-1 : Int32)) (by omega)
  rw [Int32.lt_iff_toInt_lt, Int32.lt_iff_toInt_lt, f, e, l0]
  omega
theorem own_fv0 (v0 : Int64) {i3 n : Int32} (hI : 20 ≤ n.toInt ∧ i3 = n) : 2 ≤ i3.toInt ∧ i3.toInt ≤ n.toInt ∧ v0.toInt.natAbs < 10 ^ (i3.toInt.toNat - 1) := by
  obtain ⟨h, rfl⟩ := hI
  refine ⟨by omega, by omega, ?_⟩
  have r := rng64 v0
  have p : (10 : Nat) ^ 19 ≤ 10 ^ (i3.toInt.toNat - 1) := Nat.pow_le_pow_right (by decide +kernel) (by omega)
  have q : (10 : Nat) ^ 19 = 10000000000000000000 := by decide +kernel
  omega
theorem own_pw (A m : Nat) (h : A < 10 ^ (m - 1)) (h10 : 10 ≤ A) (hm : 2 ≤ m) : 3 ≤ m ∧ A / 10 < 10 ^ (m - 1 - 1) := by
  obtain ⟨t, rfl⟩ : ∃ t, m = t + 2 := ⟨m - 2, by omega⟩
  have e1 : t + 2 - 1 = t + 1 := by omega
  rw [e1] at h ⊢
  have e2 : t + 1 - 1 = t := by omega
  rw [e2]
  cases t with
  | zero =>
    have e : (10 : Nat) ^ (0 + 1) = 10 := by decide +kernel
    rw [e] at h
    exact absurd h (Nat.not_lt.mpr h10)
  | succ s =>
    rw [Nat.pow_succ] at h
    generalize (10 : Nat) ^ (s + 1) = P at h ⊢
    refine ⟨by omega, by omega⟩
theorem own_fv1 {i3 n : Int32} {j4 : Int64} (hI : 2 ≤ i3.toInt ∧ i3.toInt ≤ n.toInt ∧ j4.toInt.natAbs < 10 ^ (i3.toInt.toNat - 1)) (hc : ¬ (j4 / (10 : Int64)) = (0 : Int64)) :
    2 ≤ (i3 + (-1 : Int32)).toInt ∧ (i3 + (-1 : Int32)).toInt ≤ n.toInt ∧ (j4 / (10 : Int64)).toInt.natAbs < 10 ^ ((i3 + (-1 : Int32)).toInt.toNat - 1) := by
  have d := own_div10 j4
  have g := own_div0 hc
  obtain ⟨h1, h2, h3⟩ := hI
  have e := own_neg1 i3 (Int.le_trans (by decide +kernel) h1)
  rw [d, e]
  generalize j4.toInt.natAbs = A at h3 g ⊢
  generalize i3.toInt = I at h1 h2 h3 ⊢
  generalize n.toInt = N at h2 ⊢
  clear d e hc
  obtain ⟨m, rfl⟩ : ∃ m : Nat, I = m := ⟨I.toNat, by omega⟩
  have q := own_pw A m h3 g (by omega)
  have u : ((m : Int) - 1).toNat = m - 1 := by omega
  rw [u]
  exact ⟨by omega, by omega, q.2⟩
theorem own_fm {j4 : Int64} {k : Nat} (hc : ¬ (j4 / (10 : Int64)) = (0 : Int64)) (hk : j4.toInt.natAbs < k + 1) : (j4 / (10 : Int64)).toInt.natAbs < k := by
  have d := own_div10 j4
  have g := own_div0 hc
  omega
theorem own_px0 {i1 i2 n : Int32} (hI : n.toInt ≤ 1000 ∧ 0 ≤ i1.toInt ∧ i1.toInt ≤ 1000 ∧ i2.toInt ≤ n.toInt) (hc : i1 < i2) : ¬ i1 < 0 ∧ i1 < n := by
  have l0 : (0 : Int32).toInt = 0 := by decide +kernel
  rw [Int32.lt_iff_toInt_lt] at hc
  rw [Int32.lt_iff_toInt_lt, Int32.lt_iff_toInt_lt, l0]
  omega
theorem own_px1 {i7 i2 n : Int32} (hI : n.toInt ≤ 1000 ∧ 0 ≤ i7.toInt ∧ i2.toInt ≤ n.toInt) (hc : i7 < i2) : ¬ i7 < 0 ∧ i7 < n := by
  have l0 : (0 : Int32).toInt = 0 := by decide +kernel
  rw [Int32.lt_iff_toInt_lt] at hc
  rw [Int32.lt_iff_toInt_lt, Int32.lt_iff_toInt_lt, l0]
  omega
theorem own_inc (x : Int32) (h : x.toInt ≤ 2147483646) : (x + (1 : Int32)).toInt = x.toInt + 1 := by
  have l : (1 : Int32).toInt = 1 := by decide +kernel
  have a := c_iadd x 1
  have r := rng32 (x + (1 : Int32))
  have s := rng32 x
  rw [l] at a
  omega
theorem own_dec (x : Int32) (h : -2147483647 ≤ x.toInt) : (x - (1 : Int32)).toInt = x.toInt - 1 := by
  have l : (1 : Int32).toInt = 1 := by decide +kernel
  have a := c_isub x 1
  have r := rng32 (x - (1 : Int32))
  have s := rng32 x
  rw [l] at a
  omega
theorem own_pv0 {i1 i2 n : Int32} (hI : n.toInt ≤ 1000 ∧ 0 ≤ i1.toInt ∧ i1.toInt ≤ 1000 ∧ i2.toInt ≤ n.toInt) : n.toInt ≤ 1000 ∧ 0 ≤ i1.toInt ∧ i1.toInt ≤ 1000 ∧ i2.toInt ≤ n.toInt ∧ 0 ≤ i1.toInt := ⟨hI.1, hI.2.1, hI.2.2.1, hI.2.2.2, hI.2.1⟩
theorem own_pv1 {i1 i2 n : Int32} (hI : n.toInt ≤ 1000 ∧ 0 ≤ i1.toInt ∧ i1.toInt ≤ 1000 ∧ i2.toInt ≤ n.toInt) : n.toInt ≤ 1000 ∧ 0 ≤ i1.toInt ∧ i1.toInt ≤ 1000 ∧ i2.toInt ≤ n.toInt ∧ 0 ≤ (i1 + (1 : Int32)).toInt := by
  have e := own_inc i1 (by omega)
  omega
theorem own_pv2 {i7 i2 n : Int32} (hI : n.toInt ≤ 1000 ∧ 0 ≤ i7.toInt ∧ i2.toInt ≤ n.toInt) (hc : i7 < i2) : n.toInt ≤ 1000 ∧ 0 ≤ (i7 + (1 : Int32)).toInt ∧ i2.toInt ≤ n.toInt := by
  rw [Int32.lt_iff_toInt_lt] at hc
  have e := own_inc i7 (by omega)
  omega
theorem own_pm {i7 i2 n : Int32} {k : Nat} (hI : n.toInt ≤ 1000 ∧ 0 ≤ i7.toInt ∧ i2.toInt ≤ n.toInt) (hc : i7 < i2) (hk : (i2.toInt - i7.toInt).toNat < k + 1) : (i2.toInt - (i7 + (1 : Int32)).toInt).toNat < k := by
  rw [Int32.lt_iff_toInt_lt] at hc
  have e := own_inc i7 (by omega)
  omega
theorem own_len (x : Int32) : 20 ≤ ((20 : Int32) + (x &&& (7 : Int32))).toInt ∧ ((20 : Int32) + (x &&& (7 : Int32))).toInt ≤ 27 := by
  have l : (20 : Int32).toInt = 20 := by decide +kernel
  have m := c_mask x 7 3 (by decide +kernel) (by decide +kernel)
  have a := c_iadd 20 (x &&& 7)
  have r := rng32 ((20 : Int32) + (x &&& (7 : Int32)))
  rw [l] at a
  omega
theorem own_cap (x : Int32) : ¬ ((20 : Int32) + (x &&& (7 : Int32))) < 0 ∧ ((20 : Int32) + (x &&& (7 : Int32))).toNatClampNeg ≤ 27 := by
  have l0 : (0 : Int32).toInt = 0 := by decide +kernel
  have h := own_len x
  refine ⟨?_, ?_⟩
  · rw [Int32.lt_iff_toInt_lt, l0]; omega
  · show ((20 : Int32) + (x &&& (7 : Int32))).toInt.toNat ≤ 27
    omega
theorem own_iv0 (x f : Int32) (h1 : ¬ f < 0) (h2 : f < ((20 : Int32) + (x &&& (7 : Int32)))) : 20 ≤ ((20 : Int32) + (x &&& (7 : Int32))).toInt ∧ ((20 : Int32) + (x &&& (7 : Int32))).toInt ≤ 27 ∧ ((20 : Int32) + (x &&& (7 : Int32))) = ((20 : Int32) + (x &&& (7 : Int32))) ∧ 0 ≤ f.toInt ∧ f.toInt < ((20 : Int32) + (x &&& (7 : Int32))).toInt := by
  have l0 : (0 : Int32).toInt = 0 := by decide +kernel
  have h := own_len x
  rw [Int32.lt_iff_toInt_lt] at h1 h2
  exact ⟨h.1, h.2, rfl, by omega, h2⟩
theorem own_ixa (x f : Int32) (h1 : ¬ f < 0) (h2 : f < ((20 : Int32) + (x &&& (7 : Int32)))) (h3 : ¬ f = 0) : ¬ (f - (1 : Int32)) < 0 ∧ (f - (1 : Int32)) < ((20 : Int32) + (x &&& (7 : Int32))) := by
  have l0 : (0 : Int32).toInt = 0 := by decide +kernel
  have n : ¬ f.toInt = 0 := fun z => h3 (Int32.toInt_inj.mp (by rw [z, l0]))
  rw [Int32.lt_iff_toInt_lt] at h1 h2
  have e := own_dec f (by omega)
  rw [Int32.lt_iff_toInt_lt, Int32.lt_iff_toInt_lt, e, l0]
  omega
theorem own_ixb {i4 i5 n : Int32} (hI : 20 ≤ n.toInt ∧ n.toInt ≤ 27 ∧ i4 = n ∧ 0 ≤ i5.toInt ∧ i5.toInt < n.toInt) : ¬ i5 < 0 ∧ i5 < n := by
  have l0 : (0 : Int32).toInt = 0 := by decide +kernel
  rw [Int32.lt_iff_toInt_lt, Int32.lt_iff_toInt_lt, l0]
  omega
theorem own_ixc {i4 i5 n : Int32} (hI : 20 ≤ n.toInt ∧ n.toInt ≤ 27 ∧ i4 = n ∧ 0 ≤ i5.toInt ∧ i5.toInt < n.toInt) : ¬ (i4 - (1 : Int32)) < 0 ∧ (i4 - (1 : Int32)) < n := by
  have l0 : (0 : Int32).toInt = 0 := by decide +kernel
  obtain ⟨a, b, rfl, c, d⟩ := hI
  have e := own_dec i4 (by omega)
  rw [Int32.lt_iff_toInt_lt, Int32.lt_iff_toInt_lt, e, l0]
  omega
theorem own_ixd {i4 i5 u0 n : Int32} (hI : 20 ≤ n.toInt ∧ n.toInt ≤ 27 ∧ i4 = n ∧ 0 ≤ i5.toInt ∧ i5.toInt < n.toInt ∧ 0 ≤ u0.toInt) (hc : u0 < i4) : ¬ u0 < 0 ∧ u0 < n := by
  have l0 : (0 : Int32).toInt = 0 := by decide +kernel
  obtain ⟨a, b, rfl, c, d, f⟩ := hI
  refine ⟨?_, hc⟩
  rw [Int32.lt_iff_toInt_lt, l0]
  omega
theorem own_iv1 {i4 i5 n : Int32} (hI : 20 ≤ n.toInt ∧ n.toInt ≤ 27 ∧ i4 = n ∧ 0 ≤ i5.toInt ∧ i5.toInt < n.toInt) : 20 ≤ n.toInt ∧ n.toInt ≤ 27 ∧ i4 = n ∧ 0 ≤ i5.toInt ∧ i5.toInt < n.toInt ∧ 0 ≤ (i5 + (1 : Int32)).toInt := by
  have e := own_inc i5 (by omega)
  exact ⟨hI.1, hI.2.1, hI.2.2.1, hI.2.2.2.1, hI.2.2.2.2, by omega⟩
theorem own_iv2 {i4 i5 n : Int32} (hI : 20 ≤ n.toInt ∧ n.toInt ≤ 27 ∧ i4 = n ∧ 0 ≤ i5.toInt ∧ i5.toInt < n.toInt) : 20 ≤ n.toInt ∧ n.toInt ≤ 27 ∧ i4 = n ∧ 0 ≤ i5.toInt ∧ i5.toInt < n.toInt ∧ 0 ≤ i5.toInt := ⟨hI.1, hI.2.1, hI.2.2.1, hI.2.2.2.1, hI.2.2.2.2, hI.2.2.2.1⟩
theorem own_ca {i4 i5 n : Int32} (hI : 20 ≤ n.toInt ∧ n.toInt ≤ 27 ∧ i4 = n ∧ 0 ≤ i5.toInt ∧ i5.toInt < n.toInt) : n.toInt ≤ 1000 ∧ 0 ≤ (i5 + (1 : Int32)).toInt ∧ (i5 + (1 : Int32)).toInt ≤ 1000 ∧ (i4 - (1 : Int32)).toInt ≤ n.toInt := by
  obtain ⟨a, b, rfl, c, d⟩ := hI
  have e := own_inc i5 (by omega)
  have f := own_dec i4 (by omega)
  omega
theorem own_cb {i4 i5 n : Int32} (hI : 20 ≤ n.toInt ∧ n.toInt ≤ 27 ∧ i4 = n ∧ 0 ≤ i5.toInt ∧ i5.toInt < n.toInt) : n.toInt ≤ 1000 ∧ 0 ≤ i5.toInt ∧ i5.toInt ≤ 1000 ∧ i4.toInt ≤ n.toInt := by
  obtain ⟨a, b, rfl, c, d⟩ := hI
  omega
theorem d1_0 : decode prog_28_method_3_code 0 = .ok (.aload_n 2, 1) := by decide +kernel
theorem d1_1 : decode prog_28_method_3_code 1 = .ok (.arraylength, 1) := by decide +kernel
theorem d1_2 : decode prog_28_method_3_code 2 = .ok (.istore_n 3, 1) := by decide +kernel
theorem d1_3 : decode prog_28_method_3_code 3 = .ok (.lload_n 0, 1) := by decide +kernel
theorem d1_4 : decode prog_28_method_3_code 4 = .ok (.lconst 0, 1) := by decide +kernel
theorem d1_5 : decode prog_28_method_3_code 5 = .ok (.lcmp, 1) := by decide +kernel
theorem d1_6 : decode prog_28_method_3_code 6 = .ok (.ifCond .ge 7, 3) := by decide +kernel
theorem d1_9 : decode prog_28_method_3_code 9 = .ok (.lload_n 0, 1) := by decide +kernel
theorem d1_10 : decode prog_28_method_3_code 10 = .ok (.goto 5, 3) := by decide +kernel
theorem d1_13 : decode prog_28_method_3_code 13 = .ok (.lload_n 0, 1) := by decide +kernel
theorem d1_14 : decode prog_28_method_3_code 14 = .ok (.lneg, 1) := by decide +kernel
theorem d1_15 : decode prog_28_method_3_code 15 = .ok (.lstore 4, 2) := by decide +kernel
theorem d1_17 : decode prog_28_method_3_code 17 = .ok (.aload_n 2, 1) := by decide +kernel
theorem d1_18 : decode prog_28_method_3_code 18 = .ok (.iinc 3 (-1), 3) := by decide +kernel
theorem d1_21 : decode prog_28_method_3_code 21 = .ok (.iload_n 3, 1) := by decide +kernel
theorem d1_22 : decode prog_28_method_3_code 22 = .ok (.ldc2_w 17, 3) := by decide +kernel
theorem d1_25 : decode prog_28_method_3_code 25 = .ok (.lload 4, 2) := by decide +kernel
theorem d1_27 : decode prog_28_method_3_code 27 = .ok (.ldc2_w 15, 3) := by decide +kernel
theorem d1_30 : decode prog_28_method_3_code 30 = .ok (.lrem, 1) := by decide +kernel
theorem d1_31 : decode prog_28_method_3_code 31 = .ok (.lsub, 1) := by decide +kernel
theorem d1_32 : decode prog_28_method_3_code 32 = .ok (.l2i, 1) := by decide +kernel
theorem d1_33 : decode prog_28_method_3_code 33 = .ok (.i2b, 1) := by decide +kernel
theorem d1_34 : decode prog_28_method_3_code 34 = .ok (.bastore, 1) := by decide +kernel
theorem d1_35 : decode prog_28_method_3_code 35 = .ok (.lload 4, 2) := by decide +kernel
theorem d1_37 : decode prog_28_method_3_code 37 = .ok (.ldc2_w 15, 3) := by decide +kernel
theorem d1_40 : decode prog_28_method_3_code 40 = .ok (.ldiv, 1) := by decide +kernel
theorem d1_41 : decode prog_28_method_3_code 41 = .ok (.lstore 4, 2) := by decide +kernel
theorem d1_43 : decode prog_28_method_3_code 43 = .ok (.lload 4, 2) := by decide +kernel
theorem d1_45 : decode prog_28_method_3_code 45 = .ok (.lconst 0, 1) := by decide +kernel
theorem d1_46 : decode prog_28_method_3_code 46 = .ok (.lcmp, 1) := by decide +kernel
theorem d1_47 : decode prog_28_method_3_code 47 = .ok (.ifCond .ne (-30), 3) := by decide +kernel
theorem d1_50 : decode prog_28_method_3_code 50 = .ok (.lload_n 0, 1) := by decide +kernel
theorem d1_51 : decode prog_28_method_3_code 51 = .ok (.lconst 0, 1) := by decide +kernel
theorem d1_52 : decode prog_28_method_3_code 52 = .ok (.lcmp, 1) := by decide +kernel
theorem d1_53 : decode prog_28_method_3_code 53 = .ok (.ifCond .ge 11, 3) := by decide +kernel
theorem d1_56 : decode prog_28_method_3_code 56 = .ok (.aload_n 2, 1) := by decide +kernel
theorem d1_57 : decode prog_28_method_3_code 57 = .ok (.iinc 3 (-1), 3) := by decide +kernel
theorem d1_60 : decode prog_28_method_3_code 60 = .ok (.iload_n 3, 1) := by decide +kernel
theorem d1_61 : decode prog_28_method_3_code 61 = .ok (.bipush 45, 2) := by decide +kernel
theorem d1_63 : decode prog_28_method_3_code 63 = .ok (.bastore, 1) := by decide +kernel
theorem d1_64 : decode prog_28_method_3_code 64 = .ok (.iload_n 3, 1) := by decide +kernel
theorem d1_65 : decode prog_28_method_3_code 65 = .ok (.ireturn, 1) := by decide +kernel
theorem pn_1 : plainName "com/example/rollcalldb/rollcalldb/resp/Decimal" = true := by first | (simp [plainName, overriddenIn]; done) | decide +kernel
theorem ef_1 (m : MethodId) (j0 : Int64) (a2 : Addr) : entryFrame m #[(.long j0), (.ref a2)] 6 = mkF m 0 #[.val (.long j0), .second, .val (.ref a2), .unset, .unset, .unset] [] := by first | (simp [entryFrame, mkF, argsToLocals, Value.category]; done) | rfl
def own_f1_17 : Nat → (Int64) → (Int32) → (Int64) → (Int32) → (Nat → Int32) → (Int32)
  | 0, _, _, _, _, _ => 0
  | k + 1, j0, i3, j4, n_a2, A_a2 => (if (j4 / (10 : Int64)) = (0 : Int64) then (if j0 < (0 : Int64) then ((i3 + (-1 : Int32)) + (-1 : Int32)) else (i3 + (-1 : Int32))) else (own_f1_17 k j0 (i3 + (-1 : Int32)) (j4 / (10 : Int64)) n_a2 (own_up A_a2 (i3 + (-1 : Int32)).toNatClampNeg (((((48 : Int64) - (j4 - (j4 / (10 : Int64)) * (10 : Int64))).toInt32).toInt8.toInt32).toInt8.toInt32))))
theorem own_f1_17_s (k : Nat) (j0 : Int64) (i3 : Int32) (j4 : Int64) (n_a2 : Int32) (A_a2 : Nat → Int32) : own_f1_17 (k + 1) j0 i3 j4 n_a2 A_a2 =
  (if (j4 / (10 : Int64)) = (0 : Int64) then (if j0 < (0 : Int64) then ((i3 + (-1 : Int32)) + (-1 : Int32)) else (i3 + (-1 : Int32))) else (own_f1_17 k j0 (i3 + (-1 : Int32)) (j4 / (10 : Int64)) n_a2 (own_up A_a2 (i3 + (-1 : Int32)).toNatClampNeg (((((48 : Int64) - (j4 - (j4 / (10 : Int64)) * (10 : Int64))).toInt32).toInt8.toInt32).toInt8.toInt32)))) := rfl
def own_o1_A_17 : Nat → (Int64) → (Int32) → (Int64) → (Int32) → (Nat → Int32) → (Nat → Int32)
  | 0, _, _, _, _, _ => fun _ => 0
  | k + 1, j0, i3, j4, n_a2, A_a2 => (if (j4 / (10 : Int64)) = (0 : Int64) then (if j0 < (0 : Int64) then (own_up (own_up A_a2 (i3 + (-1 : Int32)).toNatClampNeg (((((48 : Int64) - (j4 - (j4 / (10 : Int64)) * (10 : Int64))).toInt32).toInt8.toInt32).toInt8.toInt32)) ((i3 + (-1 : Int32)) + (-1 : Int32)).toNatClampNeg ((45 : Int32).toInt8.toInt32)) else (own_up A_a2 (i3 + (-1 : Int32)).toNatClampNeg (((((48 : Int64) - (j4 - (j4 / (10 : Int64)) * (10 : Int64))).toInt32).toInt8.toInt32).toInt8.toInt32))) else (own_o1_A_17 k j0 (i3 + (-1 : Int32)) (j4 / (10 : Int64)) n_a2 (own_up A_a2 (i3 + (-1 : Int32)).toNatClampNeg (((((48 : Int64) - (j4 - (j4 / (10 : Int64)) * (10 : Int64))).toInt32).toInt8.toInt32).toInt8.toInt32))))
theorem own_o1_A_17_s (k : Nat) (j0 : Int64) (i3 : Int32) (j4 : Int64) (n_a2 : Int32) (A_a2 : Nat → Int32) : own_o1_A_17 (k + 1) j0 i3 j4 n_a2 A_a2 =
  (if (j4 / (10 : Int64)) = (0 : Int64) then (if j0 < (0 : Int64) then (own_up (own_up A_a2 (i3 + (-1 : Int32)).toNatClampNeg (((((48 : Int64) - (j4 - (j4 / (10 : Int64)) * (10 : Int64))).toInt32).toInt8.toInt32).toInt8.toInt32)) ((i3 + (-1 : Int32)) + (-1 : Int32)).toNatClampNeg ((45 : Int32).toInt8.toInt32)) else (own_up A_a2 (i3 + (-1 : Int32)).toNatClampNeg (((((48 : Int64) - (j4 - (j4 / (10 : Int64)) * (10 : Int64))).toInt32).toInt8.toInt32).toInt8.toInt32))) else (own_o1_A_17 k j0 (i3 + (-1 : Int32)) (j4 / (10 : Int64)) n_a2 (own_up A_a2 (i3 + (-1 : Int32)).toNatClampNeg (((((48 : Int64) - (j4 - (j4 / (10 : Int64)) * (10 : Int64))).toInt32).toInt8.toInt32).toInt8.toInt32)))) := rfl
def own_f1_15 (j0 : Int64) (i3 : Int32) (v0 : Int64) (n_a2 : Int32) (A_a2 : Nat → Int32) : Int32 :=
  (own_f1_17 (v0.toInt.natAbs + 1) j0 i3 v0 n_a2 A_a2)
def own_o1_A_15 (j0 : Int64) (i3 : Int32) (v0 : Int64) (n_a2 : Int32) (A_a2 : Nat → Int32) : Nat → Int32 :=
  (own_o1_A_17 (v0.toInt.natAbs + 1) j0 i3 v0 n_a2 A_a2)
def own_f1_0 (j0 : Int64) (n_a2 : Int32) (A_a2 : Nat → Int32) : Int32 :=
  (if j0 < (0 : Int64) then (own_f1_15 j0 n_a2 j0 n_a2 A_a2) else (own_f1_15 j0 n_a2 (-j0) n_a2 A_a2))
def own_o1_A (j0 : Int64) (n_a2 : Int32) (A_a2 : Nat → Int32) : Nat → Int32 :=
  (if j0 < (0 : Int64) then (own_o1_A_15 j0 n_a2 j0 n_a2 A_a2) else (own_o1_A_15 j0 n_a2 (-j0) n_a2 A_a2))
set_option maxRecDepth 65536 in
set_option maxHeartbeats 40000000 in
theorem own_b1_17 {p : Program} {l : Launch} {e : Env} {s : State} {m : MethodId} {args : Array Value} {below : List Frame} {meth : Method} {c : Code} {Z : State} {a0_ : Array Value} {n0 : Nat} (hx : p.tables.exec = Jvm.exec) (hZ : Z.Warmed39 s.vm) (hw : ∀ d ∈ tables_1, d.before a0_ Z = true) (hby : c.code = prog_28_method_3_code) (hml : c.maxLocals = 6) (hown : s.vm.findClass "com/example/rollcalldb/rollcalldb/resp/Decimal" = some m.cls) (hret : meth.sig.returnType = some .int) :
    ∀ (k : Nat) {T0 : State} {locs : List Loc} {h0 : Heap} (j0 : Int64) (a2 : Addr) (i3 : Int32) (j4 : Int64) (n_a2 : Int32) (A_a2 : Nat → Int32) (X0 : Stand p l e ({ frames := 0, cells := 0, slots := 0, locals := 0 } : Room) s m args below meth c T0 locs 0 0) (e0 : T0.heap = h0) (N0 : Fr n0 locs) (Z0 : n0 ≤ h0.size) (g_a2 : n0 ≤ a2) (V_a2 : own_Ar Z h0 a2 .byte n_a2 A_a2) (hI : 2 ≤ i3.toInt ∧ i3.toInt ≤ n_a2.toInt ∧ j4.toInt.natAbs < 10 ^ (i3.toInt.toNat - 1)) (hk : j4.toInt.natAbs < k),
    ∃ T' h' locs', Stand p l e ({ frames := 0, cells := 0, slots := 0, locals := 0 } : Room) s m args below meth c T' locs' 0 0 ∧ T'.heap = h' ∧ Fr n0 locs' ∧ Keep h0 h' [a2] ∧ own_Ar Z h' a2 .byte n_a2 (own_o1_A_17 k j0 i3 j4 n_a2 A_a2) ∧ ∀ fs, (∀ (f : JFrame) (acts : List Action), f.method = m → f.locked = none → f.entered = [] → (doReturn e (T'.setTop f) acts (some (.int (own_f1_17 k j0 i3 j4 n_a2 A_a2)))).1 = T'.setFrames fs) → Steps p.tables e below (T0.setTop (mkF m 17 #[.val (.long j0), .second, .val (.ref a2), .val (.int i3), .val (.long j4), .second] [])) (T'.setFrames fs) := by
  intro k
  induction k with
  | zero => intro T0 locs h0 j0 a2 i3 j4 n_a2 A_a2 X0 e0 N0 Z0 g_a2 V_a2 hI hk; exact absurd hk (Nat.not_lt_zero _)
  | succ k ih =>
    intro T0 locs h0 j0 a2 i3 j4 n_a2 A_a2 X0 e0 N0 Z0 g_a2 V_a2 hI hk
    have hix34 : ¬ (i3 + (-1 : Int32)) < 0 ∧ (i3 + (-1 : Int32)) < n_a2 := by exact own_fx0 hI
    obtain ⟨T1, h1, X1, e1, W1, V1, st1⟩ := own_stB X0 hx hZ e0 V_a2 hix34 (g := (mkF m 34 #[.val (.long j0), .second, .val (.ref a2), .val (.int (i3 + (-1 : Int32))), .val (.long j4), .second] [(.int ((((48 : Int64) - (j4 - (j4 / (10 : Int64)) * (10 : Int64))).toInt32).toInt8.toInt32)), (.int (i3 + (-1 : Int32))), (.ref a2)])) rfl rfl (hb hby d1_34)
    have N1 := Fr.snoc X1 N0 g_a2
    have Z1 : n0 ≤ h1.size := Nat.le_trans Z0 (Keep.of_wr W1).1
    have K1 : Keep h0 h1 [a2] := (Keep.refl h0 [a2]).wr W1 (Or.inl (List.mem_of_getElem? (i := 0) rfl))
    have V_a2_k1 := V1
    have pre2 : ∀ target, Steps p.tables e below (T1.setTop (mkF m 47 #[.val (.long j0), .second, .val (.ref a2), .val (.int (i3 + (-1 : Int32))), .val (.long (j4 / (10 : Int64))), .second] [(.int (lcmpW (j4 / (10 : Int64)) (0 : Int64)))])) target → Steps p.tables e below (T0.setTop (mkF m 17 #[.val (.long j0), .second, .val (.ref a2), .val (.int i3), .val (.long j4), .second] [])) target := by
      intro target kt
      show Steps p.tables e below (T0.setTop (mkF m 17 #[.val (.long j0), .second, .val (.ref a2), .val (.int i3), .val (.long j4), .second] [])) _
      refine XS.aloadN X0.here hx rfl (hb hby d1_17) rfl rfl ?_
      show Steps p.tables e below (T0.setTop (mkF m 18 #[.val (.long j0), .second, .val (.ref a2), .val (.int i3), .val (.long j4), .second] [(.ref a2)])) _
      refine XS.iinc X0.here hx rfl (hb hby d1_18) rfl (l' := #[.val (.long j0), .second, .val (.ref a2), .val (.int (i3 + (-1 : Int32))), .val (.long j4), .second]) rfl ?_
      show Steps p.tables e below (T0.setTop (mkF m 21 #[.val (.long j0), .second, .val (.ref a2), .val (.int (i3 + (-1 : Int32))), .val (.long j4), .second] [(.ref a2)])) _
      refine XS.iloadN X0.here hx rfl (hb hby d1_21) rfl ?_
      show Steps p.tables e below (T0.setTop (mkF m 22 #[.val (.long j0), .second, .val (.ref a2), .val (.int (i3 + (-1 : Int32))), .val (.long j4), .second] [(.int (i3 + (-1 : Int32))), (.ref a2)])) _
      refine X0.ldc2Long hx hown (mvT hZ (hw _ (List.mem_of_getElem? (i := 5) rfl))) (g := (mkF m 22 #[.val (.long j0), .second, .val (.ref a2), .val (.int (i3 + (-1 : Int32))), .val (.long j4), .second] [(.int (i3 + (-1 : Int32))), (.ref a2)])) rfl (hb hby d1_22) _ ?_
      show Steps p.tables e below (T0.setTop (mkF m 25 #[.val (.long j0), .second, .val (.ref a2), .val (.int (i3 + (-1 : Int32))), .val (.long j4), .second] [(.long (48 : Int64)), (.int (i3 + (-1 : Int32))), (.ref a2)])) _
      refine XS.lload X0.here hx rfl (hb hby d1_25) rfl ?_
      show Steps p.tables e below (T0.setTop (mkF m 27 #[.val (.long j0), .second, .val (.ref a2), .val (.int (i3 + (-1 : Int32))), .val (.long j4), .second] [(.long j4), (.long (48 : Int64)), (.int (i3 + (-1 : Int32))), (.ref a2)])) _
      refine X0.ldc2Long hx hown (mvT hZ (hw _ (List.mem_of_getElem? (i := 6) rfl))) (g := (mkF m 27 #[.val (.long j0), .second, .val (.ref a2), .val (.int (i3 + (-1 : Int32))), .val (.long j4), .second] [(.long j4), (.long (48 : Int64)), (.int (i3 + (-1 : Int32))), (.ref a2)])) rfl (hb hby d1_27) _ ?_
      show Steps p.tables e below (T0.setTop (mkF m 30 #[.val (.long j0), .second, .val (.ref a2), .val (.int (i3 + (-1 : Int32))), .val (.long j4), .second] [(.long (10 : Int64)), (.long j4), (.long (48 : Int64)), (.int (i3 + (-1 : Int32))), (.ref a2)])) _
      refine XS.lrem X0.here hx rfl (hb hby d1_30) rfl (by decide) ?_
      show Steps p.tables e below (T0.setTop (mkF m 31 #[.val (.long j0), .second, .val (.ref a2), .val (.int (i3 + (-1 : Int32))), .val (.long j4), .second] [(.long (j4 - (j4 / (10 : Int64)) * (10 : Int64))), (.long (48 : Int64)), (.int (i3 + (-1 : Int32))), (.ref a2)])) _
      refine XS.lsub X0.here hx rfl (hb hby d1_31) rfl ?_
      show Steps p.tables e below (T0.setTop (mkF m 32 #[.val (.long j0), .second, .val (.ref a2), .val (.int (i3 + (-1 : Int32))), .val (.long j4), .second] [(.long ((48 : Int64) - (j4 - (j4 / (10 : Int64)) * (10 : Int64)))), (.int (i3 + (-1 : Int32))), (.ref a2)])) _
      refine XS.l2i X0.here hx rfl (hb hby d1_32) rfl ?_
      show Steps p.tables e below (T0.setTop (mkF m 33 #[.val (.long j0), .second, .val (.ref a2), .val (.int (i3 + (-1 : Int32))), .val (.long j4), .second] [(.int (((48 : Int64) - (j4 - (j4 / (10 : Int64)) * (10 : Int64))).toInt32)), (.int (i3 + (-1 : Int32))), (.ref a2)])) _
      refine XS.i2b X0.here hx rfl (hb hby d1_33) rfl ?_
      show Steps p.tables e below (T0.setTop (mkF m 34 #[.val (.long j0), .second, .val (.ref a2), .val (.int (i3 + (-1 : Int32))), .val (.long j4), .second] [(.int ((((48 : Int64) - (j4 - (j4 / (10 : Int64)) * (10 : Int64))).toInt32).toInt8.toInt32)), (.int (i3 + (-1 : Int32))), (.ref a2)])) _
      refine st1 _ ?_
      show Steps p.tables e below (T1.setTop (mkF m 35 #[.val (.long j0), .second, .val (.ref a2), .val (.int (i3 + (-1 : Int32))), .val (.long j4), .second] [])) _
      refine XS.lload X1.here hx rfl (hb hby d1_35) rfl ?_
      show Steps p.tables e below (T1.setTop (mkF m 37 #[.val (.long j0), .second, .val (.ref a2), .val (.int (i3 + (-1 : Int32))), .val (.long j4), .second] [(.long j4)])) _
      refine X1.ldc2Long hx hown (mvT hZ (hw _ (List.mem_of_getElem? (i := 6) rfl))) (g := (mkF m 37 #[.val (.long j0), .second, .val (.ref a2), .val (.int (i3 + (-1 : Int32))), .val (.long j4), .second] [(.long j4)])) rfl (hb hby d1_37) _ ?_
      show Steps p.tables e below (T1.setTop (mkF m 40 #[.val (.long j0), .second, .val (.ref a2), .val (.int (i3 + (-1 : Int32))), .val (.long j4), .second] [(.long (10 : Int64)), (.long j4)])) _
      refine XS.ldiv X1.here hx rfl (hb hby d1_40) rfl (by decide) ?_
      show Steps p.tables e below (T1.setTop (mkF m 41 #[.val (.long j0), .second, .val (.ref a2), .val (.int (i3 + (-1 : Int32))), .val (.long j4), .second] [(.long (j4 / (10 : Int64)))])) _
      refine XS.lstore X1.here hx rfl (hb hby d1_41) rfl (l' := #[.val (.long j0), .second, .val (.ref a2), .val (.int (i3 + (-1 : Int32))), .val (.long (j4 / (10 : Int64))), .second]) rfl ?_
      show Steps p.tables e below (T1.setTop (mkF m 43 #[.val (.long j0), .second, .val (.ref a2), .val (.int (i3 + (-1 : Int32))), .val (.long (j4 / (10 : Int64))), .second] [])) _
      refine XS.lload X1.here hx rfl (hb hby d1_43) rfl ?_
      show Steps p.tables e below (T1.setTop (mkF m 45 #[.val (.long j0), .second, .val (.ref a2), .val (.int (i3 + (-1 : Int32))), .val (.long (j4 / (10 : Int64))), .second] [(.long (j4 / (10 : Int64)))])) _
      refine XS.lconst X1.here hx rfl (hb hby d1_45) ?_
      show Steps p.tables e below (T1.setTop (mkF m 46 #[.val (.long j0), .second, .val (.ref a2), .val (.int (i3 + (-1 : Int32))), .val (.long (j4 / (10 : Int64))), .second] [(.long (0 : Int64)), (.long (j4 / (10 : Int64)))])) _
      refine XS.lcmp X1.here hx rfl (hb hby d1_46) rfl ?_
      exact kt
    by_cases hc47 : (j4 / (10 : Int64)) = (0 : Int64)
    · have pre3 : ∀ target, Steps p.tables e below (T1.setTop (mkF m 53 #[.val (.long j0), .second, .val (.ref a2), .val (.int (i3 + (-1 : Int32))), .val (.long (j4 / (10 : Int64))), .second] [(.int (lcmpW j0 (0 : Int64)))])) target → Steps p.tables e below (T0.setTop (mkF m 17 #[.val (.long j0), .second, .val (.ref a2), .val (.int i3), .val (.long j4), .second] [])) target := by
        intro target kt
        refine pre2 target ?_
        show Steps p.tables e below (T1.setTop (mkF m 47 #[.val (.long j0), .second, .val (.ref a2), .val (.int (i3 + (-1 : Int32))), .val (.long (j4 / (10 : Int64))), .second] [(.int (lcmpW (j4 / (10 : Int64)) (0 : Int64)))])) _
        refine XS.ifNo X1.here hx rfl (hb hby d1_47) rfl ((if0 _ _).trans (teq ((lw_eq _ _).mpr hc47)).2) ?_
        show Steps p.tables e below (T1.setTop (mkF m 50 #[.val (.long j0), .second, .val (.ref a2), .val (.int (i3 + (-1 : Int32))), .val (.long (j4 / (10 : Int64))), .second] [])) _
        refine XS.lloadN X1.here hx rfl (hb hby d1_50) rfl ?_
        show Steps p.tables e below (T1.setTop (mkF m 51 #[.val (.long j0), .second, .val (.ref a2), .val (.int (i3 + (-1 : Int32))), .val (.long (j4 / (10 : Int64))), .second] [(.long j0)])) _
        refine XS.lconst X1.here hx rfl (hb hby d1_51) ?_
        show Steps p.tables e below (T1.setTop (mkF m 52 #[.val (.long j0), .second, .val (.ref a2), .val (.int (i3 + (-1 : Int32))), .val (.long (j4 / (10 : Int64))), .second] [(.long (0 : Int64)), (.long j0)])) _
        refine XS.lcmp X1.here hx rfl (hb hby d1_52) rfl ?_
        exact kt
      by_cases hc53 : j0 < (0 : Int64)
      · have hix63 : ¬ ((i3 + (-1 : Int32)) + (-1 : Int32)) < 0 ∧ ((i3 + (-1 : Int32)) + (-1 : Int32)) < n_a2 := by exact own_fx1 hI
        obtain ⟨T4, h4, X4, e4, W4, V4, st4⟩ := own_stB X1 hx hZ e1 V_a2_k1 hix63 (g := (mkF m 63 #[.val (.long j0), .second, .val (.ref a2), .val (.int ((i3 + (-1 : Int32)) + (-1 : Int32))), .val (.long (j4 / (10 : Int64))), .second] [(.int (45 : Int32)), (.int ((i3 + (-1 : Int32)) + (-1 : Int32))), (.ref a2)])) rfl rfl (hb hby d1_63)
        have N4 := Fr.snoc X4 N1 g_a2
        have Z4 : n0 ≤ h4.size := Nat.le_trans Z1 (Keep.of_wr W4).1
        have K4 : Keep h0 h4 [a2] := K1.wr W4 (Or.inl (List.mem_of_getElem? (i := 0) rfl))
        have V_a2_k4 := V4
        have ho_A : (own_o1_A_17 (k + 1) j0 i3 j4 n_a2 A_a2) = (own_up (own_up A_a2 (i3 + (-1 : Int32)).toNatClampNeg (((((48 : Int64) - (j4 - (j4 / (10 : Int64)) * (10 : Int64))).toInt32).toInt8.toInt32).toInt8.toInt32)) ((i3 + (-1 : Int32)) + (-1 : Int32)).toNatClampNeg ((45 : Int32).toInt8.toInt32)) := by rw [own_o1_A_17_s]; rw [if_pos hc47, if_pos hc53]
        refine ⟨T4, _, _, X4, e4, N4, K4, (by rw [ho_A]; exact V_a2_k4), fun fs hr => ?_⟩
        have hv : (own_f1_17 (k + 1) j0 i3 j4 n_a2 A_a2) = ((i3 + (-1 : Int32)) + (-1 : Int32)) := by rw [own_f1_17_s]; rw [if_pos hc47, if_pos hc53]
        rw [hv] at hr
        refine pre3 _ ?_
        show Steps p.tables e below (T1.setTop (mkF m 53 #[.val (.long j0), .second, .val (.ref a2), .val (.int (i3 + (-1 : Int32))), .val (.long (j4 / (10 : Int64))), .second] [(.int (lcmpW j0 (0 : Int64)))])) _
        refine XS.ifNo X1.here hx rfl (hb hby d1_53) rfl ((if0 _ _).trans (tlt ((lw_lt _ _).mpr hc53)).2.1) ?_
        show Steps p.tables e below (T1.setTop (mkF m 56 #[.val (.long j0), .second, .val (.ref a2), .val (.int (i3 + (-1 : Int32))), .val (.long (j4 / (10 : Int64))), .second] [])) _
        refine XS.aloadN X1.here hx rfl (hb hby d1_56) rfl rfl ?_
        show Steps p.tables e below (T1.setTop (mkF m 57 #[.val (.long j0), .second, .val (.ref a2), .val (.int (i3 + (-1 : Int32))), .val (.long (j4 / (10 : Int64))), .second] [(.ref a2)])) _
        refine XS.iinc X1.here hx rfl (hb hby d1_57) rfl (l' := #[.val (.long j0), .second, .val (.ref a2), .val (.int ((i3 + (-1 : Int32)) + (-1 : Int32))), .val (.long (j4 / (10 : Int64))), .second]) rfl ?_
        show Steps p.tables e below (T1.setTop (mkF m 60 #[.val (.long j0), .second, .val (.ref a2), .val (.int ((i3 + (-1 : Int32)) + (-1 : Int32))), .val (.long (j4 / (10 : Int64))), .second] [(.ref a2)])) _
        refine XS.iloadN X1.here hx rfl (hb hby d1_60) rfl ?_
        show Steps p.tables e below (T1.setTop (mkF m 61 #[.val (.long j0), .second, .val (.ref a2), .val (.int ((i3 + (-1 : Int32)) + (-1 : Int32))), .val (.long (j4 / (10 : Int64))), .second] [(.int ((i3 + (-1 : Int32)) + (-1 : Int32))), (.ref a2)])) _
        refine XS.bipush X1.here hx rfl (hb hby d1_61) ?_
        show Steps p.tables e below (T1.setTop (mkF m 63 #[.val (.long j0), .second, .val (.ref a2), .val (.int ((i3 + (-1 : Int32)) + (-1 : Int32))), .val (.long (j4 / (10 : Int64))), .second] [(.int (45 : Int32)), (.int ((i3 + (-1 : Int32)) + (-1 : Int32))), (.ref a2)])) _
        refine st4 _ ?_
        show Steps p.tables e below (T4.setTop (mkF m 64 #[.val (.long j0), .second, .val (.ref a2), .val (.int ((i3 + (-1 : Int32)) + (-1 : Int32))), .val (.long (j4 / (10 : Int64))), .second] [])) _
        refine XS.iloadN X4.here hx rfl (hb hby d1_64) rfl ?_
        show Steps p.tables e below (T4.setTop (mkF m 65 #[.val (.long j0), .second, .val (.ref a2), .val (.int ((i3 + (-1 : Int32)) + (-1 : Int32))), .val (.long (j4 / (10 : Int64))), .second] [(.int ((i3 + (-1 : Int32)) + (-1 : Int32)))])) _
        exact retI X4 hx hret (hb hby d1_65) hr
      · have ho_A : (own_o1_A_17 (k + 1) j0 i3 j4 n_a2 A_a2) = (own_up A_a2 (i3 + (-1 : Int32)).toNatClampNeg (((((48 : Int64) - (j4 - (j4 / (10 : Int64)) * (10 : Int64))).toInt32).toInt8.toInt32).toInt8.toInt32)) := by rw [own_o1_A_17_s]; rw [if_pos hc47, if_neg hc53]
        refine ⟨T1, _, _, X1, e1, N1, K1, (by rw [ho_A]; exact V_a2_k1), fun fs hr => ?_⟩
        have hv : (own_f1_17 (k + 1) j0 i3 j4 n_a2 A_a2) = (i3 + (-1 : Int32)) := by rw [own_f1_17_s]; rw [if_pos hc47, if_neg hc53]
        rw [hv] at hr
        refine pre3 _ ?_
        show Steps p.tables e below (T1.setTop (mkF m 53 #[.val (.long j0), .second, .val (.ref a2), .val (.int (i3 + (-1 : Int32))), .val (.long (j4 / (10 : Int64))), .second] [(.int (lcmpW j0 (0 : Int64)))])) _
        refine XS.ifYes X1.here hx rfl (pc0 := 53) (pc' := 64) rfl (hb hby d1_53) rfl ((if0 _ _).trans (flt (mt (lw_lt _ _).mp hc53)).2.1) (by decide) (by decide) ?_
        show Steps p.tables e below (T1.setTop (mkF m 64 #[.val (.long j0), .second, .val (.ref a2), .val (.int (i3 + (-1 : Int32))), .val (.long (j4 / (10 : Int64))), .second] [])) _
        refine XS.iloadN X1.here hx rfl (hb hby d1_64) rfl ?_
        show Steps p.tables e below (T1.setTop (mkF m 65 #[.val (.long j0), .second, .val (.ref a2), .val (.int (i3 + (-1 : Int32))), .val (.long (j4 / (10 : Int64))), .second] [(.int (i3 + (-1 : Int32)))])) _
        exact retI X1 hx hret (hb hby d1_65) hr
    · have pre5 : ∀ target, Steps p.tables e below (T1.setTop (mkF m 17 #[.val (.long j0), .second, .val (.ref a2), .val (.int (i3 + (-1 : Int32))), .val (.long (j4 / (10 : Int64))), .second] [])) target → Steps p.tables e below (T0.setTop (mkF m 17 #[.val (.long j0), .second, .val (.ref a2), .val (.int i3), .val (.long j4), .second] [])) target := by
        intro target kt
        refine pre2 target ?_
        show Steps p.tables e below (T1.setTop (mkF m 47 #[.val (.long j0), .second, .val (.ref a2), .val (.int (i3 + (-1 : Int32))), .val (.long (j4 / (10 : Int64))), .second] [(.int (lcmpW (j4 / (10 : Int64)) (0 : Int64)))])) _
        refine XS.ifYes X1.here hx rfl (pc0 := 47) (pc' := 17) rfl (hb hby d1_47) rfl ((if0 _ _).trans (feq (mt (lw_eq _ _).mp hc47)).2) (by decide) (by decide) ?_
        exact kt
      have hI6 : 2 ≤ (i3 + (-1 : Int32)).toInt ∧ (i3 + (-1 : Int32)).toInt ≤ n_a2.toInt ∧ (j4 / (10 : Int64)).toInt.natAbs < 10 ^ ((i3 + (-1 : Int32)).toInt.toNat - 1) := by exact own_fv1 hI hc47
      have hk6 : (j4 / (10 : Int64)).toInt.natAbs < k := by exact own_fm hc47 hk
      obtain ⟨T6, h6', L6, X6, e6, N6, K6', G6_0, st6⟩ := ih j0 a2 (i3 + (-1 : Int32)) (j4 / (10 : Int64)) n_a2 (own_up A_a2 (i3 + (-1 : Int32)).toNatClampNeg (((((48 : Int64) - (j4 - (j4 / (10 : Int64)) * (10 : Int64))).toInt32).toInt8.toInt32).toInt8.toInt32)) X1 e1 N1 Z1 g_a2 V_a2_k1 hI6 hk6
      have ho6_A : (own_o1_A_17 (k + 1) j0 i3 j4 n_a2 A_a2) = (own_o1_A_17 k j0 (i3 + (-1 : Int32)) (j4 / (10 : Int64)) n_a2 (own_up A_a2 (i3 + (-1 : Int32)).toNatClampNeg (((((48 : Int64) - (j4 - (j4 / (10 : Int64)) * (10 : Int64))).toInt32).toInt8.toInt32).toInt8.toInt32))) := by rw [own_o1_A_17_s]; rw [if_neg hc47]
      have hv : (own_f1_17 (k + 1) j0 i3 j4 n_a2 A_a2) = (own_f1_17 k j0 (i3 + (-1 : Int32)) (j4 / (10 : Int64)) n_a2 (own_up A_a2 (i3 + (-1 : Int32)).toNatClampNeg (((((48 : Int64) - (j4 - (j4 / (10 : Int64)) * (10 : Int64))).toInt32).toInt8.toInt32).toInt8.toInt32))) := by rw [own_f1_17_s]; rw [if_neg hc47]
      exact ⟨T6, h6', L6, X6, e6, N6, (K1).trans K6' (fun _ hx_ => Or.inl hx_), (by rw [ho6_A]; exact G6_0), fun fs hr => pre5 _ (st6 fs (by rw [hv] at hr; exact hr))⟩
set_option maxRecDepth 65536 in
set_option maxHeartbeats 40000000 in
theorem own_b1_15 {p : Program} {l : Launch} {e : Env} {s : State} {m : MethodId} {args : Array Value} {below : List Frame} {meth : Method} {c : Code} {Z : State} {a0_ : Array Value} {n0 : Nat} (hx : p.tables.exec = Jvm.exec) (hZ : Z.Warmed39 s.vm) (hw : ∀ d ∈ tables_1, d.before a0_ Z = true) (hby : c.code = prog_28_method_3_code) (hml : c.maxLocals = 6) (hown : s.vm.findClass "com/example/rollcalldb/rollcalldb/resp/Decimal" = some m.cls) (hret : meth.sig.returnType = some .int) {T0 : State} {locs : List Loc} {h0 : Heap} (j0 : Int64) (a2 : Addr) (i3 : Int32) (v0 : Int64) (n_a2 : Int32) (A_a2 : Nat → Int32)
    (X0 : Stand p l e ({ frames := 0, cells := 0, slots := 0, locals := 0 } : Room) s m args below meth c T0 locs 0 0) (e0 : T0.heap = h0) (N0 : Fr n0 locs) (Z0 : n0 ≤ h0.size) (g_a2 : n0 ≤ a2) (V_a2 : own_Ar Z h0 a2 .byte n_a2 A_a2) (hI : 20 ≤ n_a2.toInt ∧ i3 = n_a2) :
    ∃ T' h' locs', Stand p l e ({ frames := 0, cells := 0, slots := 0, locals := 0 } : Room) s m args below meth c T' locs' 0 0 ∧ T'.heap = h' ∧ Fr n0 locs' ∧ Keep h0 h' [a2] ∧ own_Ar Z h' a2 .byte n_a2 (own_o1_A_15 j0 i3 v0 n_a2 A_a2) ∧ ∀ fs, (∀ (f : JFrame) (acts : List Action), f.method = m → f.locked = none → f.entered = [] → (doReturn e (T'.setTop f) acts (some (.int (own_f1_15 j0 i3 v0 n_a2 A_a2)))).1 = T'.setFrames fs) → Steps p.tables e below (T0.setTop (mkF m 15 #[.val (.long j0), .second, .val (.ref a2), .val (.int i3), .unset, .unset] [(.long v0)])) (T'.setFrames fs) := by
  have pre1 : ∀ target, Steps p.tables e below (T0.setTop (mkF m 17 #[.val (.long j0), .second, .val (.ref a2), .val (.int i3), .val (.long v0), .second] [])) target → Steps p.tables e below (T0.setTop (mkF m 15 #[.val (.long j0), .second, .val (.ref a2), .val (.int i3), .unset, .unset] [(.long v0)])) target := by
    intro target kt
    show Steps p.tables e below (T0.setTop (mkF m 15 #[.val (.long j0), .second, .val (.ref a2), .val (.int i3), .unset, .unset] [(.long v0)])) _
    refine XS.lstore X0.here hx rfl (hb hby d1_15) rfl (l' := #[.val (.long j0), .second, .val (.ref a2), .val (.int i3), .val (.long v0), .second]) rfl ?_
    exact kt
  have hI2 : 2 ≤ i3.toInt ∧ i3.toInt ≤ n_a2.toInt ∧ v0.toInt.natAbs < 10 ^ (i3.toInt.toNat - 1) := by exact own_fv0 _ hI
  have hk2 : v0.toInt.natAbs < v0.toInt.natAbs + 1 := by exact Nat.lt_succ_self _
  obtain ⟨T2, h2', L2, X2, e2, N2, K2', G2_0, st2⟩ := own_b1_17 hx hZ hw hby hml hown hret (v0.toInt.natAbs + 1) j0 a2 i3 v0 n_a2 A_a2 X0 e0 N0 Z0 g_a2 V_a2 hI2 hk2
  have ho2_A : (own_o1_A_15 j0 i3 v0 n_a2 A_a2) = (own_o1_A_17 (v0.toInt.natAbs + 1) j0 i3 v0 n_a2 A_a2) := by unfold own_o1_A_15; rfl
  have hv : (own_f1_15 j0 i3 v0 n_a2 A_a2) = (own_f1_17 (v0.toInt.natAbs + 1) j0 i3 v0 n_a2 A_a2) := by unfold own_f1_15; rfl
  exact ⟨T2, h2', L2, X2, e2, N2, ((Keep.refl h0 [a2])).trans K2' (fun _ hx_ => Or.inl hx_), (by rw [ho2_A]; exact G2_0), fun fs hr => pre1 _ (st2 fs (by rw [hv] at hr; exact hr))⟩
set_option maxRecDepth 65536 in
set_option maxHeartbeats 40000000 in
theorem own_b1_0 {p : Program} {l : Launch} {e : Env} {s : State} {m : MethodId} {args : Array Value} {below : List Frame} {meth : Method} {c : Code} {Z : State} {a0_ : Array Value} {n0 : Nat} (hx : p.tables.exec = Jvm.exec) (hZ : Z.Warmed39 s.vm) (hw : ∀ d ∈ tables_1, d.before a0_ Z = true) (hby : c.code = prog_28_method_3_code) (hml : c.maxLocals = 6) (hown : s.vm.findClass "com/example/rollcalldb/rollcalldb/resp/Decimal" = some m.cls) (hret : meth.sig.returnType = some .int) {T0 : State} {locs : List Loc} {h0 : Heap} (j0 : Int64) (a2 : Addr) (n_a2 : Int32) (A_a2 : Nat → Int32)
    (X0 : Stand p l e ({ frames := 0, cells := 0, slots := 0, locals := 0 } : Room) s m args below meth c T0 locs 0 0) (e0 : T0.heap = h0) (N0 : Fr n0 locs) (Z0 : n0 ≤ h0.size) (g_a2 : n0 ≤ a2) (V_a2 : own_Ar Z h0 a2 .byte n_a2 A_a2) (hI : 20 ≤ n_a2.toInt) :
    ∃ T' h' locs', Stand p l e ({ frames := 0, cells := 0, slots := 0, locals := 0 } : Room) s m args below meth c T' locs' 0 0 ∧ T'.heap = h' ∧ Fr n0 locs' ∧ Keep h0 h' [a2] ∧ own_Ar Z h' a2 .byte n_a2 (own_o1_A j0 n_a2 A_a2) ∧ ∀ fs, (∀ (f : JFrame) (acts : List Action), f.method = m → f.locked = none → f.entered = [] → (doReturn e (T'.setTop f) acts (some (.int (own_f1_0 j0 n_a2 A_a2)))).1 = T'.setFrames fs) → Steps p.tables e below (T0.setTop (mkF m 0 #[.val (.long j0), .second, .val (.ref a2), .unset, .unset, .unset] [])) (T'.setFrames fs) := by
  have pre1 : ∀ target, Steps p.tables e below (T0.setTop (mkF m 6 #[.val (.long j0), .second, .val (.ref a2), .val (.int n_a2), .unset, .unset] [(.int (lcmpW j0 (0 : Int64)))])) target → Steps p.tables e below (T0.setTop (mkF m 0 #[.val (.long j0), .second, .val (.ref a2), .unset, .unset, .unset] [])) target := by
    intro target kt
    show Steps p.tables e below (T0.setTop (mkF m 0 #[.val (.long j0), .second, .val (.ref a2), .unset, .unset, .unset] [])) _
    refine XS.aloadN X0.here hx rfl (hb hby d1_0) rfl rfl ?_
    show Steps p.tables e below (T0.setTop (mkF m 1 #[.val (.long j0), .second, .val (.ref a2), .unset, .unset, .unset] [(.ref a2)])) _
    refine own_alen X0 hx hZ e0 V_a2 (g := (mkF m 1 #[.val (.long j0), .second, .val (.ref a2), .unset, .unset, .unset] [(.ref a2)])) rfl rfl (hb hby d1_1) _ ?_
    show Steps p.tables e below (T0.setTop (mkF m 2 #[.val (.long j0), .second, .val (.ref a2), .unset, .unset, .unset] [(.int n_a2)])) _
    refine XS.istoreN X0.here hx rfl (hb hby d1_2) rfl (l' := #[.val (.long j0), .second, .val (.ref a2), .val (.int n_a2), .unset, .unset]) rfl ?_
    show Steps p.tables e below (T0.setTop (mkF m 3 #[.val (.long j0), .second, .val (.ref a2), .val (.int n_a2), .unset, .unset] [])) _
    refine XS.lloadN X0.here hx rfl (hb hby d1_3) rfl ?_
    show Steps p.tables e below (T0.setTop (mkF m 4 #[.val (.long j0), .second, .val (.ref a2), .val (.int n_a2), .unset, .unset] [(.long j0)])) _
    refine XS.lconst X0.here hx rfl (hb hby d1_4) ?_
    show Steps p.tables e below (T0.setTop (mkF m 5 #[.val (.long j0), .second, .val (.ref a2), .val (.int n_a2), .unset, .unset] [(.long (0 : Int64)), (.long j0)])) _
    refine XS.lcmp X0.here hx rfl (hb hby d1_5) rfl ?_
    exact kt
  by_cases hc6 : j0 < (0 : Int64)
  · have pre2 : ∀ target, Steps p.tables e below (T0.setTop (mkF m 15 #[.val (.long j0), .second, .val (.ref a2), .val (.int n_a2), .unset, .unset] [(.long j0)])) target → Steps p.tables e below (T0.setTop (mkF m 0 #[.val (.long j0), .second, .val (.ref a2), .unset, .unset, .unset] [])) target := by
      intro target kt
      refine pre1 target ?_
      show Steps p.tables e below (T0.setTop (mkF m 6 #[.val (.long j0), .second, .val (.ref a2), .val (.int n_a2), .unset, .unset] [(.int (lcmpW j0 (0 : Int64)))])) _
      refine XS.ifNo X0.here hx rfl (hb hby d1_6) rfl ((if0 _ _).trans (tlt ((lw_lt _ _).mpr hc6)).2.1) ?_
      show Steps p.tables e below (T0.setTop (mkF m 9 #[.val (.long j0), .second, .val (.ref a2), .val (.int n_a2), .unset, .unset] [])) _
      refine XS.lloadN X0.here hx rfl (hb hby d1_9) rfl ?_
      show Steps p.tables e below (T0.setTop (mkF m 10 #[.val (.long j0), .second, .val (.ref a2), .val (.int n_a2), .unset, .unset] [(.long j0)])) _
      refine XS.goto X0.here hx rfl (pc0 := 10) (pc' := 15) rfl (hb hby d1_10) (by decide) (by decide) ?_
      exact kt
    have hI3 : 20 ≤ n_a2.toInt ∧ n_a2 = n_a2 := by exact ⟨hI, rfl⟩
    obtain ⟨T3, h3', L3, X3, e3, N3, K3', G3_0, st3⟩ := own_b1_15 hx hZ hw hby hml hown hret j0 a2 n_a2 j0 n_a2 A_a2 X0 e0 N0 Z0 g_a2 V_a2 hI3
    have ho3_A : (own_o1_A j0 n_a2 A_a2) = (own_o1_A_15 j0 n_a2 j0 n_a2 A_a2) := by unfold own_o1_A; rw [if_pos hc6]
    have hv : (own_f1_0 j0 n_a2 A_a2) = (own_f1_15 j0 n_a2 j0 n_a2 A_a2) := by unfold own_f1_0; rw [if_pos hc6]
    exact ⟨T3, h3', L3, X3, e3, N3, ((Keep.refl h0 [a2])).trans K3' (fun _ hx_ => Or.inl hx_), (by rw [ho3_A]; exact G3_0), fun fs hr => pre2 _ (st3 fs (by rw [hv] at hr; exact hr))⟩
  · have pre4 : ∀ target, Steps p.tables e below (T0.setTop (mkF m 15 #[.val (.long j0), .second, .val (.ref a2), .val (.int n_a2), .unset, .unset] [(.long (-j0))])) target → Steps p.tables e below (T0.setTop (mkF m 0 #[.val (.long j0), .second, .val (.ref a2), .unset, .unset, .unset] [])) target := by
      intro target kt
      refine pre1 target ?_
      show Steps p.tables e below (T0.setTop (mkF m 6 #[.val (.long j0), .second, .val (.ref a2), .val (.int n_a2), .unset, .unset] [(.int (lcmpW j0 (0 : Int64)))])) _
      refine XS.ifYes X0.here hx rfl (pc0 := 6) (pc' := 13) rfl (hb hby d1_6) rfl ((if0 _ _).trans (flt (mt (lw_lt _ _).mp hc6)).2.1) (by decide) (by decide) ?_
      show Steps p.tables e below (T0.setTop (mkF m 13 #[.val (.long j0), .second, .val (.ref a2), .val (.int n_a2), .unset, .unset] [])) _
      refine XS.lloadN X0.here hx rfl (hb hby d1_13) rfl ?_
      show Steps p.tables e below (T0.setTop (mkF m 14 #[.val (.long j0), .second, .val (.ref a2), .val (.int n_a2), .unset, .unset] [(.long j0)])) _
      refine XS.lneg X0.here hx rfl (hb hby d1_14) rfl ?_
      exact kt
    have hI5 : 20 ≤ n_a2.toInt ∧ n_a2 = n_a2 := by exact ⟨hI, rfl⟩
    obtain ⟨T5, h5', L5, X5, e5, N5, K5', G5_0, st5⟩ := own_b1_15 hx hZ hw hby hml hown hret j0 a2 n_a2 (-j0) n_a2 A_a2 X0 e0 N0 Z0 g_a2 V_a2 hI5
    have ho5_A : (own_o1_A j0 n_a2 A_a2) = (own_o1_A_15 j0 n_a2 (-j0) n_a2 A_a2) := by unfold own_o1_A; rw [if_neg hc6]
    have hv : (own_f1_0 j0 n_a2 A_a2) = (own_f1_15 j0 n_a2 (-j0) n_a2 A_a2) := by unfold own_f1_0; rw [if_neg hc6]
    exact ⟨T5, h5', L5, X5, e5, N5, ((Keep.refl h0 [a2])).trans K5' (fun _ hx_ => Or.inl hx_), (by rw [ho5_A]; exact G5_0), fun fs hr => pre4 _ (st5 fs (by rw [hv] at hr; exact hr))⟩
def Q1 (Z : State) (j0 : Int64) (a2 : Addr) (n_a2 : Int32) (A_a2 : Nat → Int32) (h0 : Heap) (n0 : Nat) (v : Option Value) (h : Heap) (L : List Loc) : Prop := v = some (.int (own_f1_0 j0 n_a2 A_a2)) ∧ Fr n0 L ∧ Keep h0 h [a2] ∧ own_Ar Z h a2 .byte n_a2 (own_o1_A j0 n_a2 A_a2)
set_option maxRecDepth 65536 in
set_option maxHeartbeats 40000000 in
theorem rm1 (l : Launch) (Z : State) (a0_ : Array Value) (hw : ∀ d ∈ tables_1, d.before a0_ Z = true) (ws : List Jvm.Cond) (j0 : Int64) (a2 : Addr) (n_a2 : Int32) (A_a2 : Nat → Int32) (h0 : Heap) (n0 : Nat) (Z0 : n0 ≤ h0.size) (g_a2 : n0 ≤ a2) (V_a2 : own_Ar Z h0 a2 .byte n_a2 A_a2) (hI : 20 ≤ n_a2.toInt) :
    MetFree l (⟨"com/example/rollcalldb/rollcalldb/resp/Decimal", "format", "(J[B)I"⟩ : MethodName) (head1 (Jvm.Cond.code (⟨"com/example/rollcalldb/rollcalldb/resp/Decimal", "format", "(J[B)I"⟩ : MethodName) prog_28_method_3_code 6 (some .int) :: ws) ({ frames := 0, cells := 0, slots := 0, locals := 0 } : Room)) (fun a U => a = #[(.long j0), (.ref a2)] ∧ Z.Warmed39 U.vm ∧ U.heap = h0) (fun _ _ _ _ _ => True) (fun _ U o U' => ∃ v L, o = .returned v ∧ Q1 Z j0 a2 n_a2 A_a2 h0 n0 v U'.heap L ∧ FrameEnd U o U' L ({ frames := 0, cells := 0, slots := 0, locals := 0 } : Room).cells ({ frames := 0, cells := 0, slots := 0, locals := 0 } : Room).slots) := by
  refine MetFree.of_bodySF (plainFor_of_name pn_1) hisR ?_
  intro p e s m args below meth c s₁ Bd hml0 hP hK
  obtain ⟨rfl, hZ, hh⟩ := hP
  have hx := Bd.exec
  have hby := Bd.bytes
  have hml : c.maxLocals = 6 := hml0
  have hown : s.vm.findClass "com/example/rollcalldb/rollcalldb/resp/Decimal" = some m.cls := findClass_of_methodNamed Bd.named
  have X0 : Stand p l e ({ frames := 0, cells := 0, slots := 0, locals := 0 } : Room) s m #[(.long j0), (.ref a2)] below meth c s₁ [] 0 0 := Stand.of_body Bd
  have e0 : s₁.heap = h0 := by rw [← hh, Bd.state]; rfl
  obtain ⟨T', h', L', X', e', N', K', G0', st'⟩ := own_b1_0 hx hZ hw hby hml hown Bd.returns  j0 a2 n_a2 A_a2 X0 e0 (Fr.nil n0) Z0 g_a2 V_a2 hI
  obtain ⟨fs, hr, hrun, hended, hW, hsame⟩ := X'.leave (v := some (.int (own_f1_0 j0 n_a2 A_a2))) (fun h => by rw [Bd.returns] at h; cases h)
  refine ⟨_, _, castTop (ef_1 m j0 a2) (st' fs hr), hrun, hended, _, _, rfl, ?_, ⟨_, rfl⟩, hW, hsame.mono (by decide) (by decide)⟩
  subst e'
  exact ⟨rfl, N', K', G0'⟩
theorem d2_0 : decode prog_28_method_2_code 0 = .ok (.iload_n 2, 1) := by decide +kernel
theorem d2_1 : decode prog_28_method_2_code 1 = .ok (.iload_n 1, 1) := by decide +kernel
theorem d2_2 : decode prog_28_method_2_code 2 = .ok (.if_icmp .le 15, 3) := by decide +kernel
theorem d2_5 : decode prog_28_method_2_code 5 = .ok (.aload_n 0, 1) := by decide +kernel
theorem d2_6 : decode prog_28_method_2_code 6 = .ok (.iload_n 1, 1) := by decide +kernel
theorem d2_7 : decode prog_28_method_2_code 7 = .ok (.baload, 1) := by decide +kernel
theorem d2_8 : decode prog_28_method_2_code 8 = .ok (.bipush 45, 2) := by decide +kernel
theorem d2_10 : decode prog_28_method_2_code 10 = .ok (.if_icmp .ne 7, 3) := by decide +kernel
theorem d2_13 : decode prog_28_method_2_code 13 = .ok (.iconst 1, 1) := by decide +kernel
theorem d2_14 : decode prog_28_method_2_code 14 = .ok (.goto 4, 3) := by decide +kernel
theorem d2_17 : decode prog_28_method_2_code 17 = .ok (.iconst 0, 1) := by decide +kernel
theorem d2_18 : decode prog_28_method_2_code 18 = .ok (.istore_n 3, 1) := by decide +kernel
theorem d2_19 : decode prog_28_method_2_code 19 = .ok (.iload_n 3, 1) := by decide +kernel
theorem d2_20 : decode prog_28_method_2_code 20 = .ok (.ifCond .eq 9, 3) := by decide +kernel
theorem d2_23 : decode prog_28_method_2_code 23 = .ok (.iload_n 1, 1) := by decide +kernel
theorem d2_24 : decode prog_28_method_2_code 24 = .ok (.iconst 1, 1) := by decide +kernel
theorem d2_25 : decode prog_28_method_2_code 25 = .ok (.iadd, 1) := by decide +kernel
theorem d2_26 : decode prog_28_method_2_code 26 = .ok (.goto 4, 3) := by decide +kernel
theorem d2_29 : decode prog_28_method_2_code 29 = .ok (.iload_n 1, 1) := by decide +kernel
theorem d2_30 : decode prog_28_method_2_code 30 = .ok (.istore 4, 2) := by decide +kernel
theorem d2_32 : decode prog_28_method_2_code 32 = .ok (.iload 4, 2) := by decide +kernel
theorem d2_34 : decode prog_28_method_2_code 34 = .ok (.iload_n 2, 1) := by decide +kernel
theorem d2_35 : decode prog_28_method_2_code 35 = .ok (.if_icmp .ne 7, 3) := by decide +kernel
theorem d2_38 : decode prog_28_method_2_code 38 = .ok (.ldc2_w 11, 3) := by decide +kernel
theorem d2_41 : decode prog_28_method_2_code 41 = .ok (.lreturn, 1) := by decide +kernel
theorem d2_42 : decode prog_28_method_2_code 42 = .ok (.lconst 0, 1) := by decide +kernel
theorem d2_43 : decode prog_28_method_2_code 43 = .ok (.lstore 5, 2) := by decide +kernel
theorem d2_45 : decode prog_28_method_2_code 45 = .ok (.iload 4, 2) := by decide +kernel
theorem d2_47 : decode prog_28_method_2_code 47 = .ok (.istore 7, 2) := by decide +kernel
theorem d2_49 : decode prog_28_method_2_code 49 = .ok (.iload 7, 2) := by decide +kernel
theorem d2_51 : decode prog_28_method_2_code 51 = .ok (.iload_n 2, 1) := by decide +kernel
theorem d2_52 : decode prog_28_method_2_code 52 = .ok (.if_icmp .ge 63, 3) := by decide +kernel
theorem d2_55 : decode prog_28_method_2_code 55 = .ok (.aload_n 0, 1) := by decide +kernel
theorem d2_56 : decode prog_28_method_2_code 56 = .ok (.iload 7, 2) := by decide +kernel
theorem d2_58 : decode prog_28_method_2_code 58 = .ok (.baload, 1) := by decide +kernel
theorem d2_59 : decode prog_28_method_2_code 59 = .ok (.bipush 48, 2) := by decide +kernel
theorem d2_61 : decode prog_28_method_2_code 61 = .ok (.isub, 1) := by decide +kernel
theorem d2_62 : decode prog_28_method_2_code 62 = .ok (.istore 8, 2) := by decide +kernel
theorem d2_64 : decode prog_28_method_2_code 64 = .ok (.iload 8, 2) := by decide +kernel
theorem d2_66 : decode prog_28_method_2_code 66 = .ok (.ifCond .lt 27, 3) := by decide +kernel
theorem d2_69 : decode prog_28_method_2_code 69 = .ok (.iload 8, 2) := by decide +kernel
theorem d2_71 : decode prog_28_method_2_code 71 = .ok (.bipush 9, 2) := by decide +kernel
theorem d2_73 : decode prog_28_method_2_code 73 = .ok (.if_icmp .gt 20, 3) := by decide +kernel
theorem d2_76 : decode prog_28_method_2_code 76 = .ok (.lload 5, 2) := by decide +kernel
theorem d2_78 : decode prog_28_method_2_code 78 = .ok (.ldc2_w 13, 3) := by decide +kernel
theorem d2_81 : decode prog_28_method_2_code 81 = .ok (.iload 8, 2) := by decide +kernel
theorem d2_83 : decode prog_28_method_2_code 83 = .ok (.i2l, 1) := by decide +kernel
theorem d2_84 : decode prog_28_method_2_code 84 = .ok (.lsub, 1) := by decide +kernel
theorem d2_85 : decode prog_28_method_2_code 85 = .ok (.ldc2_w 15, 3) := by decide +kernel
theorem d2_88 : decode prog_28_method_2_code 88 = .ok (.ldiv, 1) := by decide +kernel
theorem d2_89 : decode prog_28_method_2_code 89 = .ok (.lcmp, 1) := by decide +kernel
theorem d2_90 : decode prog_28_method_2_code 90 = .ok (.ifCond .le 7, 3) := by decide +kernel
theorem d2_93 : decode prog_28_method_2_code 93 = .ok (.ldc2_w 11, 3) := by decide +kernel
theorem d2_96 : decode prog_28_method_2_code 96 = .ok (.lreturn, 1) := by decide +kernel
theorem d2_97 : decode prog_28_method_2_code 97 = .ok (.lload 5, 2) := by decide +kernel
theorem d2_99 : decode prog_28_method_2_code 99 = .ok (.ldc2_w 15, 3) := by decide +kernel
theorem d2_102 : decode prog_28_method_2_code 102 = .ok (.lmul, 1) := by decide +kernel
theorem d2_103 : decode prog_28_method_2_code 103 = .ok (.iload 8, 2) := by decide +kernel
theorem d2_105 : decode prog_28_method_2_code 105 = .ok (.i2l, 1) := by decide +kernel
theorem d2_106 : decode prog_28_method_2_code 106 = .ok (.ladd, 1) := by decide +kernel
theorem d2_107 : decode prog_28_method_2_code 107 = .ok (.lstore 5, 2) := by decide +kernel
theorem d2_109 : decode prog_28_method_2_code 109 = .ok (.iinc 7 1, 3) := by decide +kernel
theorem d2_112 : decode prog_28_method_2_code 112 = .ok (.goto (-63), 3) := by decide +kernel
theorem d2_115 : decode prog_28_method_2_code 115 = .ok (.iload_n 3, 1) := by decide +kernel
theorem d2_116 : decode prog_28_method_2_code 116 = .ok (.ifCond .eq 9, 3) := by decide +kernel
theorem d2_119 : decode prog_28_method_2_code 119 = .ok (.lload 5, 2) := by decide +kernel
theorem d2_121 : decode prog_28_method_2_code 121 = .ok (.lneg, 1) := by decide +kernel
theorem d2_122 : decode prog_28_method_2_code 122 = .ok (.goto 5, 3) := by decide +kernel
theorem d2_125 : decode prog_28_method_2_code 125 = .ok (.lload 5, 2) := by decide +kernel
theorem d2_127 : decode prog_28_method_2_code 127 = .ok (.lreturn, 1) := by decide +kernel
theorem pn_2 : plainName "com/example/rollcalldb/rollcalldb/resp/Decimal" = true := by first | (simp [plainName, overriddenIn]; done) | decide +kernel
theorem ef_2 (m : MethodId) (a0 : Addr) (i1 : Int32) (i2 : Int32) : entryFrame m #[(.ref a0), (.int i1), (.int i2)] 9 = mkF m 0 #[.val (.ref a0), .val (.int i1), .val (.int i2), .unset, .unset, .unset, .unset, .unset, .unset] [] := by first | (simp [entryFrame, mkF, argsToLocals, Value.category]; done) | rfl
theorem os2_62 {z0 : Value} {z1 : Value} {z2 : Value} {z3 : Value} {z4 : Value} {z5 : Value} {z7 : Value} {s8 : Slot} {v : Int32} (h : One s8) : storeLocals #[.val z0, .val z1, .val z2, .val z3, .val z4, .val z5, .second, .val z7, s8] 8 (.int v) = some #[.val z0, .val z1, .val z2, .val z3, .val z4, .val z5, .second, .val z7, .val (.int v)] := by
  rcases h with rfl | ⟨w, rfl, hw⟩
  · rfl
  · cases w <;> first | rfl | (simp [Value.category] at hw)
def own_f2_49 : Nat → (Int32) → (Int32) → (Int32) → (Int32) → (Int64) → (Int32) → (Int32) → (Nat → Int32) → (Int64)
  | 0, _, _, _, _, _, _, _, _ => 0
  | k + 1, i1, i2, i3, i4, j5, i7, n_a0, A_a0 => (if i7 < i2 then (if ((A_a0 i7.toNatClampNeg) - (48 : Int32)) < (0 : Int32) then (-9223372036854775808 : Int64) else (if (9 : Int32) < ((A_a0 i7.toNatClampNeg) - (48 : Int32)) then (-9223372036854775808 : Int64) else (if (((9223372036854775807 : Int64) - (((A_a0 i7.toNatClampNeg) - (48 : Int32)).toInt64)) / (10 : Int64)) < j5 then (-9223372036854775808 : Int64) else (own_f2_49 k i1 i2 i3 i4 ((j5 * (10 : Int64)) + (((A_a0 i7.toNatClampNeg) - (48 : Int32)).toInt64)) (i7 + (1 : Int32)) n_a0 A_a0)))) else (if i3 = (0 : Int32) then j5 else (-j5)))
theorem own_f2_49_s (k : Nat) (i1 : Int32) (i2 : Int32) (i3 : Int32) (i4 : Int32) (j5 : Int64) (i7 : Int32) (n_a0 : Int32) (A_a0 : Nat → Int32) : own_f2_49 (k + 1) i1 i2 i3 i4 j5 i7 n_a0 A_a0 =
  (if i7 < i2 then (if ((A_a0 i7.toNatClampNeg) - (48 : Int32)) < (0 : Int32) then (-9223372036854775808 : Int64) else (if (9 : Int32) < ((A_a0 i7.toNatClampNeg) - (48 : Int32)) then (-9223372036854775808 : Int64) else (if (((9223372036854775807 : Int64) - (((A_a0 i7.toNatClampNeg) - (48 : Int32)).toInt64)) / (10 : Int64)) < j5 then (-9223372036854775808 : Int64) else (own_f2_49 k i1 i2 i3 i4 ((j5 * (10 : Int64)) + (((A_a0 i7.toNatClampNeg) - (48 : Int32)).toInt64)) (i7 + (1 : Int32)) n_a0 A_a0)))) else (if i3 = (0 : Int32) then j5 else (-j5))) := rfl
def own_f2_30 (i1 : Int32) (i2 : Int32) (i3 : Int32) (u0 : Int32) (n_a0 : Int32) (A_a0 : Nat → Int32) : Int64 :=
  (if u0 = i2 then (-9223372036854775808 : Int64) else (own_f2_49 ((i2.toInt - u0.toInt).toNat + 1) i1 i2 i3 u0 (0 : Int64) u0 n_a0 A_a0))
def own_f2_18 (i1 : Int32) (i2 : Int32) (u0 : Int32) (n_a0 : Int32) (A_a0 : Nat → Int32) : Int64 :=
  (if u0 = (0 : Int32) then (own_f2_30 i1 i2 u0 i1 n_a0 A_a0) else (own_f2_30 i1 i2 u0 (i1 + (1 : Int32)) n_a0 A_a0))
def own_f2_17 (i1 : Int32) (i2 : Int32) (n_a0 : Int32) (A_a0 : Nat → Int32) : Int64 :=
  (own_f2_18 i1 i2 (0 : Int32) n_a0 A_a0)
def own_f2_0 (i1 : Int32) (i2 : Int32) (n_a0 : Int32) (A_a0 : Nat → Int32) : Int64 :=
  (if i1 < i2 then (if (A_a0 i1.toNatClampNeg) = (45 : Int32) then (own_f2_18 i1 i2 (1 : Int32) n_a0 A_a0) else (own_f2_17 i1 i2 n_a0 A_a0)) else (own_f2_17 i1 i2 n_a0 A_a0))
set_option maxRecDepth 65536 in
set_option maxHeartbeats 40000000 in
theorem own_b2_49 {p : Program} {l : Launch} {e : Env} {s : State} {m : MethodId} {args : Array Value} {below : List Frame} {meth : Method} {c : Code} {Z : State} {a0_ : Array Value} (hx : p.tables.exec = Jvm.exec) (hZ : Z.Warmed39 s.vm) (hw : ∀ d ∈ tables_1, d.before a0_ Z = true) (hby : c.code = prog_28_method_2_code) (hml : c.maxLocals = 9) (hown : s.vm.findClass "com/example/rollcalldb/rollcalldb/resp/Decimal" = some m.cls) (hret : meth.sig.returnType = some .long) :
    ∀ (k : Nat) {T0 : State} {locs : List Loc} {cells slots : Nat} {h0 : Heap} (a0 : Addr) (i1 : Int32) (i2 : Int32) (i3 : Int32) (i4 : Int32) (j5 : Int64) (i7 : Int32) (s8 : Slot) (n_a0 : Int32) (A_a0 : Nat → Int32) (X0 : Stand p l e ({ frames := 0, cells := 0, slots := 0, locals := 0 } : Room) s m args below meth c T0 locs cells slots) (e0 : T0.heap = h0) (hcl : cells ≤ ({ frames := 0, cells := 0, slots := 0, locals := 0 } : Room).cells) (hsl : slots ≤ ({ frames := 0, cells := 0, slots := 0, locals := 0 } : Room).slots) (V_a0 : own_Ar Z h0 a0 .byte n_a0 A_a0) (hI : n_a0.toInt ≤ 1000 ∧ 0 ≤ i7.toInt ∧ i2.toInt ≤ n_a0.toInt) (hk : (i2.toInt - i7.toInt).toNat < k) (hs8 : One s8),
    ∃ T', Stand p l e ({ frames := 0, cells := 0, slots := 0, locals := 0 } : Room) s m args below meth c T' locs cells slots ∧ T'.heap = h0 ∧ ∀ fs, (∀ (f : JFrame) (acts : List Action), f.method = m → f.locked = none → f.entered = [] → (doReturn e (T'.setTop f) acts (some (.long (own_f2_49 k i1 i2 i3 i4 j5 i7 n_a0 A_a0)))).1 = T'.setFrames fs) → Steps p.tables e below (T0.setTop (mkF m 49 #[.val (.ref a0), .val (.int i1), .val (.int i2), .val (.int i3), .val (.int i4), .val (.long j5), .second, .val (.int i7), s8] [])) (T'.setFrames fs) := by
  intro k
  induction k with
  | zero => intro T0 locs cells slots h0 a0 i1 i2 i3 i4 j5 i7 s8 n_a0 A_a0 X0 e0 hcl hsl V_a0 hI hk hs8; exact absurd hk (Nat.not_lt_zero _)
  | succ k ih =>
    intro T0 locs cells slots h0 a0 i1 i2 i3 i4 j5 i7 s8 n_a0 A_a0 X0 e0 hcl hsl V_a0 hI hk hs8
    have pre1 : ∀ target, Steps p.tables e below (T0.setTop (mkF m 52 #[.val (.ref a0), .val (.int i1), .val (.int i2), .val (.int i3), .val (.int i4), .val (.long j5), .second, .val (.int i7), s8] [(.int i2), (.int i7)])) target → Steps p.tables e below (T0.setTop (mkF m 49 #[.val (.ref a0), .val (.int i1), .val (.int i2), .val (.int i3), .val (.int i4), .val (.long j5), .second, .val (.int i7), s8] [])) target := by
      intro target kt
      show Steps p.tables e below (T0.setTop (mkF m 49 #[.val (.ref a0), .val (.int i1), .val (.int i2), .val (.int i3), .val (.int i4), .val (.long j5), .second, .val (.int i7), s8] [])) _
      refine XS.iload X0.here hx rfl (hb hby d2_49) rfl ?_
      show Steps p.tables e below (T0.setTop (mkF m 51 #[.val (.ref a0), .val (.int i1), .val (.int i2), .val (.int i3), .val (.int i4), .val (.long j5), .second, .val (.int i7), s8] [(.int i7)])) _
      refine XS.iloadN X0.here hx rfl (hb hby d2_51) rfl ?_
      exact kt
    by_cases hc52 : i7 < i2
    · have hix58 : ¬ i7 < 0 ∧ i7 < n_a0 := by exact own_px1 hI hc52
      have pre2 : ∀ target, Steps p.tables e below (T0.setTop (mkF m 66 #[.val (.ref a0), .val (.int i1), .val (.int i2), .val (.int i3), .val (.int i4), .val (.long j5), .second, .val (.int i7), .val (.int ((A_a0 i7.toNatClampNeg) - (48 : Int32)))] [(.int ((A_a0 i7.toNatClampNeg) - (48 : Int32)))])) target → Steps p.tables e below (T0.setTop (mkF m 49 #[.val (.ref a0), .val (.int i1), .val (.int i2), .val (.int i3), .val (.int i4), .val (.long j5), .second, .val (.int i7), s8] [])) target := by
        intro target kt
        refine pre1 target ?_
        show Steps p.tables e below (T0.setTop (mkF m 52 #[.val (.ref a0), .val (.int i1), .val (.int i2), .val (.int i3), .val (.int i4), .val (.long j5), .second, .val (.int i7), s8] [(.int i2), (.int i7)])) _
        refine XS.icmpNo X0.here hx rfl (hb hby d2_52) rfl (tlt hc52).2.1 ?_
        show Steps p.tables e below (T0.setTop (mkF m 55 #[.val (.ref a0), .val (.int i1), .val (.int i2), .val (.int i3), .val (.int i4), .val (.long j5), .second, .val (.int i7), s8] [])) _
        refine XS.aloadN X0.here hx rfl (hb hby d2_55) rfl rfl ?_
        show Steps p.tables e below (T0.setTop (mkF m 56 #[.val (.ref a0), .val (.int i1), .val (.int i2), .val (.int i3), .val (.int i4), .val (.long j5), .second, .val (.int i7), s8] [(.ref a0)])) _
        refine XS.iload X0.here hx rfl (hb hby d2_56) rfl ?_
        show Steps p.tables e below (T0.setTop (mkF m 58 #[.val (.ref a0), .val (.int i1), .val (.int i2), .val (.int i3), .val (.int i4), .val (.long j5), .second, .val (.int i7), s8] [(.int i7), (.ref a0)])) _
        refine own_ldB X0 hx hZ e0 V_a0 hix58 (g := (mkF m 58 #[.val (.ref a0), .val (.int i1), .val (.int i2), .val (.int i3), .val (.int i4), .val (.long j5), .second, .val (.int i7), s8] [(.int i7), (.ref a0)])) rfl rfl (hb hby d2_58) _ ?_
        show Steps p.tables e below (T0.setTop (mkF m 59 #[.val (.ref a0), .val (.int i1), .val (.int i2), .val (.int i3), .val (.int i4), .val (.long j5), .second, .val (.int i7), s8] [(.int (A_a0 i7.toNatClampNeg))])) _
        refine XS.bipush X0.here hx rfl (hb hby d2_59) ?_
        show Steps p.tables e below (T0.setTop (mkF m 61 #[.val (.ref a0), .val (.int i1), .val (.int i2), .val (.int i3), .val (.int i4), .val (.long j5), .second, .val (.int i7), s8] [(.int (48 : Int32)), (.int (A_a0 i7.toNatClampNeg))])) _
        refine XS.isub X0.here hx rfl (hb hby d2_61) rfl ?_
        show Steps p.tables e below (T0.setTop (mkF m 62 #[.val (.ref a0), .val (.int i1), .val (.int i2), .val (.int i3), .val (.int i4), .val (.long j5), .second, .val (.int i7), s8] [(.int ((A_a0 i7.toNatClampNeg) - (48 : Int32)))])) _
        refine XS.istore X0.here hx rfl (hb hby d2_62) rfl (l' := #[.val (.ref a0), .val (.int i1), .val (.int i2), .val (.int i3), .val (.int i4), .val (.long j5), .second, .val (.int i7), .val (.int ((A_a0 i7.toNatClampNeg) - (48 : Int32)))]) (os2_62 hs8) ?_
        show Steps p.tables e below (T0.setTop (mkF m 64 #[.val (.ref a0), .val (.int i1), .val (.int i2), .val (.int i3), .val (.int i4), .val (.long j5), .second, .val (.int i7), .val (.int ((A_a0 i7.toNatClampNeg) - (48 : Int32)))] [])) _
        refine XS.iload X0.here hx rfl (hb hby d2_64) rfl ?_
        exact kt
      by_cases hc66 : ((A_a0 i7.toNatClampNeg) - (48 : Int32)) < (0 : Int32)
      · refine ⟨T0, X0, e0, fun fs hr => ?_⟩
        have hv : (own_f2_49 (k + 1) i1 i2 i3 i4 j5 i7 n_a0 A_a0) = (-9223372036854775808 : Int64) := by rw [own_f2_49_s]; rw [if_pos hc52, if_pos hc66]
        rw [hv] at hr
        refine pre2 _ ?_
        show Steps p.tables e below (T0.setTop (mkF m 66 #[.val (.ref a0), .val (.int i1), .val (.int i2), .val (.int i3), .val (.int i4), .val (.long j5), .second, .val (.int i7), .val (.int ((A_a0 i7.toNatClampNeg) - (48 : Int32)))] [(.int ((A_a0 i7.toNatClampNeg) - (48 : Int32)))])) _
        refine XS.ifYes X0.here hx rfl (pc0 := 66) (pc' := 93) rfl (hb hby d2_66) rfl ((if0 _ _).trans (tlt hc66).1) (by decide) (by decide) ?_
        show Steps p.tables e below (T0.setTop (mkF m 93 #[.val (.ref a0), .val (.int i1), .val (.int i2), .val (.int i3), .val (.int i4), .val (.long j5), .second, .val (.int i7), .val (.int ((A_a0 i7.toNatClampNeg) - (48 : Int32)))] [])) _
        refine X0.ldc2Long hx hown (mvT hZ (hw _ (List.mem_of_getElem? (i := 13) rfl))) (g := (mkF m 93 #[.val (.ref a0), .val (.int i1), .val (.int i2), .val (.int i3), .val (.int i4), .val (.long j5), .second, .val (.int i7), .val (.int ((A_a0 i7.toNatClampNeg) - (48 : Int32)))] [])) rfl (hb hby d2_93) _ ?_
        show Steps p.tables e below (T0.setTop (mkF m 96 #[.val (.ref a0), .val (.int i1), .val (.int i2), .val (.int i3), .val (.int i4), .val (.long j5), .second, .val (.int i7), .val (.int ((A_a0 i7.toNatClampNeg) - (48 : Int32)))] [(.long (-9223372036854775808 : Int64))])) _
        exact X0.lreturnOut hx hret (hb hby d2_96) hr
      · have pre3 : ∀ target, Steps p.tables e below (T0.setTop (mkF m 73 #[.val (.ref a0), .val (.int i1), .val (.int i2), .val (.int i3), .val (.int i4), .val (.long j5), .second, .val (.int i7), .val (.int ((A_a0 i7.toNatClampNeg) - (48 : Int32)))] [(.int (9 : Int32)), (.int ((A_a0 i7.toNatClampNeg) - (48 : Int32)))])) target → Steps p.tables e below (T0.setTop (mkF m 49 #[.val (.ref a0), .val (.int i1), .val (.int i2), .val (.int i3), .val (.int i4), .val (.long j5), .second, .val (.int i7), s8] [])) target := by
          intro target kt
          refine pre2 target ?_
          show Steps p.tables e below (T0.setTop (mkF m 66 #[.val (.ref a0), .val (.int i1), .val (.int i2), .val (.int i3), .val (.int i4), .val (.long j5), .second, .val (.int i7), .val (.int ((A_a0 i7.toNatClampNeg) - (48 : Int32)))] [(.int ((A_a0 i7.toNatClampNeg) - (48 : Int32)))])) _
          refine XS.ifNo X0.here hx rfl (hb hby d2_66) rfl ((if0 _ _).trans (flt hc66).1) ?_
          show Steps p.tables e below (T0.setTop (mkF m 69 #[.val (.ref a0), .val (.int i1), .val (.int i2), .val (.int i3), .val (.int i4), .val (.long j5), .second, .val (.int i7), .val (.int ((A_a0 i7.toNatClampNeg) - (48 : Int32)))] [])) _
          refine XS.iload X0.here hx rfl (hb hby d2_69) rfl ?_
          show Steps p.tables e below (T0.setTop (mkF m 71 #[.val (.ref a0), .val (.int i1), .val (.int i2), .val (.int i3), .val (.int i4), .val (.long j5), .second, .val (.int i7), .val (.int ((A_a0 i7.toNatClampNeg) - (48 : Int32)))] [(.int ((A_a0 i7.toNatClampNeg) - (48 : Int32)))])) _
          refine XS.bipush X0.here hx rfl (hb hby d2_71) ?_
          exact kt
        by_cases hc73 : (9 : Int32) < ((A_a0 i7.toNatClampNeg) - (48 : Int32))
        · refine ⟨T0, X0, e0, fun fs hr => ?_⟩
          have hv : (own_f2_49 (k + 1) i1 i2 i3 i4 j5 i7 n_a0 A_a0) = (-9223372036854775808 : Int64) := by rw [own_f2_49_s]; rw [if_pos hc52, if_neg hc66, if_pos hc73]
          rw [hv] at hr
          refine pre3 _ ?_
          show Steps p.tables e below (T0.setTop (mkF m 73 #[.val (.ref a0), .val (.int i1), .val (.int i2), .val (.int i3), .val (.int i4), .val (.long j5), .second, .val (.int i7), .val (.int ((A_a0 i7.toNatClampNeg) - (48 : Int32)))] [(.int (9 : Int32)), (.int ((A_a0 i7.toNatClampNeg) - (48 : Int32)))])) _
          refine XS.icmpYes X0.here hx rfl (pc0 := 73) (pc' := 93) rfl (hb hby d2_73) rfl (tlt hc73).2.2.1 (by decide) (by decide) ?_
          show Steps p.tables e below (T0.setTop (mkF m 93 #[.val (.ref a0), .val (.int i1), .val (.int i2), .val (.int i3), .val (.int i4), .val (.long j5), .second, .val (.int i7), .val (.int ((A_a0 i7.toNatClampNeg) - (48 : Int32)))] [])) _
          refine X0.ldc2Long hx hown (mvT hZ (hw _ (List.mem_of_getElem? (i := 13) rfl))) (g := (mkF m 93 #[.val (.ref a0), .val (.int i1), .val (.int i2), .val (.int i3), .val (.int i4), .val (.long j5), .second, .val (.int i7), .val (.int ((A_a0 i7.toNatClampNeg) - (48 : Int32)))] [])) rfl (hb hby d2_93) _ ?_
          show Steps p.tables e below (T0.setTop (mkF m 96 #[.val (.ref a0), .val (.int i1), .val (.int i2), .val (.int i3), .val (.int i4), .val (.long j5), .second, .val (.int i7), .val (.int ((A_a0 i7.toNatClampNeg) - (48 : Int32)))] [(.long (-9223372036854775808 : Int64))])) _
          exact X0.lreturnOut hx hret (hb hby d2_96) hr
        · have pre4 : ∀ target, Steps p.tables e below (T0.setTop (mkF m 90 #[.val (.ref a0), .val (.int i1), .val (.int i2), .val (.int i3), .val (.int i4), .val (.long j5), .second, .val (.int i7), .val (.int ((A_a0 i7.toNatClampNeg) - (48 : Int32)))] [(.int (lcmpW j5 (((9223372036854775807 : Int64) - (((A_a0 i7.toNatClampNeg) - (48 : Int32)).toInt64)) / (10 : Int64))))])) target → Steps p.tables e below (T0.setTop (mkF m 49 #[.val (.ref a0), .val (.int i1), .val (.int i2), .val (.int i3), .val (.int i4), .val (.long j5), .second, .val (.int i7), s8] [])) target := by
            intro target kt
            refine pre3 target ?_
            show Steps p.tables e below (T0.setTop (mkF m 73 #[.val (.ref a0), .val (.int i1), .val (.int i2), .val (.int i3), .val (.int i4), .val (.long j5), .second, .val (.int i7), .val (.int ((A_a0 i7.toNatClampNeg) - (48 : Int32)))] [(.int (9 : Int32)), (.int ((A_a0 i7.toNatClampNeg) - (48 : Int32)))])) _
            refine XS.icmpNo X0.here hx rfl (hb hby d2_73) rfl (flt hc73).2.2.1 ?_
            show Steps p.tables e below (T0.setTop (mkF m 76 #[.val (.ref a0), .val (.int i1), .val (.int i2), .val (.int i3), .val (.int i4), .val (.long j5), .second, .val (.int i7), .val (.int ((A_a0 i7.toNatClampNeg) - (48 : Int32)))] [])) _
            refine XS.lload X0.here hx rfl (hb hby d2_76) rfl ?_
            show Steps p.tables e below (T0.setTop (mkF m 78 #[.val (.ref a0), .val (.int i1), .val (.int i2), .val (.int i3), .val (.int i4), .val (.long j5), .second, .val (.int i7), .val (.int ((A_a0 i7.toNatClampNeg) - (48 : Int32)))] [(.long j5)])) _
            refine X0.ldc2Long hx hown (mvT hZ (hw _ (List.mem_of_getElem? (i := 11) rfl))) (g := (mkF m 78 #[.val (.ref a0), .val (.int i1), .val (.int i2), .val (.int i3), .val (.int i4), .val (.long j5), .second, .val (.int i7), .val (.int ((A_a0 i7.toNatClampNeg) - (48 : Int32)))] [(.long j5)])) rfl (hb hby d2_78) _ ?_
            show Steps p.tables e below (T0.setTop (mkF m 81 #[.val (.ref a0), .val (.int i1), .val (.int i2), .val (.int i3), .val (.int i4), .val (.long j5), .second, .val (.int i7), .val (.int ((A_a0 i7.toNatClampNeg) - (48 : Int32)))] [(.long (9223372036854775807 : Int64)), (.long j5)])) _
            refine XS.iload X0.here hx rfl (hb hby d2_81) rfl ?_
            show Steps p.tables e below (T0.setTop (mkF m 83 #[.val (.ref a0), .val (.int i1), .val (.int i2), .val (.int i3), .val (.int i4), .val (.long j5), .second, .val (.int i7), .val (.int ((A_a0 i7.toNatClampNeg) - (48 : Int32)))] [(.int ((A_a0 i7.toNatClampNeg) - (48 : Int32))), (.long (9223372036854775807 : Int64)), (.long j5)])) _
            refine XS.i2l X0.here hx rfl (hb hby d2_83) rfl ?_
            show Steps p.tables e below (T0.setTop (mkF m 84 #[.val (.ref a0), .val (.int i1), .val (.int i2), .val (.int i3), .val (.int i4), .val (.long j5), .second, .val (.int i7), .val (.int ((A_a0 i7.toNatClampNeg) - (48 : Int32)))] [(.long (((A_a0 i7.toNatClampNeg) - (48 : Int32)).toInt64)), (.long (9223372036854775807 : Int64)), (.long j5)])) _
            refine XS.lsub X0.here hx rfl (hb hby d2_84) rfl ?_
            show Steps p.tables e below (T0.setTop (mkF m 85 #[.val (.ref a0), .val (.int i1), .val (.int i2), .val (.int i3), .val (.int i4), .val (.long j5), .second, .val (.int i7), .val (.int ((A_a0 i7.toNatClampNeg) - (48 : Int32)))] [(.long ((9223372036854775807 : Int64) - (((A_a0 i7.toNatClampNeg) - (48 : Int32)).toInt64))), (.long j5)])) _
            refine X0.ldc2Long hx hown (mvT hZ (hw _ (List.mem_of_getElem? (i := 6) rfl))) (g := (mkF m 85 #[.val (.ref a0), .val (.int i1), .val (.int i2), .val (.int i3), .val (.int i4), .val (.long j5), .second, .val (.int i7), .val (.int ((A_a0 i7.toNatClampNeg) - (48 : Int32)))] [(.long ((9223372036854775807 : Int64) - (((A_a0 i7.toNatClampNeg) - (48 : Int32)).toInt64))), (.long j5)])) rfl (hb hby d2_85) _ ?_
            show Steps p.tables e below (T0.setTop (mkF m 88 #[.val (.ref a0), .val (.int i1), .val (.int i2), .val (.int i3), .val (.int i4), .val (.long j5), .second, .val (.int i7), .val (.int ((A_a0 i7.toNatClampNeg) - (48 : Int32)))] [(.long (10 : Int64)), (.long ((9223372036854775807 : Int64) - (((A_a0 i7.toNatClampNeg) - (48 : Int32)).toInt64))), (.long j5)])) _
            refine XS.ldiv X0.here hx rfl (hb hby d2_88) rfl (by decide) ?_
            show Steps p.tables e below (T0.setTop (mkF m 89 #[.val (.ref a0), .val (.int i1), .val (.int i2), .val (.int i3), .val (.int i4), .val (.long j5), .second, .val (.int i7), .val (.int ((A_a0 i7.toNatClampNeg) - (48 : Int32)))] [(.long (((9223372036854775807 : Int64) - (((A_a0 i7.toNatClampNeg) - (48 : Int32)).toInt64)) / (10 : Int64))), (.long j5)])) _
            refine XS.lcmp X0.here hx rfl (hb hby d2_89) rfl ?_
            exact kt
          by_cases hc90 : (((9223372036854775807 : Int64) - (((A_a0 i7.toNatClampNeg) - (48 : Int32)).toInt64)) / (10 : Int64)) < j5
          · refine ⟨T0, X0, e0, fun fs hr => ?_⟩
            have hv : (own_f2_49 (k + 1) i1 i2 i3 i4 j5 i7 n_a0 A_a0) = (-9223372036854775808 : Int64) := by rw [own_f2_49_s]; rw [if_pos hc52, if_neg hc66, if_neg hc73, if_pos hc90]
            rw [hv] at hr
            refine pre4 _ ?_
            show Steps p.tables e below (T0.setTop (mkF m 90 #[.val (.ref a0), .val (.int i1), .val (.int i2), .val (.int i3), .val (.int i4), .val (.long j5), .second, .val (.int i7), .val (.int ((A_a0 i7.toNatClampNeg) - (48 : Int32)))] [(.int (lcmpW j5 (((9223372036854775807 : Int64) - (((A_a0 i7.toNatClampNeg) - (48 : Int32)).toInt64)) / (10 : Int64))))])) _
            refine XS.ifNo X0.here hx rfl (hb hby d2_90) rfl ((if0 _ _).trans (tlt ((lw_gt _ _).mpr hc90)).2.2.2) ?_
            show Steps p.tables e below (T0.setTop (mkF m 93 #[.val (.ref a0), .val (.int i1), .val (.int i2), .val (.int i3), .val (.int i4), .val (.long j5), .second, .val (.int i7), .val (.int ((A_a0 i7.toNatClampNeg) - (48 : Int32)))] [])) _
            refine X0.ldc2Long hx hown (mvT hZ (hw _ (List.mem_of_getElem? (i := 13) rfl))) (g := (mkF m 93 #[.val (.ref a0), .val (.int i1), .val (.int i2), .val (.int i3), .val (.int i4), .val (.long j5), .second, .val (.int i7), .val (.int ((A_a0 i7.toNatClampNeg) - (48 : Int32)))] [])) rfl (hb hby d2_93) _ ?_
            show Steps p.tables e below (T0.setTop (mkF m 96 #[.val (.ref a0), .val (.int i1), .val (.int i2), .val (.int i3), .val (.int i4), .val (.long j5), .second, .val (.int i7), .val (.int ((A_a0 i7.toNatClampNeg) - (48 : Int32)))] [(.long (-9223372036854775808 : Int64))])) _
            exact X0.lreturnOut hx hret (hb hby d2_96) hr
          · have pre5 : ∀ target, Steps p.tables e below (T0.setTop (mkF m 49 #[.val (.ref a0), .val (.int i1), .val (.int i2), .val (.int i3), .val (.int i4), .val (.long ((j5 * (10 : Int64)) + (((A_a0 i7.toNatClampNeg) - (48 : Int32)).toInt64))), .second, .val (.int (i7 + (1 : Int32))), .val (.int ((A_a0 i7.toNatClampNeg) - (48 : Int32)))] [])) target → Steps p.tables e below (T0.setTop (mkF m 49 #[.val (.ref a0), .val (.int i1), .val (.int i2), .val (.int i3), .val (.int i4), .val (.long j5), .second, .val (.int i7), s8] [])) target := by
              intro target kt
              refine pre4 target ?_
              show Steps p.tables e below (T0.setTop (mkF m 90 #[.val (.ref a0), .val (.int i1), .val (.int i2), .val (.int i3), .val (.int i4), .val (.long j5), .second, .val (.int i7), .val (.int ((A_a0 i7.toNatClampNeg) - (48 : Int32)))] [(.int (lcmpW j5 (((9223372036854775807 : Int64) - (((A_a0 i7.toNatClampNeg) - (48 : Int32)).toInt64)) / (10 : Int64))))])) _
              refine XS.ifYes X0.here hx rfl (pc0 := 90) (pc' := 97) rfl (hb hby d2_90) rfl ((if0 _ _).trans (flt (mt (lw_gt _ _).mp hc90)).2.2.2) (by decide) (by decide) ?_
              show Steps p.tables e below (T0.setTop (mkF m 97 #[.val (.ref a0), .val (.int i1), .val (.int i2), .val (.int i3), .val (.int i4), .val (.long j5), .second, .val (.int i7), .val (.int ((A_a0 i7.toNatClampNeg) - (48 : Int32)))] [])) _
              refine XS.lload X0.here hx rfl (hb hby d2_97) rfl ?_
              show Steps p.tables e below (T0.setTop (mkF m 99 #[.val (.ref a0), .val (.int i1), .val (.int i2), .val (.int i3), .val (.int i4), .val (.long j5), .second, .val (.int i7), .val (.int ((A_a0 i7.toNatClampNeg) - (48 : Int32)))] [(.long j5)])) _
              refine X0.ldc2Long hx hown (mvT hZ (hw _ (List.mem_of_getElem? (i := 6) rfl))) (g := (mkF m 99 #[.val (.ref a0), .val (.int i1), .val (.int i2), .val (.int i3), .val (.int i4), .val (.long j5), .second, .val (.int i7), .val (.int ((A_a0 i7.toNatClampNeg) - (48 : Int32)))] [(.long j5)])) rfl (hb hby d2_99) _ ?_
              show Steps p.tables e below (T0.setTop (mkF m 102 #[.val (.ref a0), .val (.int i1), .val (.int i2), .val (.int i3), .val (.int i4), .val (.long j5), .second, .val (.int i7), .val (.int ((A_a0 i7.toNatClampNeg) - (48 : Int32)))] [(.long (10 : Int64)), (.long j5)])) _
              refine XS.lmul X0.here hx rfl (hb hby d2_102) rfl ?_
              show Steps p.tables e below (T0.setTop (mkF m 103 #[.val (.ref a0), .val (.int i1), .val (.int i2), .val (.int i3), .val (.int i4), .val (.long j5), .second, .val (.int i7), .val (.int ((A_a0 i7.toNatClampNeg) - (48 : Int32)))] [(.long (j5 * (10 : Int64)))])) _
              refine XS.iload X0.here hx rfl (hb hby d2_103) rfl ?_
              show Steps p.tables e below (T0.setTop (mkF m 105 #[.val (.ref a0), .val (.int i1), .val (.int i2), .val (.int i3), .val (.int i4), .val (.long j5), .second, .val (.int i7), .val (.int ((A_a0 i7.toNatClampNeg) - (48 : Int32)))] [(.int ((A_a0 i7.toNatClampNeg) - (48 : Int32))), (.long (j5 * (10 : Int64)))])) _
              refine XS.i2l X0.here hx rfl (hb hby d2_105) rfl ?_
              show Steps p.tables e below (T0.setTop (mkF m 106 #[.val (.ref a0), .val (.int i1), .val (.int i2), .val (.int i3), .val (.int i4), .val (.long j5), .second, .val (.int i7), .val (.int ((A_a0 i7.toNatClampNeg) - (48 : Int32)))] [(.long (((A_a0 i7.toNatClampNeg) - (48 : Int32)).toInt64)), (.long (j5 * (10 : Int64)))])) _
              refine XS.ladd X0.here hx rfl (hb hby d2_106) rfl ?_
              show Steps p.tables e below (T0.setTop (mkF m 107 #[.val (.ref a0), .val (.int i1), .val (.int i2), .val (.int i3), .val (.int i4), .val (.long j5), .second, .val (.int i7), .val (.int ((A_a0 i7.toNatClampNeg) - (48 : Int32)))] [(.long ((j5 * (10 : Int64)) + (((A_a0 i7.toNatClampNeg) - (48 : Int32)).toInt64)))])) _
              refine XS.lstore X0.here hx rfl (hb hby d2_107) rfl (l' := #[.val (.ref a0), .val (.int i1), .val (.int i2), .val (.int i3), .val (.int i4), .val (.long ((j5 * (10 : Int64)) + (((A_a0 i7.toNatClampNeg) - (48 : Int32)).toInt64))), .second, .val (.int i7), .val (.int ((A_a0 i7.toNatClampNeg) - (48 : Int32)))]) rfl ?_
              show Steps p.tables e below (T0.setTop (mkF m 109 #[.val (.ref a0), .val (.int i1), .val (.int i2), .val (.int i3), .val (.int i4), .val (.long ((j5 * (10 : Int64)) + (((A_a0 i7.toNatClampNeg) - (48 : Int32)).toInt64))), .second, .val (.int i7), .val (.int ((A_a0 i7.toNatClampNeg) - (48 : Int32)))] [])) _
              refine XS.iinc X0.here hx rfl (hb hby d2_109) rfl (l' := #[.val (.ref a0), .val (.int i1), .val (.int i2), .val (.int i3), .val (.int i4), .val (.long ((j5 * (10 : Int64)) + (((A_a0 i7.toNatClampNeg) - (48 : Int32)).toInt64))), .second, .val (.int (i7 + (1 : Int32))), .val (.int ((A_a0 i7.toNatClampNeg) - (48 : Int32)))]) rfl ?_
              show Steps p.tables e below (T0.setTop (mkF m 112 #[.val (.ref a0), .val (.int i1), .val (.int i2), .val (.int i3), .val (.int i4), .val (.long ((j5 * (10 : Int64)) + (((A_a0 i7.toNatClampNeg) - (48 : Int32)).toInt64))), .second, .val (.int (i7 + (1 : Int32))), .val (.int ((A_a0 i7.toNatClampNeg) - (48 : Int32)))] [])) _
              refine XS.goto X0.here hx rfl (pc0 := 112) (pc' := 49) rfl (hb hby d2_112) (by decide) (by decide) ?_
              exact kt
            have hI6 : n_a0.toInt ≤ 1000 ∧ 0 ≤ (i7 + (1 : Int32)).toInt ∧ i2.toInt ≤ n_a0.toInt := by exact own_pv2 hI hc52
            have hk6 : (i2.toInt - (i7 + (1 : Int32)).toInt).toNat < k := by exact own_pm hI hc52 hk
            obtain ⟨T6, X6, e6, st6⟩ := ih a0 i1 i2 i3 i4 ((j5 * (10 : Int64)) + (((A_a0 i7.toNatClampNeg) - (48 : Int32)).toInt64)) (i7 + (1 : Int32)) (.val (.int ((A_a0 i7.toNatClampNeg) - (48 : Int32)))) n_a0 A_a0 X0 e0 hcl hsl V_a0 hI6 hk6 (One.val rfl)
            have hv : (own_f2_49 (k + 1) i1 i2 i3 i4 j5 i7 n_a0 A_a0) = (own_f2_49 k i1 i2 i3 i4 ((j5 * (10 : Int64)) + (((A_a0 i7.toNatClampNeg) - (48 : Int32)).toInt64)) (i7 + (1 : Int32)) n_a0 A_a0) := by rw [own_f2_49_s]; rw [if_pos hc52, if_neg hc66, if_neg hc73, if_neg hc90]
            exact ⟨T6, X6, e6, fun fs hr => pre5 _ (st6 fs (by rw [hv] at hr; exact hr))⟩
    · have pre7 : ∀ target, Steps p.tables e below (T0.setTop (mkF m 116 #[.val (.ref a0), .val (.int i1), .val (.int i2), .val (.int i3), .val (.int i4), .val (.long j5), .second, .val (.int i7), s8] [(.int i3)])) target → Steps p.tables e below (T0.setTop (mkF m 49 #[.val (.ref a0), .val (.int i1), .val (.int i2), .val (.int i3), .val (.int i4), .val (.long j5), .second, .val (.int i7), s8] [])) target := by
        intro target kt
        refine pre1 target ?_
        show Steps p.tables e below (T0.setTop (mkF m 52 #[.val (.ref a0), .val (.int i1), .val (.int i2), .val (.int i3), .val (.int i4), .val (.long j5), .second, .val (.int i7), s8] [(.int i2), (.int i7)])) _
        refine XS.icmpYes X0.here hx rfl (pc0 := 52) (pc' := 115) rfl (hb hby d2_52) rfl (flt hc52).2.1 (by decide) (by decide) ?_
        show Steps p.tables e below (T0.setTop (mkF m 115 #[.val (.ref a0), .val (.int i1), .val (.int i2), .val (.int i3), .val (.int i4), .val (.long j5), .second, .val (.int i7), s8] [])) _
        refine XS.iloadN X0.here hx rfl (hb hby d2_115) rfl ?_
        exact kt
      by_cases hc116 : i3 = (0 : Int32)
      · refine ⟨T0, X0, e0, fun fs hr => ?_⟩
        have hv : (own_f2_49 (k + 1) i1 i2 i3 i4 j5 i7 n_a0 A_a0) = j5 := by rw [own_f2_49_s]; rw [if_neg hc52, if_pos hc116]
        rw [hv] at hr
        refine pre7 _ ?_
        show Steps p.tables e below (T0.setTop (mkF m 116 #[.val (.ref a0), .val (.int i1), .val (.int i2), .val (.int i3), .val (.int i4), .val (.long j5), .second, .val (.int i7), s8] [(.int i3)])) _
        refine XS.ifYes X0.here hx rfl (pc0 := 116) (pc' := 125) rfl (hb hby d2_116) rfl ((if0 _ _).trans (teq hc116).1) (by decide) (by decide) ?_
        show Steps p.tables e below (T0.setTop (mkF m 125 #[.val (.ref a0), .val (.int i1), .val (.int i2), .val (.int i3), .val (.int i4), .val (.long j5), .second, .val (.int i7), s8] [])) _
        refine XS.lload X0.here hx rfl (hb hby d2_125) rfl ?_
        show Steps p.tables e below (T0.setTop (mkF m 127 #[.val (.ref a0), .val (.int i1), .val (.int i2), .val (.int i3), .val (.int i4), .val (.long j5), .second, .val (.int i7), s8] [(.long j5)])) _
        exact X0.lreturnOut hx hret (hb hby d2_127) hr
      · refine ⟨T0, X0, e0, fun fs hr => ?_⟩
        have hv : (own_f2_49 (k + 1) i1 i2 i3 i4 j5 i7 n_a0 A_a0) = (-j5) := by rw [own_f2_49_s]; rw [if_neg hc52, if_neg hc116]
        rw [hv] at hr
        refine pre7 _ ?_
        show Steps p.tables e below (T0.setTop (mkF m 116 #[.val (.ref a0), .val (.int i1), .val (.int i2), .val (.int i3), .val (.int i4), .val (.long j5), .second, .val (.int i7), s8] [(.int i3)])) _
        refine XS.ifNo X0.here hx rfl (hb hby d2_116) rfl ((if0 _ _).trans (feq hc116).1) ?_
        show Steps p.tables e below (T0.setTop (mkF m 119 #[.val (.ref a0), .val (.int i1), .val (.int i2), .val (.int i3), .val (.int i4), .val (.long j5), .second, .val (.int i7), s8] [])) _
        refine XS.lload X0.here hx rfl (hb hby d2_119) rfl ?_
        show Steps p.tables e below (T0.setTop (mkF m 121 #[.val (.ref a0), .val (.int i1), .val (.int i2), .val (.int i3), .val (.int i4), .val (.long j5), .second, .val (.int i7), s8] [(.long j5)])) _
        refine XS.lneg X0.here hx rfl (hb hby d2_121) rfl ?_
        show Steps p.tables e below (T0.setTop (mkF m 122 #[.val (.ref a0), .val (.int i1), .val (.int i2), .val (.int i3), .val (.int i4), .val (.long j5), .second, .val (.int i7), s8] [(.long (-j5))])) _
        refine XS.goto X0.here hx rfl (pc0 := 122) (pc' := 127) rfl (hb hby d2_122) (by decide) (by decide) ?_
        show Steps p.tables e below (T0.setTop (mkF m 127 #[.val (.ref a0), .val (.int i1), .val (.int i2), .val (.int i3), .val (.int i4), .val (.long j5), .second, .val (.int i7), s8] [(.long (-j5))])) _
        exact X0.lreturnOut hx hret (hb hby d2_127) hr
set_option maxRecDepth 65536 in
set_option maxHeartbeats 40000000 in
theorem own_b2_30 {p : Program} {l : Launch} {e : Env} {s : State} {m : MethodId} {args : Array Value} {below : List Frame} {meth : Method} {c : Code} {Z : State} {a0_ : Array Value} (hx : p.tables.exec = Jvm.exec) (hZ : Z.Warmed39 s.vm) (hw : ∀ d ∈ tables_1, d.before a0_ Z = true) (hby : c.code = prog_28_method_2_code) (hml : c.maxLocals = 9) (hown : s.vm.findClass "com/example/rollcalldb/rollcalldb/resp/Decimal" = some m.cls) (hret : meth.sig.returnType = some .long) {T0 : State} {locs : List Loc} {cells slots : Nat} {h0 : Heap} (a0 : Addr) (i1 : Int32) (i2 : Int32) (i3 : Int32) (u0 : Int32) (n_a0 : Int32) (A_a0 : Nat → Int32)
    (X0 : Stand p l e ({ frames := 0, cells := 0, slots := 0, locals := 0 } : Room) s m args below meth c T0 locs cells slots) (e0 : T0.heap = h0) (hcl : cells ≤ ({ frames := 0, cells := 0, slots := 0, locals := 0 } : Room).cells) (hsl : slots ≤ ({ frames := 0, cells := 0, slots := 0, locals := 0 } : Room).slots) (V_a0 : own_Ar Z h0 a0 .byte n_a0 A_a0) (hI : n_a0.toInt ≤ 1000 ∧ 0 ≤ i1.toInt ∧ i1.toInt ≤ 1000 ∧ i2.toInt ≤ n_a0.toInt ∧ 0 ≤ u0.toInt) :
    ∃ T', Stand p l e ({ frames := 0, cells := 0, slots := 0, locals := 0 } : Room) s m args below meth c T' locs cells slots ∧ T'.heap = h0 ∧ ∀ fs, (∀ (f : JFrame) (acts : List Action), f.method = m → f.locked = none → f.entered = [] → (doReturn e (T'.setTop f) acts (some (.long (own_f2_30 i1 i2 i3 u0 n_a0 A_a0)))).1 = T'.setFrames fs) → Steps p.tables e below (T0.setTop (mkF m 30 #[.val (.ref a0), .val (.int i1), .val (.int i2), .val (.int i3), .unset, .unset, .unset, .unset, .unset] [(.int u0)])) (T'.setFrames fs) := by
  have pre1 : ∀ target, Steps p.tables e below (T0.setTop (mkF m 35 #[.val (.ref a0), .val (.int i1), .val (.int i2), .val (.int i3), .val (.int u0), .unset, .unset, .unset, .unset] [(.int i2), (.int u0)])) target → Steps p.tables e below (T0.setTop (mkF m 30 #[.val (.ref a0), .val (.int i1), .val (.int i2), .val (.int i3), .unset, .unset, .unset, .unset, .unset] [(.int u0)])) target := by
    intro target kt
    show Steps p.tables e below (T0.setTop (mkF m 30 #[.val (.ref a0), .val (.int i1), .val (.int i2), .val (.int i3), .unset, .unset, .unset, .unset, .unset] [(.int u0)])) _
    refine XS.istore X0.here hx rfl (hb hby d2_30) rfl (l' := #[.val (.ref a0), .val (.int i1), .val (.int i2), .val (.int i3), .val (.int u0), .unset, .unset, .unset, .unset]) rfl ?_
    show Steps p.tables e below (T0.setTop (mkF m 32 #[.val (.ref a0), .val (.int i1), .val (.int i2), .val (.int i3), .val (.int u0), .unset, .unset, .unset, .unset] [])) _
    refine XS.iload X0.here hx rfl (hb hby d2_32) rfl ?_
    show Steps p.tables e below (T0.setTop (mkF m 34 #[.val (.ref a0), .val (.int i1), .val (.int i2), .val (.int i3), .val (.int u0), .unset, .unset, .unset, .unset] [(.int u0)])) _
    refine XS.iloadN X0.here hx rfl (hb hby d2_34) rfl ?_
    exact kt
  by_cases hc35 : u0 = i2
  · refine ⟨T0, X0, e0, fun fs hr => ?_⟩
    have hv : (own_f2_30 i1 i2 i3 u0 n_a0 A_a0) = (-9223372036854775808 : Int64) := by unfold own_f2_30; rw [if_pos hc35]
    rw [hv] at hr
    refine pre1 _ ?_
    show Steps p.tables e below (T0.setTop (mkF m 35 #[.val (.ref a0), .val (.int i1), .val (.int i2), .val (.int i3), .val (.int u0), .unset, .unset, .unset, .unset] [(.int i2), (.int u0)])) _
    refine XS.icmpNo X0.here hx rfl (hb hby d2_35) rfl (teq hc35).2 ?_
    show Steps p.tables e below (T0.setTop (mkF m 38 #[.val (.ref a0), .val (.int i1), .val (.int i2), .val (.int i3), .val (.int u0), .unset, .unset, .unset, .unset] [])) _
    refine X0.ldc2Long hx hown (mvT hZ (hw _ (List.mem_of_getElem? (i := 13) rfl))) (g := (mkF m 38 #[.val (.ref a0), .val (.int i1), .val (.int i2), .val (.int i3), .val (.int u0), .unset, .unset, .unset, .unset] [])) rfl (hb hby d2_38) _ ?_
    show Steps p.tables e below (T0.setTop (mkF m 41 #[.val (.ref a0), .val (.int i1), .val (.int i2), .val (.int i3), .val (.int u0), .unset, .unset, .unset, .unset] [(.long (-9223372036854775808 : Int64))])) _
    exact X0.lreturnOut hx hret (hb hby d2_41) hr
  · have pre2 : ∀ target, Steps p.tables e below (T0.setTop (mkF m 49 #[.val (.ref a0), .val (.int i1), .val (.int i2), .val (.int i3), .val (.int u0), .val (.long (0 : Int64)), .second, .val (.int u0), .unset] [])) target → Steps p.tables e below (T0.setTop (mkF m 30 #[.val (.ref a0), .val (.int i1), .val (.int i2), .val (.int i3), .unset, .unset, .unset, .unset, .unset] [(.int u0)])) target := by
      intro target kt
      refine pre1 target ?_
      show Steps p.tables e below (T0.setTop (mkF m 35 #[.val (.ref a0), .val (.int i1), .val (.int i2), .val (.int i3), .val (.int u0), .unset, .unset, .unset, .unset] [(.int i2), (.int u0)])) _
      refine XS.icmpYes X0.here hx rfl (pc0 := 35) (pc' := 42) rfl (hb hby d2_35) rfl (feq hc35).2 (by decide) (by decide) ?_
      show Steps p.tables e below (T0.setTop (mkF m 42 #[.val (.ref a0), .val (.int i1), .val (.int i2), .val (.int i3), .val (.int u0), .unset, .unset, .unset, .unset] [])) _
      refine XS.lconst X0.here hx rfl (hb hby d2_42) ?_
      show Steps p.tables e below (T0.setTop (mkF m 43 #[.val (.ref a0), .val (.int i1), .val (.int i2), .val (.int i3), .val (.int u0), .unset, .unset, .unset, .unset] [(.long (0 : Int64))])) _
      refine XS.lstore X0.here hx rfl (hb hby d2_43) rfl (l' := #[.val (.ref a0), .val (.int i1), .val (.int i2), .val (.int i3), .val (.int u0), .val (.long (0 : Int64)), .second, .unset, .unset]) rfl ?_
      show Steps p.tables e below (T0.setTop (mkF m 45 #[.val (.ref a0), .val (.int i1), .val (.int i2), .val (.int i3), .val (.int u0), .val (.long (0 : Int64)), .second, .unset, .unset] [])) _
      refine XS.iload X0.here hx rfl (hb hby d2_45) rfl ?_
      show Steps p.tables e below (T0.setTop (mkF m 47 #[.val (.ref a0), .val (.int i1), .val (.int i2), .val (.int i3), .val (.int u0), .val (.long (0 : Int64)), .second, .unset, .unset] [(.int u0)])) _
      refine XS.istore X0.here hx rfl (hb hby d2_47) rfl (l' := #[.val (.ref a0), .val (.int i1), .val (.int i2), .val (.int i3), .val (.int u0), .val (.long (0 : Int64)), .second, .val (.int u0), .unset]) rfl ?_
      exact kt
    have hI3 : n_a0.toInt ≤ 1000 ∧ 0 ≤ u0.toInt ∧ i2.toInt ≤ n_a0.toInt := by exact ⟨hI.1, hI.2.2.2.2, hI.2.2.2.1⟩
    have hk3 : (i2.toInt - u0.toInt).toNat < (i2.toInt - u0.toInt).toNat + 1 := by exact Nat.lt_succ_self _
    obtain ⟨T3, X3, e3, st3⟩ := own_b2_49 hx hZ hw hby hml hown hret ((i2.toInt - u0.toInt).toNat + 1) a0 i1 i2 i3 u0 (0 : Int64) u0 (.unset) n_a0 A_a0 X0 e0 hcl hsl V_a0 hI3 hk3 One.u
    have hv : (own_f2_30 i1 i2 i3 u0 n_a0 A_a0) = (own_f2_49 ((i2.toInt - u0.toInt).toNat + 1) i1 i2 i3 u0 (0 : Int64) u0 n_a0 A_a0) := by unfold own_f2_30; rw [if_neg hc35]
    exact ⟨T3, X3, e3, fun fs hr => pre2 _ (st3 fs (by rw [hv] at hr; exact hr))⟩
set_option maxRecDepth 65536 in
set_option maxHeartbeats 40000000 in
theorem own_b2_18 {p : Program} {l : Launch} {e : Env} {s : State} {m : MethodId} {args : Array Value} {below : List Frame} {meth : Method} {c : Code} {Z : State} {a0_ : Array Value} (hx : p.tables.exec = Jvm.exec) (hZ : Z.Warmed39 s.vm) (hw : ∀ d ∈ tables_1, d.before a0_ Z = true) (hby : c.code = prog_28_method_2_code) (hml : c.maxLocals = 9) (hown : s.vm.findClass "com/example/rollcalldb/rollcalldb/resp/Decimal" = some m.cls) (hret : meth.sig.returnType = some .long) {T0 : State} {locs : List Loc} {cells slots : Nat} {h0 : Heap} (a0 : Addr) (i1 : Int32) (i2 : Int32) (u0 : Int32) (n_a0 : Int32) (A_a0 : Nat → Int32)
    (X0 : Stand p l e ({ frames := 0, cells := 0, slots := 0, locals := 0 } : Room) s m args below meth c T0 locs cells slots) (e0 : T0.heap = h0) (hcl : cells ≤ ({ frames := 0, cells := 0, slots := 0, locals := 0 } : Room).cells) (hsl : slots ≤ ({ frames := 0, cells := 0, slots := 0, locals := 0 } : Room).slots) (V_a0 : own_Ar Z h0 a0 .byte n_a0 A_a0) (hI : n_a0.toInt ≤ 1000 ∧ 0 ≤ i1.toInt ∧ i1.toInt ≤ 1000 ∧ i2.toInt ≤ n_a0.toInt) :
    ∃ T', Stand p l e ({ frames := 0, cells := 0, slots := 0, locals := 0 } : Room) s m args below meth c T' locs cells slots ∧ T'.heap = h0 ∧ ∀ fs, (∀ (f : JFrame) (acts : List Action), f.method = m → f.locked = none → f.entered = [] → (doReturn e (T'.setTop f) acts (some (.long (own_f2_18 i1 i2 u0 n_a0 A_a0)))).1 = T'.setFrames fs) → Steps p.tables e below (T0.setTop (mkF m 18 #[.val (.ref a0), .val (.int i1), .val (.int i2), .unset, .unset, .unset, .unset, .unset, .unset] [(.int u0)])) (T'.setFrames fs) := by
  have pre1 : ∀ target, Steps p.tables e below (T0.setTop (mkF m 20 #[.val (.ref a0), .val (.int i1), .val (.int i2), .val (.int u0), .unset, .unset, .unset, .unset, .unset] [(.int u0)])) target → Steps p.tables e below (T0.setTop (mkF m 18 #[.val (.ref a0), .val (.int i1), .val (.int i2), .unset, .unset, .unset, .unset, .unset, .unset] [(.int u0)])) target := by
    intro target kt
    show Steps p.tables e below (T0.setTop (mkF m 18 #[.val (.ref a0), .val (.int i1), .val (.int i2), .unset, .unset, .unset, .unset, .unset, .unset] [(.int u0)])) _
    refine XS.istoreN X0.here hx rfl (hb hby d2_18) rfl (l' := #[.val (.ref a0), .val (.int i1), .val (.int i2), .val (.int u0), .unset, .unset, .unset, .unset, .unset]) rfl ?_
    show Steps p.tables e below (T0.setTop (mkF m 19 #[.val (.ref a0), .val (.int i1), .val (.int i2), .val (.int u0), .unset, .unset, .unset, .unset, .unset] [])) _
    refine XS.iloadN X0.here hx rfl (hb hby d2_19) rfl ?_
    exact kt
  by_cases hc20 : u0 = (0 : Int32)
  · have pre2 : ∀ target, Steps p.tables e below (T0.setTop (mkF m 30 #[.val (.ref a0), .val (.int i1), .val (.int i2), .val (.int u0), .unset, .unset, .unset, .unset, .unset] [(.int i1)])) target → Steps p.tables e below (T0.setTop (mkF m 18 #[.val (.ref a0), .val (.int i1), .val (.int i2), .unset, .unset, .unset, .unset, .unset, .unset] [(.int u0)])) target := by
      intro target kt
      refine pre1 target ?_
      show Steps p.tables e below (T0.setTop (mkF m 20 #[.val (.ref a0), .val (.int i1), .val (.int i2), .val (.int u0), .unset, .unset, .unset, .unset, .unset] [(.int u0)])) _
      refine XS.ifYes X0.here hx rfl (pc0 := 20) (pc' := 29) rfl (hb hby d2_20) rfl ((if0 _ _).trans (teq hc20).1) (by decide) (by decide) ?_
      show Steps p.tables e below (T0.setTop (mkF m 29 #[.val (.ref a0), .val (.int i1), .val (.int i2), .val (.int u0), .unset, .unset, .unset, .unset, .unset] [])) _
      refine XS.iloadN X0.here hx rfl (hb hby d2_29) rfl ?_
      exact kt
    have hI3 : n_a0.toInt ≤ 1000 ∧ 0 ≤ i1.toInt ∧ i1.toInt ≤ 1000 ∧ i2.toInt ≤ n_a0.toInt ∧ 0 ≤ i1.toInt := by first | exact own_pv0 hI | exact own_pv1 hI
    obtain ⟨T3, X3, e3, st3⟩ := own_b2_30 hx hZ hw hby hml hown hret a0 i1 i2 u0 i1 n_a0 A_a0 X0 e0 hcl hsl V_a0 hI3
    have hv : (own_f2_18 i1 i2 u0 n_a0 A_a0) = (own_f2_30 i1 i2 u0 i1 n_a0 A_a0) := by unfold own_f2_18; rw [if_pos hc20]
    exact ⟨T3, X3, e3, fun fs hr => pre2 _ (st3 fs (by rw [hv] at hr; exact hr))⟩
  · have pre4 : ∀ target, Steps p.tables e below (T0.setTop (mkF m 30 #[.val (.ref a0), .val (.int i1), .val (.int i2), .val (.int u0), .unset, .unset, .unset, .unset, .unset] [(.int (i1 + (1 : Int32)))])) target → Steps p.tables e below (T0.setTop (mkF m 18 #[.val (.ref a0), .val (.int i1), .val (.int i2), .unset, .unset, .unset, .unset, .unset, .unset] [(.int u0)])) target := by
      intro target kt
      refine pre1 target ?_
      show Steps p.tables e below (T0.setTop (mkF m 20 #[.val (.ref a0), .val (.int i1), .val (.int i2), .val (.int u0), .unset, .unset, .unset, .unset, .unset] [(.int u0)])) _
      refine XS.ifNo X0.here hx rfl (hb hby d2_20) rfl ((if0 _ _).trans (feq hc20).1) ?_
      show Steps p.tables e below (T0.setTop (mkF m 23 #[.val (.ref a0), .val (.int i1), .val (.int i2), .val (.int u0), .unset, .unset, .unset, .unset, .unset] [])) _
      refine XS.iloadN X0.here hx rfl (hb hby d2_23) rfl ?_
      show Steps p.tables e below (T0.setTop (mkF m 24 #[.val (.ref a0), .val (.int i1), .val (.int i2), .val (.int u0), .unset, .unset, .unset, .unset, .unset] [(.int i1)])) _
      refine XS.iconst X0.here hx rfl (hb hby d2_24) ?_
      show Steps p.tables e below (T0.setTop (mkF m 25 #[.val (.ref a0), .val (.int i1), .val (.int i2), .val (.int u0), .unset, .unset, .unset, .unset, .unset] [(.int (1 : Int32)), (.int i1)])) _
      refine XS.iadd X0.here hx rfl (hb hby d2_25) rfl ?_
      show Steps p.tables e below (T0.setTop (mkF m 26 #[.val (.ref a0), .val (.int i1), .val (.int i2), .val (.int u0), .unset, .unset, .unset, .unset, .unset] [(.int (i1 + (1 : Int32)))])) _
      refine XS.goto X0.here hx rfl (pc0 := 26) (pc' := 30) rfl (hb hby d2_26) (by decide) (by decide) ?_
      exact kt
    have hI5 : n_a0.toInt ≤ 1000 ∧ 0 ≤ i1.toInt ∧ i1.toInt ≤ 1000 ∧ i2.toInt ≤ n_a0.toInt ∧ 0 ≤ (i1 + (1 : Int32)).toInt := by first | exact own_pv0 hI | exact own_pv1 hI
    obtain ⟨T5, X5, e5, st5⟩ := own_b2_30 hx hZ hw hby hml hown hret a0 i1 i2 u0 (i1 + (1 : Int32)) n_a0 A_a0 X0 e0 hcl hsl V_a0 hI5
    have hv : (own_f2_18 i1 i2 u0 n_a0 A_a0) = (own_f2_30 i1 i2 u0 (i1 + (1 : Int32)) n_a0 A_a0) := by unfold own_f2_18; rw [if_neg hc20]
    exact ⟨T5, X5, e5, fun fs hr => pre4 _ (st5 fs (by rw [hv] at hr; exact hr))⟩
set_option maxRecDepth 65536 in
set_option maxHeartbeats 40000000 in
theorem own_b2_17 {p : Program} {l : Launch} {e : Env} {s : State} {m : MethodId} {args : Array Value} {below : List Frame} {meth : Method} {c : Code} {Z : State} {a0_ : Array Value} (hx : p.tables.exec = Jvm.exec) (hZ : Z.Warmed39 s.vm) (hw : ∀ d ∈ tables_1, d.before a0_ Z = true) (hby : c.code = prog_28_method_2_code) (hml : c.maxLocals = 9) (hown : s.vm.findClass "com/example/rollcalldb/rollcalldb/resp/Decimal" = some m.cls) (hret : meth.sig.returnType = some .long) {T0 : State} {locs : List Loc} {cells slots : Nat} {h0 : Heap} (a0 : Addr) (i1 : Int32) (i2 : Int32) (n_a0 : Int32) (A_a0 : Nat → Int32)
    (X0 : Stand p l e ({ frames := 0, cells := 0, slots := 0, locals := 0 } : Room) s m args below meth c T0 locs cells slots) (e0 : T0.heap = h0) (hcl : cells ≤ ({ frames := 0, cells := 0, slots := 0, locals := 0 } : Room).cells) (hsl : slots ≤ ({ frames := 0, cells := 0, slots := 0, locals := 0 } : Room).slots) (V_a0 : own_Ar Z h0 a0 .byte n_a0 A_a0) (hI : n_a0.toInt ≤ 1000 ∧ 0 ≤ i1.toInt ∧ i1.toInt ≤ 1000 ∧ i2.toInt ≤ n_a0.toInt) :
    ∃ T', Stand p l e ({ frames := 0, cells := 0, slots := 0, locals := 0 } : Room) s m args below meth c T' locs cells slots ∧ T'.heap = h0 ∧ ∀ fs, (∀ (f : JFrame) (acts : List Action), f.method = m → f.locked = none → f.entered = [] → (doReturn e (T'.setTop f) acts (some (.long (own_f2_17 i1 i2 n_a0 A_a0)))).1 = T'.setFrames fs) → Steps p.tables e below (T0.setTop (mkF m 17 #[.val (.ref a0), .val (.int i1), .val (.int i2), .unset, .unset, .unset, .unset, .unset, .unset] [])) (T'.setFrames fs) := by
  have pre1 : ∀ target, Steps p.tables e below (T0.setTop (mkF m 18 #[.val (.ref a0), .val (.int i1), .val (.int i2), .unset, .unset, .unset, .unset, .unset, .unset] [(.int (0 : Int32))])) target → Steps p.tables e below (T0.setTop (mkF m 17 #[.val (.ref a0), .val (.int i1), .val (.int i2), .unset, .unset, .unset, .unset, .unset, .unset] [])) target := by
    intro target kt
    show Steps p.tables e below (T0.setTop (mkF m 17 #[.val (.ref a0), .val (.int i1), .val (.int i2), .unset, .unset, .unset, .unset, .unset, .unset] [])) _
    refine XS.iconst X0.here hx rfl (hb hby d2_17) ?_
    exact kt
  have hI2 : n_a0.toInt ≤ 1000 ∧ 0 ≤ i1.toInt ∧ i1.toInt ≤ 1000 ∧ i2.toInt ≤ n_a0.toInt := by exact hI
  obtain ⟨T2, X2, e2, st2⟩ := own_b2_18 hx hZ hw hby hml hown hret a0 i1 i2 (0 : Int32) n_a0 A_a0 X0 e0 hcl hsl V_a0 hI2
  have hv : (own_f2_17 i1 i2 n_a0 A_a0) = (own_f2_18 i1 i2 (0 : Int32) n_a0 A_a0) := by unfold own_f2_17; rfl
  exact ⟨T2, X2, e2, fun fs hr => pre1 _ (st2 fs (by rw [hv] at hr; exact hr))⟩
set_option maxRecDepth 65536 in
set_option maxHeartbeats 40000000 in
theorem own_b2_0 {p : Program} {l : Launch} {e : Env} {s : State} {m : MethodId} {args : Array Value} {below : List Frame} {meth : Method} {c : Code} {Z : State} {a0_ : Array Value} (hx : p.tables.exec = Jvm.exec) (hZ : Z.Warmed39 s.vm) (hw : ∀ d ∈ tables_1, d.before a0_ Z = true) (hby : c.code = prog_28_method_2_code) (hml : c.maxLocals = 9) (hown : s.vm.findClass "com/example/rollcalldb/rollcalldb/resp/Decimal" = some m.cls) (hret : meth.sig.returnType = some .long) {T0 : State} {locs : List Loc} {cells slots : Nat} {h0 : Heap} (a0 : Addr) (i1 : Int32) (i2 : Int32) (n_a0 : Int32) (A_a0 : Nat → Int32)
    (X0 : Stand p l e ({ frames := 0, cells := 0, slots := 0, locals := 0 } : Room) s m args below meth c T0 locs cells slots) (e0 : T0.heap = h0) (hcl : cells ≤ ({ frames := 0, cells := 0, slots := 0, locals := 0 } : Room).cells) (hsl : slots ≤ ({ frames := 0, cells := 0, slots := 0, locals := 0 } : Room).slots) (V_a0 : own_Ar Z h0 a0 .byte n_a0 A_a0) (hI : n_a0.toInt ≤ 1000 ∧ 0 ≤ i1.toInt ∧ i1.toInt ≤ 1000 ∧ i2.toInt ≤ n_a0.toInt) :
    ∃ T', Stand p l e ({ frames := 0, cells := 0, slots := 0, locals := 0 } : Room) s m args below meth c T' locs cells slots ∧ T'.heap = h0 ∧ ∀ fs, (∀ (f : JFrame) (acts : List Action), f.method = m → f.locked = none → f.entered = [] → (doReturn e (T'.setTop f) acts (some (.long (own_f2_0 i1 i2 n_a0 A_a0)))).1 = T'.setFrames fs) → Steps p.tables e below (T0.setTop (mkF m 0 #[.val (.ref a0), .val (.int i1), .val (.int i2), .unset, .unset, .unset, .unset, .unset, .unset] [])) (T'.setFrames fs) := by
  have pre1 : ∀ target, Steps p.tables e below (T0.setTop (mkF m 2 #[.val (.ref a0), .val (.int i1), .val (.int i2), .unset, .unset, .unset, .unset, .unset, .unset] [(.int i1), (.int i2)])) target → Steps p.tables e below (T0.setTop (mkF m 0 #[.val (.ref a0), .val (.int i1), .val (.int i2), .unset, .unset, .unset, .unset, .unset, .unset] [])) target := by
    intro target kt
    show Steps p.tables e below (T0.setTop (mkF m 0 #[.val (.ref a0), .val (.int i1), .val (.int i2), .unset, .unset, .unset, .unset, .unset, .unset] [])) _
    refine XS.iloadN X0.here hx rfl (hb hby d2_0) rfl ?_
    show Steps p.tables e below (T0.setTop (mkF m 1 #[.val (.ref a0), .val (.int i1), .val (.int i2), .unset, .unset, .unset, .unset, .unset, .unset] [(.int i2)])) _
    refine XS.iloadN X0.here hx rfl (hb hby d2_1) rfl ?_
    exact kt
  by_cases hc2 : i1 < i2
  · have hix7 : ¬ i1 < 0 ∧ i1 < n_a0 := by exact own_px0 hI hc2
    have pre2 : ∀ target, Steps p.tables e below (T0.setTop (mkF m 10 #[.val (.ref a0), .val (.int i1), .val (.int i2), .unset, .unset, .unset, .unset, .unset, .unset] [(.int (45 : Int32)), (.int (A_a0 i1.toNatClampNeg))])) target → Steps p.tables e below (T0.setTop (mkF m 0 #[.val (.ref a0), .val (.int i1), .val (.int i2), .unset, .unset, .unset, .unset, .unset, .unset] [])) target := by
      intro target kt
      refine pre1 target ?_
      show Steps p.tables e below (T0.setTop (mkF m 2 #[.val (.ref a0), .val (.int i1), .val (.int i2), .unset, .unset, .unset, .unset, .unset, .unset] [(.int i1), (.int i2)])) _
      refine XS.icmpNo X0.here hx rfl (hb hby d2_2) rfl (tlt hc2).2.2.2 ?_
      show Steps p.tables e below (T0.setTop (mkF m 5 #[.val (.ref a0), .val (.int i1), .val (.int i2), .unset, .unset, .unset, .unset, .unset, .unset] [])) _
      refine XS.aloadN X0.here hx rfl (hb hby d2_5) rfl rfl ?_
      show Steps p.tables e below (T0.setTop (mkF m 6 #[.val (.ref a0), .val (.int i1), .val (.int i2), .unset, .unset, .unset, .unset, .unset, .unset] [(.ref a0)])) _
      refine XS.iloadN X0.here hx rfl (hb hby d2_6) rfl ?_
      show Steps p.tables e below (T0.setTop (mkF m 7 #[.val (.ref a0), .val (.int i1), .val (.int i2), .unset, .unset, .unset, .unset, .unset, .unset] [(.int i1), (.ref a0)])) _
      refine own_ldB X0 hx hZ e0 V_a0 hix7 (g := (mkF m 7 #[.val (.ref a0), .val (.int i1), .val (.int i2), .unset, .unset, .unset, .unset, .unset, .unset] [(.int i1), (.ref a0)])) rfl rfl (hb hby d2_7) _ ?_
      show Steps p.tables e below (T0.setTop (mkF m 8 #[.val (.ref a0), .val (.int i1), .val (.int i2), .unset, .unset, .unset, .unset, .unset, .unset] [(.int (A_a0 i1.toNatClampNeg))])) _
      refine XS.bipush X0.here hx rfl (hb hby d2_8) ?_
      exact kt
    by_cases hc10 : (A_a0 i1.toNatClampNeg) = (45 : Int32)
    · have pre3 : ∀ target, Steps p.tables e below (T0.setTop (mkF m 18 #[.val (.ref a0), .val (.int i1), .val (.int i2), .unset, .unset, .unset, .unset, .unset, .unset] [(.int (1 : Int32))])) target → Steps p.tables e below (T0.setTop (mkF m 0 #[.val (.ref a0), .val (.int i1), .val (.int i2), .unset, .unset, .unset, .unset, .unset, .unset] [])) target := by
        intro target kt
        refine pre2 target ?_
        show Steps p.tables e below (T0.setTop (mkF m 10 #[.val (.ref a0), .val (.int i1), .val (.int i2), .unset, .unset, .unset, .unset, .unset, .unset] [(.int (45 : Int32)), (.int (A_a0 i1.toNatClampNeg))])) _
        refine XS.icmpNo X0.here hx rfl (hb hby d2_10) rfl (teq hc10).2 ?_
        show Steps p.tables e below (T0.setTop (mkF m 13 #[.val (.ref a0), .val (.int i1), .val (.int i2), .unset, .unset, .unset, .unset, .unset, .unset] [])) _
        refine XS.iconst X0.here hx rfl (hb hby d2_13) ?_
        show Steps p.tables e below (T0.setTop (mkF m 14 #[.val (.ref a0), .val (.int i1), .val (.int i2), .unset, .unset, .unset, .unset, .unset, .unset] [(.int (1 : Int32))])) _
        refine XS.goto X0.here hx rfl (pc0 := 14) (pc' := 18) rfl (hb hby d2_14) (by decide) (by decide) ?_
        exact kt
      have hI4 : n_a0.toInt ≤ 1000 ∧ 0 ≤ i1.toInt ∧ i1.toInt ≤ 1000 ∧ i2.toInt ≤ n_a0.toInt := by exact hI
      obtain ⟨T4, X4, e4, st4⟩ := own_b2_18 hx hZ hw hby hml hown hret a0 i1 i2 (1 : Int32) n_a0 A_a0 X0 e0 hcl hsl V_a0 hI4
      have hv : (own_f2_0 i1 i2 n_a0 A_a0) = (own_f2_18 i1 i2 (1 : Int32) n_a0 A_a0) := by unfold own_f2_0; rw [if_pos hc2, if_pos hc10]
      exact ⟨T4, X4, e4, fun fs hr => pre3 _ (st4 fs (by rw [hv] at hr; exact hr))⟩
    · have pre5 : ∀ target, Steps p.tables e below (T0.setTop (mkF m 17 #[.val (.ref a0), .val (.int i1), .val (.int i2), .unset, .unset, .unset, .unset, .unset, .unset] [])) target → Steps p.tables e below (T0.setTop (mkF m 0 #[.val (.ref a0), .val (.int i1), .val (.int i2), .unset, .unset, .unset, .unset, .unset, .unset] [])) target := by
        intro target kt
        refine pre2 target ?_
        show Steps p.tables e below (T0.setTop (mkF m 10 #[.val (.ref a0), .val (.int i1), .val (.int i2), .unset, .unset, .unset, .unset, .unset, .unset] [(.int (45 : Int32)), (.int (A_a0 i1.toNatClampNeg))])) _
        refine XS.icmpYes X0.here hx rfl (pc0 := 10) (pc' := 17) rfl (hb hby d2_10) rfl (feq hc10).2 (by decide) (by decide) ?_
        exact kt
      have hI6 : n_a0.toInt ≤ 1000 ∧ 0 ≤ i1.toInt ∧ i1.toInt ≤ 1000 ∧ i2.toInt ≤ n_a0.toInt := by exact hI
      obtain ⟨T6, X6, e6, st6⟩ := own_b2_17 hx hZ hw hby hml hown hret a0 i1 i2 n_a0 A_a0 X0 e0 hcl hsl V_a0 hI6
      have hv : (own_f2_0 i1 i2 n_a0 A_a0) = (own_f2_17 i1 i2 n_a0 A_a0) := by unfold own_f2_0; rw [if_pos hc2, if_neg hc10]
      exact ⟨T6, X6, e6, fun fs hr => pre5 _ (st6 fs (by rw [hv] at hr; exact hr))⟩
  · have pre7 : ∀ target, Steps p.tables e below (T0.setTop (mkF m 17 #[.val (.ref a0), .val (.int i1), .val (.int i2), .unset, .unset, .unset, .unset, .unset, .unset] [])) target → Steps p.tables e below (T0.setTop (mkF m 0 #[.val (.ref a0), .val (.int i1), .val (.int i2), .unset, .unset, .unset, .unset, .unset, .unset] [])) target := by
      intro target kt
      refine pre1 target ?_
      show Steps p.tables e below (T0.setTop (mkF m 2 #[.val (.ref a0), .val (.int i1), .val (.int i2), .unset, .unset, .unset, .unset, .unset, .unset] [(.int i1), (.int i2)])) _
      refine XS.icmpYes X0.here hx rfl (pc0 := 2) (pc' := 17) rfl (hb hby d2_2) rfl (flt hc2).2.2.2 (by decide) (by decide) ?_
      exact kt
    have hI8 : n_a0.toInt ≤ 1000 ∧ 0 ≤ i1.toInt ∧ i1.toInt ≤ 1000 ∧ i2.toInt ≤ n_a0.toInt := by exact hI
    obtain ⟨T8, X8, e8, st8⟩ := own_b2_17 hx hZ hw hby hml hown hret a0 i1 i2 n_a0 A_a0 X0 e0 hcl hsl V_a0 hI8
    have hv : (own_f2_0 i1 i2 n_a0 A_a0) = (own_f2_17 i1 i2 n_a0 A_a0) := by unfold own_f2_0; rw [if_neg hc2]
    exact ⟨T8, X8, e8, fun fs hr => pre7 _ (st8 fs (by rw [hv] at hr; exact hr))⟩
def Q2 (Z : State) (a0 : Addr) (i1 : Int32) (i2 : Int32) (n_a0 : Int32) (A_a0 : Nat → Int32) (h0 : Heap) (n0 : Nat) (v : Option Value) (h : Heap) (L : List Loc) : Prop := v = some (.long (own_f2_0 i1 i2 n_a0 A_a0)) ∧ L = [] ∧ h = h0
set_option maxRecDepth 65536 in
set_option maxHeartbeats 40000000 in
theorem rm2 (l : Launch) (Z : State) (a0_ : Array Value) (hw : ∀ d ∈ tables_1, d.before a0_ Z = true) (ws : List Jvm.Cond) (a0 : Addr) (i1 : Int32) (i2 : Int32) (n_a0 : Int32) (A_a0 : Nat → Int32) (h0 : Heap) (n0 : Nat) (Z0 : n0 ≤ h0.size) (V_a0 : own_Ar Z h0 a0 .byte n_a0 A_a0) (hI : n_a0.toInt ≤ 1000 ∧ 0 ≤ i1.toInt ∧ i1.toInt ≤ 1000 ∧ i2.toInt ≤ n_a0.toInt) :
    MetFree l (⟨"com/example/rollcalldb/rollcalldb/resp/Decimal", "parse", "([BII)J"⟩ : MethodName) (head1 (Jvm.Cond.code (⟨"com/example/rollcalldb/rollcalldb/resp/Decimal", "parse", "([BII)J"⟩ : MethodName) prog_28_method_2_code 9 (some .long) :: ws) ({ frames := 0, cells := 0, slots := 0, locals := 0 } : Room)) (fun a U => a = #[(.ref a0), (.int i1), (.int i2)] ∧ Z.Warmed39 U.vm ∧ U.heap = h0) (fun _ _ _ _ _ => True) (fun _ U o U' => ∃ v L, o = .returned v ∧ Q2 Z a0 i1 i2 n_a0 A_a0 h0 n0 v U'.heap L ∧ FrameEnd U o U' L ({ frames := 0, cells := 0, slots := 0, locals := 0 } : Room).cells ({ frames := 0, cells := 0, slots := 0, locals := 0 } : Room).slots) := by
  refine MetFree.of_bodySF (plainFor_of_name pn_2) hisR ?_
  intro p e s m args below meth c s₁ Bd hml0 hP hK
  obtain ⟨rfl, hZ, hh⟩ := hP
  have hx := Bd.exec
  have hby := Bd.bytes
  have hml : c.maxLocals = 9 := hml0
  have hown : s.vm.findClass "com/example/rollcalldb/rollcalldb/resp/Decimal" = some m.cls := findClass_of_methodNamed Bd.named
  have X0 : Stand p l e ({ frames := 0, cells := 0, slots := 0, locals := 0 } : Room) s m #[(.ref a0), (.int i1), (.int i2)] below meth c s₁ [] 0 0 := Stand.of_body Bd
  have e0 : s₁.heap = h0 := by rw [← hh, Bd.state]; rfl
  obtain ⟨T', X', e', st'⟩ := own_b2_0 hx hZ hw hby hml hown Bd.returns  a0 i1 i2 n_a0 A_a0 X0 e0 (by decide) (by decide) V_a0 hI
  obtain ⟨fs, hr, hrun, hended, hW, hsame⟩ := X'.leave (v := some (.long (own_f2_0 i1 i2 n_a0 A_a0))) (fun h => by rw [Bd.returns] at h; cases h)
  refine ⟨_, _, castTop (ef_2 m a0 i1 i2) (st' fs hr), hrun, hended, _, _, rfl, ?_, ⟨_, rfl⟩, hW, hsame.mono (by decide) (by decide)⟩
  exact ⟨rfl, rfl, e'⟩
theorem pn_0 : plainName "com/example/rollcalldb/rollcalldb/resp/DecimalFormatPinLaw" = true := by first | (simp [plainName, overriddenIn]; done) | decide +kernel
theorem pd_0_0 : parseMethodDescriptor "(J[B)I" = some ⟨[.long, (.array .byte)], some .int⟩ := by decide +kernel
theorem pd_0_1 : parseMethodDescriptor "([BII)J" = some ⟨[(.array .byte), .int, .int], some .long⟩ := by decide +kernel
theorem ef_0 (m : MethodId) (j0 : Int64) (i2 : Int32) : entryFrame m #[(.long j0), (.int i2)] maxLocals = mkF m 0 #[.val (.long j0), .second, .val (.int i2), .unset, .unset, .unset, .unset, .unset] [] := by first | (simp [entryFrame, mkF, argsToLocals, Value.category, maxLocals]; done) | rfl
def own_f0_180 (j0 : Int64) (i2 : Int32) (i4 : Int32) (i5 : Int32) (i6 : Int32) (u0 : Int32) (n_a3 : Int32) (A_a3 : Nat → Int32) : Int32 :=
  (if i6 = (0 : Int32) then (0 : Int32) else (if u0 < i4 then (if (A_a3 u0.toNatClampNeg) = (48 : Int32) then (0 : Int32) else (1 : Int32)) else (0 : Int32)))
def own_f0_54 (j0 : Int64) (i2 : Int32) (i4 : Int32) (i5 : Int32) (u0 : Int32) (n_a3 : Int32) (A_a3 : Nat → Int32) : Int32 :=
  (if j0 = (-9223372036854775808 : Int64) then (if u0 = (0 : Int32) then (0 : Int32) else (if (i4 - i5) = (20 : Int32) then (if (A_a3 i5.toNatClampNeg) = (45 : Int32) then (if (A_a3 (i4 - (1 : Int32)).toNatClampNeg) = (56 : Int32) then (if (own_f2_0 (i5 + (1 : Int32)) (i4 - (1 : Int32)) n_a3 A_a3) = (922337203685477580 : Int64) then (1 : Int32) else (0 : Int32)) else (0 : Int32)) else (0 : Int32)) else (0 : Int32))) else (if (own_f2_0 i5 i4 n_a3 A_a3) = j0 then (if j0 = (0 : Int64) then (if u0 = (0 : Int32) then (0 : Int32) else (if i5 = (i4 - (1 : Int32)) then (1 : Int32) else (0 : Int32))) else (if j0 < (0 : Int64) then (own_f0_180 j0 i2 i4 i5 u0 (i5 + (1 : Int32)) n_a3 A_a3) else (own_f0_180 j0 i2 i4 i5 u0 i5 n_a3 A_a3))) else (0 : Int32)))
def own_f0_49 (j0 : Int64) (i2 : Int32) (i4 : Int32) (i5 : Int32) (n_a3 : Int32) (A_a3 : Nat → Int32) : Int32 :=
  (own_f0_54 j0 i2 i4 i5 (1 : Int32) n_a3 A_a3)
def own_f0_0 (j0 : Int64) (i2 : Int32) : Int32 :=
  (if (own_f1_0 j0 ((20 : Int32) + (i2 &&& (7 : Int32))) (fun _ => 0)) < (0 : Int32) then (0 : Int32) else (if (own_f1_0 j0 ((20 : Int32) + (i2 &&& (7 : Int32))) (fun _ => 0)) < ((20 : Int32) + (i2 &&& (7 : Int32))) then (if (own_f1_0 j0 ((20 : Int32) + (i2 &&& (7 : Int32))) (fun _ => 0)) = (0 : Int32) then (own_f0_49 j0 i2 ((20 : Int32) + (i2 &&& (7 : Int32))) (own_f1_0 j0 ((20 : Int32) + (i2 &&& (7 : Int32))) (fun _ => 0)) ((20 : Int32) + (i2 &&& (7 : Int32))) (own_o1_A j0 ((20 : Int32) + (i2 &&& (7 : Int32))) (fun _ => 0))) else (if ((own_o1_A j0 ((20 : Int32) + (i2 &&& (7 : Int32))) (fun _ => 0)) ((own_f1_0 j0 ((20 : Int32) + (i2 &&& (7 : Int32))) (fun _ => 0)) - (1 : Int32)).toNatClampNeg) = (0 : Int32) then (own_f0_49 j0 i2 ((20 : Int32) + (i2 &&& (7 : Int32))) (own_f1_0 j0 ((20 : Int32) + (i2 &&& (7 : Int32))) (fun _ => 0)) ((20 : Int32) + (i2 &&& (7 : Int32))) (own_o1_A j0 ((20 : Int32) + (i2 &&& (7 : Int32))) (fun _ => 0))) else (own_f0_54 j0 i2 ((20 : Int32) + (i2 &&& (7 : Int32))) (own_f1_0 j0 ((20 : Int32) + (i2 &&& (7 : Int32))) (fun _ => 0)) (0 : Int32) ((20 : Int32) + (i2 &&& (7 : Int32))) (own_o1_A j0 ((20 : Int32) + (i2 &&& (7 : Int32))) (fun _ => 0))))) else (0 : Int32)))
set_option maxRecDepth 65536 in
set_option maxHeartbeats 40000000 in
theorem own_b0_180 {p : Program} {l : Launch} {e : Env} {s : State} {m : MethodId} {args : Array Value} {below : List Frame} {meth : Method} {c : Code} {Z : State} {a0_ : Array Value} {n0 : Nat} (hx : p.tables.exec = Jvm.exec) (hZ : Z.Warmed39 s.vm) (hw : ∀ d ∈ tables_1, d.before a0_ Z = true) (hby : c.code = code) (hml : c.maxLocals = 8) (hown : s.vm.findClass "com/example/rollcalldb/rollcalldb/resp/DecimalFormatPinLaw" = some m.cls) (hret : meth.sig.returnType = some .boolean) {T0 : State} {locs : List Loc} {h0 : Heap} (j0 : Int64) (i2 : Int32) (a3 : Addr) (i4 : Int32) (i5 : Int32) (i6 : Int32) (u0 : Int32) (n_a3 : Int32) (A_a3 : Nat → Int32)
    (X0 : Stand p l e room_1 s m args below meth c T0 locs 1 27) (e0 : T0.heap = h0) (N0 : Fr n0 locs) (Z0 : n0 ≤ h0.size) (g_a3 : n0 ≤ a3) (V_a3 : own_Ar Z h0 a3 .byte n_a3 A_a3) (hI : 20 ≤ n_a3.toInt ∧ n_a3.toInt ≤ 27 ∧ i4 = n_a3 ∧ 0 ≤ i5.toInt ∧ i5.toInt < n_a3.toInt ∧ 0 ≤ u0.toInt) :
    ∃ T' locs' cells' slots', Stand p l e room_1 s m args below meth c T' locs' cells' slots' ∧ Fr n0 locs' ∧ cells' ≤ room_1.cells ∧ slots' ≤ room_1.slots ∧ ∀ fs, (∀ (f : JFrame) (acts : List Action), f.method = m → f.locked = none → f.entered = [] → (doReturn e (T'.setTop f) acts (some (.int (own_f0_180 j0 i2 i4 i5 i6 u0 n_a3 A_a3)))).1 = T'.setFrames fs) → Steps p.tables e below (T0.setTop (mkF m 180 #[.val (.long j0), .second, .val (.int i2), .val (.ref a3), .val (.int i4), .val (.int i5), .val (.int i6), .unset] [(.int u0)])) (T'.setFrames fs) := by
  have pre1 : ∀ target, Steps p.tables e below (T0.setTop (mkF m 184 #[.val (.long j0), .second, .val (.int i2), .val (.ref a3), .val (.int i4), .val (.int i5), .val (.int i6), .val (.int u0)] [(.int i6)])) target → Steps p.tables e below (T0.setTop (mkF m 180 #[.val (.long j0), .second, .val (.int i2), .val (.ref a3), .val (.int i4), .val (.int i5), .val (.int i6), .unset] [(.int u0)])) target := by
    intro target kt
    show Steps p.tables e below (T0.setTop (mkF m 180 #[.val (.long j0), .second, .val (.int i2), .val (.ref a3), .val (.int i4), .val (.int i5), .val (.int i6), .unset] [(.int u0)])) _
    refine XS.istore X0.here hx rfl (hb hby at_180) rfl (l' := #[.val (.long j0), .second, .val (.int i2), .val (.ref a3), .val (.int i4), .val (.int i5), .val (.int i6), .val (.int u0)]) rfl ?_
    show Steps p.tables e below (T0.setTop (mkF m 182 #[.val (.long j0), .second, .val (.int i2), .val (.ref a3), .val (.int i4), .val (.int i5), .val (.int i6), .val (.int u0)] [])) _
    refine XS.iload X0.here hx rfl (hb hby at_182) rfl ?_
    exact kt
  by_cases hc184 : i6 = (0 : Int32)
  · refine ⟨T0, _, _, _, X0, N0, (by decide), (by decide), fun fs hr => ?_⟩
    have hv : (own_f0_180 j0 i2 i4 i5 i6 u0 n_a3 A_a3) = (0 : Int32) := by unfold own_f0_180; rw [if_pos hc184]
    rw [hv] at hr
    refine pre1 _ ?_
    show Steps p.tables e below (T0.setTop (mkF m 184 #[.val (.long j0), .second, .val (.int i2), .val (.ref a3), .val (.int i4), .val (.int i5), .val (.int i6), .val (.int u0)] [(.int i6)])) _
    refine XS.ifYes X0.here hx rfl (pc0 := 184) (pc' := 207) rfl (hb hby at_184) rfl ((if0 _ _).trans (teq hc184).1) (by decide) (by decide) ?_
    show Steps p.tables e below (T0.setTop (mkF m 207 #[.val (.long j0), .second, .val (.int i2), .val (.ref a3), .val (.int i4), .val (.int i5), .val (.int i6), .val (.int u0)] [])) _
    refine XS.iconst X0.here hx rfl (hb hby at_207) ?_
    show Steps p.tables e below (T0.setTop (mkF m 208 #[.val (.long j0), .second, .val (.int i2), .val (.ref a3), .val (.int i4), .val (.int i5), .val (.int i6), .val (.int u0)] [(.int (0 : Int32))])) _
    exact retN X0 hx (t := .boolean) hret (by simp) (hb hby at_208) hr
  · have pre2 : ∀ target, Steps p.tables e below (T0.setTop (mkF m 191 #[.val (.long j0), .second, .val (.int i2), .val (.ref a3), .val (.int i4), .val (.int i5), .val (.int i6), .val (.int u0)] [(.int i4), (.int u0)])) target → Steps p.tables e below (T0.setTop (mkF m 180 #[.val (.long j0), .second, .val (.int i2), .val (.ref a3), .val (.int i4), .val (.int i5), .val (.int i6), .unset] [(.int u0)])) target := by
      intro target kt
      refine pre1 target ?_
      show Steps p.tables e below (T0.setTop (mkF m 184 #[.val (.long j0), .second, .val (.int i2), .val (.ref a3), .val (.int i4), .val (.int i5), .val (.int i6), .val (.int u0)] [(.int i6)])) _
      refine XS.ifNo X0.here hx rfl (hb hby at_184) rfl ((if0 _ _).trans (feq hc184).1) ?_
      show Steps p.tables e below (T0.setTop (mkF m 187 #[.val (.long j0), .second, .val (.int i2), .val (.ref a3), .val (.int i4), .val (.int i5), .val (.int i6), .val (.int u0)] [])) _
      refine XS.iload X0.here hx rfl (hb hby at_187) rfl ?_
      show Steps p.tables e below (T0.setTop (mkF m 189 #[.val (.long j0), .second, .val (.int i2), .val (.ref a3), .val (.int i4), .val (.int i5), .val (.int i6), .val (.int u0)] [(.int u0)])) _
      refine XS.iload X0.here hx rfl (hb hby at_189) rfl ?_
      exact kt
    by_cases hc191 : u0 < i4
    · have hix197 : ¬ u0 < 0 ∧ u0 < n_a3 := by exact own_ixd hI hc191
      have pre3 : ∀ target, Steps p.tables e below (T0.setTop (mkF m 200 #[.val (.long j0), .second, .val (.int i2), .val (.ref a3), .val (.int i4), .val (.int i5), .val (.int i6), .val (.int u0)] [(.int (48 : Int32)), (.int (A_a3 u0.toNatClampNeg))])) target → Steps p.tables e below (T0.setTop (mkF m 180 #[.val (.long j0), .second, .val (.int i2), .val (.ref a3), .val (.int i4), .val (.int i5), .val (.int i6), .unset] [(.int u0)])) target := by
        intro target kt
        refine pre2 target ?_
        show Steps p.tables e below (T0.setTop (mkF m 191 #[.val (.long j0), .second, .val (.int i2), .val (.ref a3), .val (.int i4), .val (.int i5), .val (.int i6), .val (.int u0)] [(.int i4), (.int u0)])) _
        refine XS.icmpNo X0.here hx rfl (hb hby at_191) rfl (tlt hc191).2.1 ?_
        show Steps p.tables e below (T0.setTop (mkF m 194 #[.val (.long j0), .second, .val (.int i2), .val (.ref a3), .val (.int i4), .val (.int i5), .val (.int i6), .val (.int u0)] [])) _
        refine XS.aloadN X0.here hx rfl (hb hby at_194) rfl rfl ?_
        show Steps p.tables e below (T0.setTop (mkF m 195 #[.val (.long j0), .second, .val (.int i2), .val (.ref a3), .val (.int i4), .val (.int i5), .val (.int i6), .val (.int u0)] [(.ref a3)])) _
        refine XS.iload X0.here hx rfl (hb hby at_195) rfl ?_
        show Steps p.tables e below (T0.setTop (mkF m 197 #[.val (.long j0), .second, .val (.int i2), .val (.ref a3), .val (.int i4), .val (.int i5), .val (.int i6), .val (.int u0)] [(.int u0), (.ref a3)])) _
        refine own_ldB X0 hx hZ e0 V_a3 hix197 (g := (mkF m 197 #[.val (.long j0), .second, .val (.int i2), .val (.ref a3), .val (.int i4), .val (.int i5), .val (.int i6), .val (.int u0)] [(.int u0), (.ref a3)])) rfl rfl (hb hby at_197) _ ?_
        show Steps p.tables e below (T0.setTop (mkF m 198 #[.val (.long j0), .second, .val (.int i2), .val (.ref a3), .val (.int i4), .val (.int i5), .val (.int i6), .val (.int u0)] [(.int (A_a3 u0.toNatClampNeg))])) _
        refine XS.bipush X0.here hx rfl (hb hby at_198) ?_
        exact kt
      by_cases hc200 : (A_a3 u0.toNatClampNeg) = (48 : Int32)
      · refine ⟨T0, _, _, _, X0, N0, (by decide), (by decide), fun fs hr => ?_⟩
        have hv : (own_f0_180 j0 i2 i4 i5 i6 u0 n_a3 A_a3) = (0 : Int32) := by unfold own_f0_180; rw [if_neg hc184, if_pos hc191, if_pos hc200]
        rw [hv] at hr
        refine pre3 _ ?_
        show Steps p.tables e below (T0.setTop (mkF m 200 #[.val (.long j0), .second, .val (.int i2), .val (.ref a3), .val (.int i4), .val (.int i5), .val (.int i6), .val (.int u0)] [(.int (48 : Int32)), (.int (A_a3 u0.toNatClampNeg))])) _
        refine XS.icmpYes X0.here hx rfl (pc0 := 200) (pc' := 207) rfl (hb hby at_200) rfl (teq hc200).1 (by decide) (by decide) ?_
        show Steps p.tables e below (T0.setTop (mkF m 207 #[.val (.long j0), .second, .val (.int i2), .val (.ref a3), .val (.int i4), .val (.int i5), .val (.int i6), .val (.int u0)] [])) _
        refine XS.iconst X0.here hx rfl (hb hby at_207) ?_
        show Steps p.tables e below (T0.setTop (mkF m 208 #[.val (.long j0), .second, .val (.int i2), .val (.ref a3), .val (.int i4), .val (.int i5), .val (.int i6), .val (.int u0)] [(.int (0 : Int32))])) _
        exact retN X0 hx (t := .boolean) hret (by simp) (hb hby at_208) hr
      · refine ⟨T0, _, _, _, X0, N0, (by decide), (by decide), fun fs hr => ?_⟩
        have hv : (own_f0_180 j0 i2 i4 i5 i6 u0 n_a3 A_a3) = (1 : Int32) := by unfold own_f0_180; rw [if_neg hc184, if_pos hc191, if_neg hc200]
        rw [hv] at hr
        refine pre3 _ ?_
        show Steps p.tables e below (T0.setTop (mkF m 200 #[.val (.long j0), .second, .val (.int i2), .val (.ref a3), .val (.int i4), .val (.int i5), .val (.int i6), .val (.int u0)] [(.int (48 : Int32)), (.int (A_a3 u0.toNatClampNeg))])) _
        refine XS.icmpNo X0.here hx rfl (hb hby at_200) rfl (feq hc200).1 ?_
        show Steps p.tables e below (T0.setTop (mkF m 203 #[.val (.long j0), .second, .val (.int i2), .val (.ref a3), .val (.int i4), .val (.int i5), .val (.int i6), .val (.int u0)] [])) _
        refine XS.iconst X0.here hx rfl (hb hby at_203) ?_
        show Steps p.tables e below (T0.setTop (mkF m 204 #[.val (.long j0), .second, .val (.int i2), .val (.ref a3), .val (.int i4), .val (.int i5), .val (.int i6), .val (.int u0)] [(.int (1 : Int32))])) _
        refine XS.goto X0.here hx rfl (pc0 := 204) (pc' := 208) rfl (hb hby at_204) (by decide) (by decide) ?_
        show Steps p.tables e below (T0.setTop (mkF m 208 #[.val (.long j0), .second, .val (.int i2), .val (.ref a3), .val (.int i4), .val (.int i5), .val (.int i6), .val (.int u0)] [(.int (1 : Int32))])) _
        exact retN X0 hx (t := .boolean) hret (by simp) (hb hby at_208) hr
    · refine ⟨T0, _, _, _, X0, N0, (by decide), (by decide), fun fs hr => ?_⟩
      have hv : (own_f0_180 j0 i2 i4 i5 i6 u0 n_a3 A_a3) = (0 : Int32) := by unfold own_f0_180; rw [if_neg hc184, if_neg hc191]
      rw [hv] at hr
      refine pre2 _ ?_
      show Steps p.tables e below (T0.setTop (mkF m 191 #[.val (.long j0), .second, .val (.int i2), .val (.ref a3), .val (.int i4), .val (.int i5), .val (.int i6), .val (.int u0)] [(.int i4), (.int u0)])) _
      refine XS.icmpYes X0.here hx rfl (pc0 := 191) (pc' := 207) rfl (hb hby at_191) rfl (flt hc191).2.1 (by decide) (by decide) ?_
      show Steps p.tables e below (T0.setTop (mkF m 207 #[.val (.long j0), .second, .val (.int i2), .val (.ref a3), .val (.int i4), .val (.int i5), .val (.int i6), .val (.int u0)] [])) _
      refine XS.iconst X0.here hx rfl (hb hby at_207) ?_
      show Steps p.tables e below (T0.setTop (mkF m 208 #[.val (.long j0), .second, .val (.int i2), .val (.ref a3), .val (.int i4), .val (.int i5), .val (.int i6), .val (.int u0)] [(.int (0 : Int32))])) _
      exact retN X0 hx (t := .boolean) hret (by simp) (hb hby at_208) hr
set_option maxRecDepth 65536 in
set_option maxHeartbeats 40000000 in
theorem own_b0_54 {p : Program} {l : Launch} {e : Env} {s : State} {m : MethodId} {args : Array Value} {below : List Frame} {meth : Method} {c : Code} {Z : State} {a0_ : Array Value} {n0 : Nat} (hx : p.tables.exec = Jvm.exec) (hZ : Z.Warmed39 s.vm) (hw : ∀ d ∈ tables_1, d.before a0_ Z = true) (hby : c.code = code) (hml : c.maxLocals = 8) (hown : s.vm.findClass "com/example/rollcalldb/rollcalldb/resp/DecimalFormatPinLaw" = some m.cls) (hret : meth.sig.returnType = some .boolean) {T0 : State} {locs : List Loc} {h0 : Heap} (j0 : Int64) (i2 : Int32) (a3 : Addr) (i4 : Int32) (i5 : Int32) (u0 : Int32) (n_a3 : Int32) (A_a3 : Nat → Int32)
    (X0 : Stand p l e room_1 s m args below meth c T0 locs 1 27) (e0 : T0.heap = h0) (N0 : Fr n0 locs) (Z0 : n0 ≤ h0.size) (g_a3 : n0 ≤ a3) (V_a3 : own_Ar Z h0 a3 .byte n_a3 A_a3) (hI : 20 ≤ n_a3.toInt ∧ n_a3.toInt ≤ 27 ∧ i4 = n_a3 ∧ 0 ≤ i5.toInt ∧ i5.toInt < n_a3.toInt) :
    ∃ T' locs' cells' slots', Stand p l e room_1 s m args below meth c T' locs' cells' slots' ∧ Fr n0 locs' ∧ cells' ≤ room_1.cells ∧ slots' ≤ room_1.slots ∧ ∀ fs, (∀ (f : JFrame) (acts : List Action), f.method = m → f.locked = none → f.entered = [] → (doReturn e (T'.setTop f) acts (some (.int (own_f0_54 j0 i2 i4 i5 u0 n_a3 A_a3)))).1 = T'.setFrames fs) → Steps p.tables e below (T0.setTop (mkF m 54 #[.val (.long j0), .second, .val (.int i2), .val (.ref a3), .val (.int i4), .val (.int i5), .unset, .unset] [(.int u0)])) (T'.setFrames fs) := by
  have pre1 : ∀ target, Steps p.tables e below (T0.setTop (mkF m 61 #[.val (.long j0), .second, .val (.int i2), .val (.ref a3), .val (.int i4), .val (.int i5), .val (.int u0), .unset] [(.int (lcmpW j0 (-9223372036854775808 : Int64)))])) target → Steps p.tables e below (T0.setTop (mkF m 54 #[.val (.long j0), .second, .val (.int i2), .val (.ref a3), .val (.int i4), .val (.int i5), .unset, .unset] [(.int u0)])) target := by
    intro target kt
    show Steps p.tables e below (T0.setTop (mkF m 54 #[.val (.long j0), .second, .val (.int i2), .val (.ref a3), .val (.int i4), .val (.int i5), .unset, .unset] [(.int u0)])) _
    refine XS.istore X0.here hx rfl (hb hby at_54) rfl (l' := #[.val (.long j0), .second, .val (.int i2), .val (.ref a3), .val (.int i4), .val (.int i5), .val (.int u0), .unset]) rfl ?_
    show Steps p.tables e below (T0.setTop (mkF m 56 #[.val (.long j0), .second, .val (.int i2), .val (.ref a3), .val (.int i4), .val (.int i5), .val (.int u0), .unset] [])) _
    refine XS.lloadN X0.here hx rfl (hb hby at_56) rfl ?_
    show Steps p.tables e below (T0.setTop (mkF m 57 #[.val (.long j0), .second, .val (.int i2), .val (.ref a3), .val (.int i4), .val (.int i5), .val (.int u0), .unset] [(.long j0)])) _
    refine X0.ldc2Long hx hown (mvT hZ (hw _ (List.mem_of_getElem? (i := 7) rfl))) (g := (mkF m 57 #[.val (.long j0), .second, .val (.int i2), .val (.ref a3), .val (.int i4), .val (.int i5), .val (.int u0), .unset] [(.long j0)])) rfl (hb hby at_57) _ ?_
    show Steps p.tables e below (T0.setTop (mkF m 60 #[.val (.long j0), .second, .val (.int i2), .val (.ref a3), .val (.int i4), .val (.int i5), .val (.int u0), .unset] [(.long (-9223372036854775808 : Int64)), (.long j0)])) _
    refine XS.lcmp X0.here hx rfl (hb hby at_60) rfl ?_
    exact kt
  by_cases hc61 : j0 = (-9223372036854775808 : Int64)
  · have pre2 : ∀ target, Steps p.tables e below (T0.setTop (mkF m 66 #[.val (.long j0), .second, .val (.int i2), .val (.ref a3), .val (.int i4), .val (.int i5), .val (.int u0), .unset] [(.int u0)])) target → Steps p.tables e below (T0.setTop (mkF m 54 #[.val (.long j0), .second, .val (.int i2), .val (.ref a3), .val (.int i4), .val (.int i5), .unset, .unset] [(.int u0)])) target := by
      intro target kt
      refine pre1 target ?_
      show Steps p.tables e below (T0.setTop (mkF m 61 #[.val (.long j0), .second, .val (.int i2), .val (.ref a3), .val (.int i4), .val (.int i5), .val (.int u0), .unset] [(.int (lcmpW j0 (-9223372036854775808 : Int64)))])) _
      refine XS.ifNo X0.here hx rfl (hb hby at_61) rfl ((if0 _ _).trans (teq ((lw_eq _ _).mpr hc61)).2) ?_
      show Steps p.tables e below (T0.setTop (mkF m 64 #[.val (.long j0), .second, .val (.int i2), .val (.ref a3), .val (.int i4), .val (.int i5), .val (.int u0), .unset] [])) _
      refine XS.iload X0.here hx rfl (hb hby at_64) rfl ?_
      exact kt
    by_cases hc66 : u0 = (0 : Int32)
    · refine ⟨T0, _, _, _, X0, N0, (by decide), (by decide), fun fs hr => ?_⟩
      have hv : (own_f0_54 j0 i2 i4 i5 u0 n_a3 A_a3) = (0 : Int32) := by unfold own_f0_54; rw [if_pos hc61, if_pos hc66]
      rw [hv] at hr
      refine pre2 _ ?_
      show Steps p.tables e below (T0.setTop (mkF m 66 #[.val (.long j0), .second, .val (.int i2), .val (.ref a3), .val (.int i4), .val (.int i5), .val (.int u0), .unset] [(.int u0)])) _
      refine XS.ifYes X0.here hx rfl (pc0 := 66) (pc' := 122) rfl (hb hby at_66) rfl ((if0 _ _).trans (teq hc66).1) (by decide) (by decide) ?_
      show Steps p.tables e below (T0.setTop (mkF m 122 #[.val (.long j0), .second, .val (.int i2), .val (.ref a3), .val (.int i4), .val (.int i5), .val (.int u0), .unset] [])) _
      refine XS.iconst X0.here hx rfl (hb hby at_122) ?_
      show Steps p.tables e below (T0.setTop (mkF m 123 #[.val (.long j0), .second, .val (.int i2), .val (.ref a3), .val (.int i4), .val (.int i5), .val (.int u0), .unset] [(.int (0 : Int32))])) _
      exact retN X0 hx (t := .boolean) hret (by simp) (hb hby at_123) hr
    · have pre3 : ∀ target, Steps p.tables e below (T0.setTop (mkF m 76 #[.val (.long j0), .second, .val (.int i2), .val (.ref a3), .val (.int i4), .val (.int i5), .val (.int u0), .unset] [(.int (20 : Int32)), (.int (i4 - i5))])) target → Steps p.tables e below (T0.setTop (mkF m 54 #[.val (.long j0), .second, .val (.int i2), .val (.ref a3), .val (.int i4), .val (.int i5), .unset, .unset] [(.int u0)])) target := by
        intro target kt
        refine pre2 target ?_
        show Steps p.tables e below (T0.setTop (mkF m 66 #[.val (.long j0), .second, .val (.int i2), .val (.ref a3), .val (.int i4), .val (.int i5), .val (.int u0), .unset] [(.int u0)])) _
        refine XS.ifNo X0.here hx rfl (hb hby at_66) rfl ((if0 _ _).trans (feq hc66).1) ?_
        show Steps p.tables e below (T0.setTop (mkF m 69 #[.val (.long j0), .second, .val (.int i2), .val (.ref a3), .val (.int i4), .val (.int i5), .val (.int u0), .unset] [])) _
        refine XS.iload X0.here hx rfl (hb hby at_69) rfl ?_
        show Steps p.tables e below (T0.setTop (mkF m 71 #[.val (.long j0), .second, .val (.int i2), .val (.ref a3), .val (.int i4), .val (.int i5), .val (.int u0), .unset] [(.int i4)])) _
        refine XS.iload X0.here hx rfl (hb hby at_71) rfl ?_
        show Steps p.tables e below (T0.setTop (mkF m 73 #[.val (.long j0), .second, .val (.int i2), .val (.ref a3), .val (.int i4), .val (.int i5), .val (.int u0), .unset] [(.int i5), (.int i4)])) _
        refine XS.isub X0.here hx rfl (hb hby at_73) rfl ?_
        show Steps p.tables e below (T0.setTop (mkF m 74 #[.val (.long j0), .second, .val (.int i2), .val (.ref a3), .val (.int i4), .val (.int i5), .val (.int u0), .unset] [(.int (i4 - i5))])) _
        refine XS.bipush X0.here hx rfl (hb hby at_74) ?_
        exact kt
      by_cases hc76 : (i4 - i5) = (20 : Int32)
      · have hix82 : ¬ i5 < 0 ∧ i5 < n_a3 := by exact own_ixb hI
        have pre4 : ∀ target, Steps p.tables e below (T0.setTop (mkF m 85 #[.val (.long j0), .second, .val (.int i2), .val (.ref a3), .val (.int i4), .val (.int i5), .val (.int u0), .unset] [(.int (45 : Int32)), (.int (A_a3 i5.toNatClampNeg))])) target → Steps p.tables e below (T0.setTop (mkF m 54 #[.val (.long j0), .second, .val (.int i2), .val (.ref a3), .val (.int i4), .val (.int i5), .unset, .unset] [(.int u0)])) target := by
          intro target kt
          refine pre3 target ?_
          show Steps p.tables e below (T0.setTop (mkF m 76 #[.val (.long j0), .second, .val (.int i2), .val (.ref a3), .val (.int i4), .val (.int i5), .val (.int u0), .unset] [(.int (20 : Int32)), (.int (i4 - i5))])) _
          refine XS.icmpNo X0.here hx rfl (hb hby at_76) rfl (teq hc76).2 ?_
          show Steps p.tables e below (T0.setTop (mkF m 79 #[.val (.long j0), .second, .val (.int i2), .val (.ref a3), .val (.int i4), .val (.int i5), .val (.int u0), .unset] [])) _
          refine XS.aloadN X0.here hx rfl (hb hby at_79) rfl rfl ?_
          show Steps p.tables e below (T0.setTop (mkF m 80 #[.val (.long j0), .second, .val (.int i2), .val (.ref a3), .val (.int i4), .val (.int i5), .val (.int u0), .unset] [(.ref a3)])) _
          refine XS.iload X0.here hx rfl (hb hby at_80) rfl ?_
          show Steps p.tables e below (T0.setTop (mkF m 82 #[.val (.long j0), .second, .val (.int i2), .val (.ref a3), .val (.int i4), .val (.int i5), .val (.int u0), .unset] [(.int i5), (.ref a3)])) _
          refine own_ldB X0 hx hZ e0 V_a3 hix82 (g := (mkF m 82 #[.val (.long j0), .second, .val (.int i2), .val (.ref a3), .val (.int i4), .val (.int i5), .val (.int u0), .unset] [(.int i5), (.ref a3)])) rfl rfl (hb hby at_82) _ ?_
          show Steps p.tables e below (T0.setTop (mkF m 83 #[.val (.long j0), .second, .val (.int i2), .val (.ref a3), .val (.int i4), .val (.int i5), .val (.int u0), .unset] [(.int (A_a3 i5.toNatClampNeg))])) _
          refine XS.bipush X0.here hx rfl (hb hby at_83) ?_
          exact kt
        by_cases hc85 : (A_a3 i5.toNatClampNeg) = (45 : Int32)
        · have hix93 : ¬ (i4 - (1 : Int32)) < 0 ∧ (i4 - (1 : Int32)) < n_a3 := by exact own_ixc hI
          have pre5 : ∀ target, Steps p.tables e below (T0.setTop (mkF m 96 #[.val (.long j0), .second, .val (.int i2), .val (.ref a3), .val (.int i4), .val (.int i5), .val (.int u0), .unset] [(.int (56 : Int32)), (.int (A_a3 (i4 - (1 : Int32)).toNatClampNeg))])) target → Steps p.tables e below (T0.setTop (mkF m 54 #[.val (.long j0), .second, .val (.int i2), .val (.ref a3), .val (.int i4), .val (.int i5), .unset, .unset] [(.int u0)])) target := by
            intro target kt
            refine pre4 target ?_
            show Steps p.tables e below (T0.setTop (mkF m 85 #[.val (.long j0), .second, .val (.int i2), .val (.ref a3), .val (.int i4), .val (.int i5), .val (.int u0), .unset] [(.int (45 : Int32)), (.int (A_a3 i5.toNatClampNeg))])) _
            refine XS.icmpNo X0.here hx rfl (hb hby at_85) rfl (teq hc85).2 ?_
            show Steps p.tables e below (T0.setTop (mkF m 88 #[.val (.long j0), .second, .val (.int i2), .val (.ref a3), .val (.int i4), .val (.int i5), .val (.int u0), .unset] [])) _
            refine XS.aloadN X0.here hx rfl (hb hby at_88) rfl rfl ?_
            show Steps p.tables e below (T0.setTop (mkF m 89 #[.val (.long j0), .second, .val (.int i2), .val (.ref a3), .val (.int i4), .val (.int i5), .val (.int u0), .unset] [(.ref a3)])) _
            refine XS.iload X0.here hx rfl (hb hby at_89) rfl ?_
            show Steps p.tables e below (T0.setTop (mkF m 91 #[.val (.long j0), .second, .val (.int i2), .val (.ref a3), .val (.int i4), .val (.int i5), .val (.int u0), .unset] [(.int i4), (.ref a3)])) _
            refine XS.iconst X0.here hx rfl (hb hby at_91) ?_
            show Steps p.tables e below (T0.setTop (mkF m 92 #[.val (.long j0), .second, .val (.int i2), .val (.ref a3), .val (.int i4), .val (.int i5), .val (.int u0), .unset] [(.int (1 : Int32)), (.int i4), (.ref a3)])) _
            refine XS.isub X0.here hx rfl (hb hby at_92) rfl ?_
            show Steps p.tables e below (T0.setTop (mkF m 93 #[.val (.long j0), .second, .val (.int i2), .val (.ref a3), .val (.int i4), .val (.int i5), .val (.int u0), .unset] [(.int (i4 - (1 : Int32))), (.ref a3)])) _
            refine own_ldB X0 hx hZ e0 V_a3 hix93 (g := (mkF m 93 #[.val (.long j0), .second, .val (.int i2), .val (.ref a3), .val (.int i4), .val (.int i5), .val (.int u0), .unset] [(.int (i4 - (1 : Int32))), (.ref a3)])) rfl rfl (hb hby at_93) _ ?_
            show Steps p.tables e below (T0.setTop (mkF m 94 #[.val (.long j0), .second, .val (.int i2), .val (.ref a3), .val (.int i4), .val (.int i5), .val (.int u0), .unset] [(.int (A_a3 (i4 - (1 : Int32)).toNatClampNeg))])) _
            refine XS.bipush X0.here hx rfl (hb hby at_94) ?_
            exact kt
          by_cases hc96 : (A_a3 (i4 - (1 : Int32)).toNatClampNeg) = (56 : Int32)
          · have hJ6 : n_a3.toInt ≤ 1000 ∧ 0 ≤ (i5 + (1 : Int32)).toInt ∧ (i5 + (1 : Int32)).toInt ≤ 1000 ∧ (i4 - (1 : Int32)).toInt ≤ n_a3.toInt := by exact own_ca hI
            obtain ⟨_, _, ⟨T6, L6, k6, n6⟩, -, X6, ⟨Lc6, hQ6, l6, y6, z6⟩, st6⟩ := Jvm.LawKit.callS X0 hx (y := (⟨"com/example/rollcalldb/rollcalldb/resp/Decimal", "parse", "([BII)J"⟩ : MethodName)) hown (mvT hZ (hw _ (List.mem_of_getElem? (i := 8) rfl))) (mvT hZ (hw _ (List.mem_of_getElem? (i := 9) rfl))) (mvT hZ (hw _ (List.mem_of_getElem? (i := 3) rfl))) (mvT hZ (hw _ (List.mem_of_getElem? (i := 10) rfl))) (by decide) (backOf (W := 0) (rm2 l Z a0_ hw [] a3 (i5 + (1 : Int32)) (i4 - (1 : Int32)) n_a3 A_a3 h0 n0 Z0 V_a3 hJ6) hZ (hw _ (List.mem_of_getElem? (i := 10) rfl)) (hw _ (List.mem_of_getElem? (i := 3) rfl)) (by decide) (by decide)) (g := (mkF m 108 #[.val (.long j0), .second, .val (.int i2), .val (.ref a3), .val (.int i4), .val (.int i5), .val (.int u0), .unset] [(.int (i4 - (1 : Int32))), (.int (i5 + (1 : Int32))), (.ref a3)])) rfl (by rw [hml]; rfl) (argsL := [(.ref a3), (.int (i5 + (1 : Int32))), (.int (i4 - (1 : Int32)))]) (rest := []) (lenOf pd_0_1 rfl) rfl (by show 2 * 0 + _ ≤ _; exact Nat.le_of_eq rfl) (hb hby at_108) (fun _ _ => ⟨rfl, e0, (by decide : 1 + 0 ≤ room_1.cells), (by decide : 27 + 0 ≤ room_1.slots)⟩)
            dsimp only [Pt.U, Pt.locs, Pt.cells, Pt.slots] at X6 l6 y6 z6 st6 hQ6
            subst l6 y6 z6
            obtain ⟨rfl, rfl, e6⟩ := hQ6
            rw [List.append_nil] at X6
            have pre7 : ∀ target, Steps p.tables e below (T6.setTop (mkF m 115 #[.val (.long j0), .second, .val (.int i2), .val (.ref a3), .val (.int i4), .val (.int i5), .val (.int u0), .unset] [(.int (lcmpW (own_f2_0 (i5 + (1 : Int32)) (i4 - (1 : Int32)) n_a3 A_a3) (922337203685477580 : Int64)))])) target → Steps p.tables e below (T0.setTop (mkF m 54 #[.val (.long j0), .second, .val (.int i2), .val (.ref a3), .val (.int i4), .val (.int i5), .unset, .unset] [(.int u0)])) target := by
              intro target kt
              refine pre5 target ?_
              show Steps p.tables e below (T0.setTop (mkF m 96 #[.val (.long j0), .second, .val (.int i2), .val (.ref a3), .val (.int i4), .val (.int i5), .val (.int u0), .unset] [(.int (56 : Int32)), (.int (A_a3 (i4 - (1 : Int32)).toNatClampNeg))])) _
              refine XS.icmpNo X0.here hx rfl (hb hby at_96) rfl (teq hc96).2 ?_
              show Steps p.tables e below (T0.setTop (mkF m 99 #[.val (.long j0), .second, .val (.int i2), .val (.ref a3), .val (.int i4), .val (.int i5), .val (.int u0), .unset] [])) _
              refine XS.aloadN X0.here hx rfl (hb hby at_99) rfl rfl ?_
              show Steps p.tables e below (T0.setTop (mkF m 100 #[.val (.long j0), .second, .val (.int i2), .val (.ref a3), .val (.int i4), .val (.int i5), .val (.int u0), .unset] [(.ref a3)])) _
              refine XS.iload X0.here hx rfl (hb hby at_100) rfl ?_
              show Steps p.tables e below (T0.setTop (mkF m 102 #[.val (.long j0), .second, .val (.int i2), .val (.ref a3), .val (.int i4), .val (.int i5), .val (.int u0), .unset] [(.int i5), (.ref a3)])) _
              refine XS.iconst X0.here hx rfl (hb hby at_102) ?_
              show Steps p.tables e below (T0.setTop (mkF m 103 #[.val (.long j0), .second, .val (.int i2), .val (.ref a3), .val (.int i4), .val (.int i5), .val (.int u0), .unset] [(.int (1 : Int32)), (.int i5), (.ref a3)])) _
              refine XS.iadd X0.here hx rfl (hb hby at_103) rfl ?_
              show Steps p.tables e below (T0.setTop (mkF m 104 #[.val (.long j0), .second, .val (.int i2), .val (.ref a3), .val (.int i4), .val (.int i5), .val (.int u0), .unset] [(.int (i5 + (1 : Int32))), (.ref a3)])) _
              refine XS.iload X0.here hx rfl (hb hby at_104) rfl ?_
              show Steps p.tables e below (T0.setTop (mkF m 106 #[.val (.long j0), .second, .val (.int i2), .val (.ref a3), .val (.int i4), .val (.int i5), .val (.int u0), .unset] [(.int i4), (.int (i5 + (1 : Int32))), (.ref a3)])) _
              refine XS.iconst X0.here hx rfl (hb hby at_106) ?_
              show Steps p.tables e below (T0.setTop (mkF m 107 #[.val (.long j0), .second, .val (.int i2), .val (.ref a3), .val (.int i4), .val (.int i5), .val (.int u0), .unset] [(.int (1 : Int32)), (.int i4), (.int (i5 + (1 : Int32))), (.ref a3)])) _
              refine XS.isub X0.here hx rfl (hb hby at_107) rfl ?_
              show Steps p.tables e below (T0.setTop (mkF m 108 #[.val (.long j0), .second, .val (.int i2), .val (.ref a3), .val (.int i4), .val (.int i5), .val (.int u0), .unset] [(.int (i4 - (1 : Int32))), (.int (i5 + (1 : Int32))), (.ref a3)])) _
              refine st6 _ ?_
              show Steps p.tables e below (T6.setTop (mkF m 111 #[.val (.long j0), .second, .val (.int i2), .val (.ref a3), .val (.int i4), .val (.int i5), .val (.int u0), .unset] [(.long (own_f2_0 (i5 + (1 : Int32)) (i4 - (1 : Int32)) n_a3 A_a3))])) _
              refine X6.ldc2Long hx hown (mvT hZ (hw _ (List.mem_of_getElem? (i := 12) rfl))) (g := (mkF m 111 #[.val (.long j0), .second, .val (.int i2), .val (.ref a3), .val (.int i4), .val (.int i5), .val (.int u0), .unset] [(.long (own_f2_0 (i5 + (1 : Int32)) (i4 - (1 : Int32)) n_a3 A_a3))])) rfl (hb hby at_111) _ ?_
              show Steps p.tables e below (T6.setTop (mkF m 114 #[.val (.long j0), .second, .val (.int i2), .val (.ref a3), .val (.int i4), .val (.int i5), .val (.int u0), .unset] [(.long (922337203685477580 : Int64)), (.long (own_f2_0 (i5 + (1 : Int32)) (i4 - (1 : Int32)) n_a3 A_a3))])) _
              refine XS.lcmp X6.here hx rfl (hb hby at_114) rfl ?_
              exact kt
            by_cases hc115 : (own_f2_0 (i5 + (1 : Int32)) (i4 - (1 : Int32)) n_a3 A_a3) = (922337203685477580 : Int64)
            · refine ⟨T6, _, _, _, X6, N0, (by decide), (by decide), fun fs hr => ?_⟩
              have hv : (own_f0_54 j0 i2 i4 i5 u0 n_a3 A_a3) = (1 : Int32) := by unfold own_f0_54; rw [if_pos hc61, if_neg hc66, if_pos hc76, if_pos hc85, if_pos hc96, if_pos hc115]
              rw [hv] at hr
              refine pre7 _ ?_
              show Steps p.tables e below (T6.setTop (mkF m 115 #[.val (.long j0), .second, .val (.int i2), .val (.ref a3), .val (.int i4), .val (.int i5), .val (.int u0), .unset] [(.int (lcmpW (own_f2_0 (i5 + (1 : Int32)) (i4 - (1 : Int32)) n_a3 A_a3) (922337203685477580 : Int64)))])) _
              refine XS.ifNo X6.here hx rfl (hb hby at_115) rfl ((if0 _ _).trans (teq ((lw_eq _ _).mpr hc115)).2) ?_
              show Steps p.tables e below (T6.setTop (mkF m 118 #[.val (.long j0), .second, .val (.int i2), .val (.ref a3), .val (.int i4), .val (.int i5), .val (.int u0), .unset] [])) _
              refine XS.iconst X6.here hx rfl (hb hby at_118) ?_
              show Steps p.tables e below (T6.setTop (mkF m 119 #[.val (.long j0), .second, .val (.int i2), .val (.ref a3), .val (.int i4), .val (.int i5), .val (.int u0), .unset] [(.int (1 : Int32))])) _
              refine XS.goto X6.here hx rfl (pc0 := 119) (pc' := 123) rfl (hb hby at_119) (by decide) (by decide) ?_
              show Steps p.tables e below (T6.setTop (mkF m 123 #[.val (.long j0), .second, .val (.int i2), .val (.ref a3), .val (.int i4), .val (.int i5), .val (.int u0), .unset] [(.int (1 : Int32))])) _
              exact retN X6 hx (t := .boolean) hret (by simp) (hb hby at_123) hr
            · refine ⟨T6, _, _, _, X6, N0, (by decide), (by decide), fun fs hr => ?_⟩
              have hv : (own_f0_54 j0 i2 i4 i5 u0 n_a3 A_a3) = (0 : Int32) := by unfold own_f0_54; rw [if_pos hc61, if_neg hc66, if_pos hc76, if_pos hc85, if_pos hc96, if_neg hc115]
              rw [hv] at hr
              refine pre7 _ ?_
              show Steps p.tables e below (T6.setTop (mkF m 115 #[.val (.long j0), .second, .val (.int i2), .val (.ref a3), .val (.int i4), .val (.int i5), .val (.int u0), .unset] [(.int (lcmpW (own_f2_0 (i5 + (1 : Int32)) (i4 - (1 : Int32)) n_a3 A_a3) (922337203685477580 : Int64)))])) _
              refine XS.ifYes X6.here hx rfl (pc0 := 115) (pc' := 122) rfl (hb hby at_115) rfl ((if0 _ _).trans (feq (mt (lw_eq _ _).mp hc115)).2) (by decide) (by decide) ?_
              show Steps p.tables e below (T6.setTop (mkF m 122 #[.val (.long j0), .second, .val (.int i2), .val (.ref a3), .val (.int i4), .val (.int i5), .val (.int u0), .unset] [])) _
              refine XS.iconst X6.here hx rfl (hb hby at_122) ?_
              show Steps p.tables e below (T6.setTop (mkF m 123 #[.val (.long j0), .second, .val (.int i2), .val (.ref a3), .val (.int i4), .val (.int i5), .val (.int u0), .unset] [(.int (0 : Int32))])) _
              exact retN X6 hx (t := .boolean) hret (by simp) (hb hby at_123) hr
          · refine ⟨T0, _, _, _, X0, N0, (by decide), (by decide), fun fs hr => ?_⟩
            have hv : (own_f0_54 j0 i2 i4 i5 u0 n_a3 A_a3) = (0 : Int32) := by unfold own_f0_54; rw [if_pos hc61, if_neg hc66, if_pos hc76, if_pos hc85, if_neg hc96]
            rw [hv] at hr
            refine pre5 _ ?_
            show Steps p.tables e below (T0.setTop (mkF m 96 #[.val (.long j0), .second, .val (.int i2), .val (.ref a3), .val (.int i4), .val (.int i5), .val (.int u0), .unset] [(.int (56 : Int32)), (.int (A_a3 (i4 - (1 : Int32)).toNatClampNeg))])) _
            refine XS.icmpYes X0.here hx rfl (pc0 := 96) (pc' := 122) rfl (hb hby at_96) rfl (feq hc96).2 (by decide) (by decide) ?_
            show Steps p.tables e below (T0.setTop (mkF m 122 #[.val (.long j0), .second, .val (.int i2), .val (.ref a3), .val (.int i4), .val (.int i5), .val (.int u0), .unset] [])) _
            refine XS.iconst X0.here hx rfl (hb hby at_122) ?_
            show Steps p.tables e below (T0.setTop (mkF m 123 #[.val (.long j0), .second, .val (.int i2), .val (.ref a3), .val (.int i4), .val (.int i5), .val (.int u0), .unset] [(.int (0 : Int32))])) _
            exact retN X0 hx (t := .boolean) hret (by simp) (hb hby at_123) hr
        · refine ⟨T0, _, _, _, X0, N0, (by decide), (by decide), fun fs hr => ?_⟩
          have hv : (own_f0_54 j0 i2 i4 i5 u0 n_a3 A_a3) = (0 : Int32) := by unfold own_f0_54; rw [if_pos hc61, if_neg hc66, if_pos hc76, if_neg hc85]
          rw [hv] at hr
          refine pre4 _ ?_
          show Steps p.tables e below (T0.setTop (mkF m 85 #[.val (.long j0), .second, .val (.int i2), .val (.ref a3), .val (.int i4), .val (.int i5), .val (.int u0), .unset] [(.int (45 : Int32)), (.int (A_a3 i5.toNatClampNeg))])) _
          refine XS.icmpYes X0.here hx rfl (pc0 := 85) (pc' := 122) rfl (hb hby at_85) rfl (feq hc85).2 (by decide) (by decide) ?_
          show Steps p.tables e below (T0.setTop (mkF m 122 #[.val (.long j0), .second, .val (.int i2), .val (.ref a3), .val (.int i4), .val (.int i5), .val (.int u0), .unset] [])) _
          refine XS.iconst X0.here hx rfl (hb hby at_122) ?_
          show Steps p.tables e below (T0.setTop (mkF m 123 #[.val (.long j0), .second, .val (.int i2), .val (.ref a3), .val (.int i4), .val (.int i5), .val (.int u0), .unset] [(.int (0 : Int32))])) _
          exact retN X0 hx (t := .boolean) hret (by simp) (hb hby at_123) hr
      · refine ⟨T0, _, _, _, X0, N0, (by decide), (by decide), fun fs hr => ?_⟩
        have hv : (own_f0_54 j0 i2 i4 i5 u0 n_a3 A_a3) = (0 : Int32) := by unfold own_f0_54; rw [if_pos hc61, if_neg hc66, if_neg hc76]
        rw [hv] at hr
        refine pre3 _ ?_
        show Steps p.tables e below (T0.setTop (mkF m 76 #[.val (.long j0), .second, .val (.int i2), .val (.ref a3), .val (.int i4), .val (.int i5), .val (.int u0), .unset] [(.int (20 : Int32)), (.int (i4 - i5))])) _
        refine XS.icmpYes X0.here hx rfl (pc0 := 76) (pc' := 122) rfl (hb hby at_76) rfl (feq hc76).2 (by decide) (by decide) ?_
        show Steps p.tables e below (T0.setTop (mkF m 122 #[.val (.long j0), .second, .val (.int i2), .val (.ref a3), .val (.int i4), .val (.int i5), .val (.int u0), .unset] [])) _
        refine XS.iconst X0.here hx rfl (hb hby at_122) ?_
        show Steps p.tables e below (T0.setTop (mkF m 123 #[.val (.long j0), .second, .val (.int i2), .val (.ref a3), .val (.int i4), .val (.int i5), .val (.int u0), .unset] [(.int (0 : Int32))])) _
        exact retN X0 hx (t := .boolean) hret (by simp) (hb hby at_123) hr
  · have hJ8 : n_a3.toInt ≤ 1000 ∧ 0 ≤ i5.toInt ∧ i5.toInt ≤ 1000 ∧ i4.toInt ≤ n_a3.toInt := by exact own_cb hI
    obtain ⟨_, _, ⟨T8, L8, k8, n8⟩, -, X8, ⟨Lc8, hQ8, l8, y8, z8⟩, st8⟩ := Jvm.LawKit.callS X0 hx (y := (⟨"com/example/rollcalldb/rollcalldb/resp/Decimal", "parse", "([BII)J"⟩ : MethodName)) hown (mvT hZ (hw _ (List.mem_of_getElem? (i := 8) rfl))) (mvT hZ (hw _ (List.mem_of_getElem? (i := 9) rfl))) (mvT hZ (hw _ (List.mem_of_getElem? (i := 3) rfl))) (mvT hZ (hw _ (List.mem_of_getElem? (i := 10) rfl))) (by decide) (backOf (W := 0) (rm2 l Z a0_ hw [] a3 i5 i4 n_a3 A_a3 h0 n0 Z0 V_a3 hJ8) hZ (hw _ (List.mem_of_getElem? (i := 10) rfl)) (hw _ (List.mem_of_getElem? (i := 3) rfl)) (by decide) (by decide)) (g := (mkF m 129 #[.val (.long j0), .second, .val (.int i2), .val (.ref a3), .val (.int i4), .val (.int i5), .val (.int u0), .unset] [(.int i4), (.int i5), (.ref a3)])) rfl (by rw [hml]; rfl) (argsL := [(.ref a3), (.int i5), (.int i4)]) (rest := []) (lenOf pd_0_1 rfl) rfl (by show 2 * 0 + _ ≤ _; exact Nat.le_of_eq rfl) (hb hby at_129) (fun _ _ => ⟨rfl, e0, (by decide : 1 + 0 ≤ room_1.cells), (by decide : 27 + 0 ≤ room_1.slots)⟩)
    dsimp only [Pt.U, Pt.locs, Pt.cells, Pt.slots] at X8 l8 y8 z8 st8 hQ8
    subst l8 y8 z8
    obtain ⟨rfl, rfl, e8⟩ := hQ8
    rw [List.append_nil] at X8
    have pre9 : ∀ target, Steps p.tables e below (T8.setTop (mkF m 134 #[.val (.long j0), .second, .val (.int i2), .val (.ref a3), .val (.int i4), .val (.int i5), .val (.int u0), .unset] [(.int (lcmpW (own_f2_0 i5 i4 n_a3 A_a3) j0))])) target → Steps p.tables e below (T0.setTop (mkF m 54 #[.val (.long j0), .second, .val (.int i2), .val (.ref a3), .val (.int i4), .val (.int i5), .unset, .unset] [(.int u0)])) target := by
      intro target kt
      refine pre1 target ?_
      show Steps p.tables e below (T0.setTop (mkF m 61 #[.val (.long j0), .second, .val (.int i2), .val (.ref a3), .val (.int i4), .val (.int i5), .val (.int u0), .unset] [(.int (lcmpW j0 (-9223372036854775808 : Int64)))])) _
      refine XS.ifYes X0.here hx rfl (pc0 := 61) (pc' := 124) rfl (hb hby at_61) rfl ((if0 _ _).trans (feq (mt (lw_eq _ _).mp hc61)).2) (by decide) (by decide) ?_
      show Steps p.tables e below (T0.setTop (mkF m 124 #[.val (.long j0), .second, .val (.int i2), .val (.ref a3), .val (.int i4), .val (.int i5), .val (.int u0), .unset] [])) _
      refine XS.aloadN X0.here hx rfl (hb hby at_124) rfl rfl ?_
      show Steps p.tables e below (T0.setTop (mkF m 125 #[.val (.long j0), .second, .val (.int i2), .val (.ref a3), .val (.int i4), .val (.int i5), .val (.int u0), .unset] [(.ref a3)])) _
      refine XS.iload X0.here hx rfl (hb hby at_125) rfl ?_
      show Steps p.tables e below (T0.setTop (mkF m 127 #[.val (.long j0), .second, .val (.int i2), .val (.ref a3), .val (.int i4), .val (.int i5), .val (.int u0), .unset] [(.int i5), (.ref a3)])) _
      refine XS.iload X0.here hx rfl (hb hby at_127) rfl ?_
      show Steps p.tables e below (T0.setTop (mkF m 129 #[.val (.long j0), .second, .val (.int i2), .val (.ref a3), .val (.int i4), .val (.int i5), .val (.int u0), .unset] [(.int i4), (.int i5), (.ref a3)])) _
      refine st8 _ ?_
      show Steps p.tables e below (T8.setTop (mkF m 132 #[.val (.long j0), .second, .val (.int i2), .val (.ref a3), .val (.int i4), .val (.int i5), .val (.int u0), .unset] [(.long (own_f2_0 i5 i4 n_a3 A_a3))])) _
      refine XS.lloadN X8.here hx rfl (hb hby at_132) rfl ?_
      show Steps p.tables e below (T8.setTop (mkF m 133 #[.val (.long j0), .second, .val (.int i2), .val (.ref a3), .val (.int i4), .val (.int i5), .val (.int u0), .unset] [(.long j0), (.long (own_f2_0 i5 i4 n_a3 A_a3))])) _
      refine XS.lcmp X8.here hx rfl (hb hby at_133) rfl ?_
      exact kt
    by_cases hc134 : (own_f2_0 i5 i4 n_a3 A_a3) = j0
    · have pre10 : ∀ target, Steps p.tables e below (T8.setTop (mkF m 142 #[.val (.long j0), .second, .val (.int i2), .val (.ref a3), .val (.int i4), .val (.int i5), .val (.int u0), .unset] [(.int (lcmpW j0 (0 : Int64)))])) target → Steps p.tables e below (T0.setTop (mkF m 54 #[.val (.long j0), .second, .val (.int i2), .val (.ref a3), .val (.int i4), .val (.int i5), .unset, .unset] [(.int u0)])) target := by
        intro target kt
        refine pre9 target ?_
        show Steps p.tables e below (T8.setTop (mkF m 134 #[.val (.long j0), .second, .val (.int i2), .val (.ref a3), .val (.int i4), .val (.int i5), .val (.int u0), .unset] [(.int (lcmpW (own_f2_0 i5 i4 n_a3 A_a3) j0))])) _
        refine XS.ifYes X8.here hx rfl (pc0 := 134) (pc' := 139) rfl (hb hby at_134) rfl ((if0 _ _).trans (teq ((lw_eq _ _).mpr hc134)).1) (by decide) (by decide) ?_
        show Steps p.tables e below (T8.setTop (mkF m 139 #[.val (.long j0), .second, .val (.int i2), .val (.ref a3), .val (.int i4), .val (.int i5), .val (.int u0), .unset] [])) _
        refine XS.lloadN X8.here hx rfl (hb hby at_139) rfl ?_
        show Steps p.tables e below (T8.setTop (mkF m 140 #[.val (.long j0), .second, .val (.int i2), .val (.ref a3), .val (.int i4), .val (.int i5), .val (.int u0), .unset] [(.long j0)])) _
        refine XS.lconst X8.here hx rfl (hb hby at_140) ?_
        show Steps p.tables e below (T8.setTop (mkF m 141 #[.val (.long j0), .second, .val (.int i2), .val (.ref a3), .val (.int i4), .val (.int i5), .val (.int u0), .unset] [(.long (0 : Int64)), (.long j0)])) _
        refine XS.lcmp X8.here hx rfl (hb hby at_141) rfl ?_
        exact kt
      by_cases hc142 : j0 = (0 : Int64)
      · have pre11 : ∀ target, Steps p.tables e below (T8.setTop (mkF m 147 #[.val (.long j0), .second, .val (.int i2), .val (.ref a3), .val (.int i4), .val (.int i5), .val (.int u0), .unset] [(.int u0)])) target → Steps p.tables e below (T0.setTop (mkF m 54 #[.val (.long j0), .second, .val (.int i2), .val (.ref a3), .val (.int i4), .val (.int i5), .unset, .unset] [(.int u0)])) target := by
          intro target kt
          refine pre10 target ?_
          show Steps p.tables e below (T8.setTop (mkF m 142 #[.val (.long j0), .second, .val (.int i2), .val (.ref a3), .val (.int i4), .val (.int i5), .val (.int u0), .unset] [(.int (lcmpW j0 (0 : Int64)))])) _
          refine XS.ifNo X8.here hx rfl (hb hby at_142) rfl ((if0 _ _).trans (teq ((lw_eq _ _).mpr hc142)).2) ?_
          show Steps p.tables e below (T8.setTop (mkF m 145 #[.val (.long j0), .second, .val (.int i2), .val (.ref a3), .val (.int i4), .val (.int i5), .val (.int u0), .unset] [])) _
          refine XS.iload X8.here hx rfl (hb hby at_145) rfl ?_
          exact kt
        by_cases hc147 : u0 = (0 : Int32)
        · refine ⟨T8, _, _, _, X8, N0, (by decide), (by decide), fun fs hr => ?_⟩
          have hv : (own_f0_54 j0 i2 i4 i5 u0 n_a3 A_a3) = (0 : Int32) := by unfold own_f0_54; rw [if_neg hc61, if_pos hc134, if_pos hc142, if_pos hc147]
          rw [hv] at hr
          refine pre11 _ ?_
          show Steps p.tables e below (T8.setTop (mkF m 147 #[.val (.long j0), .second, .val (.int i2), .val (.ref a3), .val (.int i4), .val (.int i5), .val (.int u0), .unset] [(.int u0)])) _
          refine XS.ifYes X8.here hx rfl (pc0 := 147) (pc' := 163) rfl (hb hby at_147) rfl ((if0 _ _).trans (teq hc147).1) (by decide) (by decide) ?_
          show Steps p.tables e below (T8.setTop (mkF m 163 #[.val (.long j0), .second, .val (.int i2), .val (.ref a3), .val (.int i4), .val (.int i5), .val (.int u0), .unset] [])) _
          refine XS.iconst X8.here hx rfl (hb hby at_163) ?_
          show Steps p.tables e below (T8.setTop (mkF m 164 #[.val (.long j0), .second, .val (.int i2), .val (.ref a3), .val (.int i4), .val (.int i5), .val (.int u0), .unset] [(.int (0 : Int32))])) _
          exact retN X8 hx (t := .boolean) hret (by simp) (hb hby at_164) hr
        · have pre12 : ∀ target, Steps p.tables e below (T8.setTop (mkF m 156 #[.val (.long j0), .second, .val (.int i2), .val (.ref a3), .val (.int i4), .val (.int i5), .val (.int u0), .unset] [(.int (i4 - (1 : Int32))), (.int i5)])) target → Steps p.tables e below (T0.setTop (mkF m 54 #[.val (.long j0), .second, .val (.int i2), .val (.ref a3), .val (.int i4), .val (.int i5), .unset, .unset] [(.int u0)])) target := by
            intro target kt
            refine pre11 target ?_
            show Steps p.tables e below (T8.setTop (mkF m 147 #[.val (.long j0), .second, .val (.int i2), .val (.ref a3), .val (.int i4), .val (.int i5), .val (.int u0), .unset] [(.int u0)])) _
            refine XS.ifNo X8.here hx rfl (hb hby at_147) rfl ((if0 _ _).trans (feq hc147).1) ?_
            show Steps p.tables e below (T8.setTop (mkF m 150 #[.val (.long j0), .second, .val (.int i2), .val (.ref a3), .val (.int i4), .val (.int i5), .val (.int u0), .unset] [])) _
            refine XS.iload X8.here hx rfl (hb hby at_150) rfl ?_
            show Steps p.tables e below (T8.setTop (mkF m 152 #[.val (.long j0), .second, .val (.int i2), .val (.ref a3), .val (.int i4), .val (.int i5), .val (.int u0), .unset] [(.int i5)])) _
            refine XS.iload X8.here hx rfl (hb hby at_152) rfl ?_
            show Steps p.tables e below (T8.setTop (mkF m 154 #[.val (.long j0), .second, .val (.int i2), .val (.ref a3), .val (.int i4), .val (.int i5), .val (.int u0), .unset] [(.int i4), (.int i5)])) _
            refine XS.iconst X8.here hx rfl (hb hby at_154) ?_
            show Steps p.tables e below (T8.setTop (mkF m 155 #[.val (.long j0), .second, .val (.int i2), .val (.ref a3), .val (.int i4), .val (.int i5), .val (.int u0), .unset] [(.int (1 : Int32)), (.int i4), (.int i5)])) _
            refine XS.isub X8.here hx rfl (hb hby at_155) rfl ?_
            exact kt
          by_cases hc156 : i5 = (i4 - (1 : Int32))
          · refine ⟨T8, _, _, _, X8, N0, (by decide), (by decide), fun fs hr => ?_⟩
            have hv : (own_f0_54 j0 i2 i4 i5 u0 n_a3 A_a3) = (1 : Int32) := by unfold own_f0_54; rw [if_neg hc61, if_pos hc134, if_pos hc142, if_neg hc147, if_pos hc156]
            rw [hv] at hr
            refine pre12 _ ?_
            show Steps p.tables e below (T8.setTop (mkF m 156 #[.val (.long j0), .second, .val (.int i2), .val (.ref a3), .val (.int i4), .val (.int i5), .val (.int u0), .unset] [(.int (i4 - (1 : Int32))), (.int i5)])) _
            refine XS.icmpNo X8.here hx rfl (hb hby at_156) rfl (teq hc156).2 ?_
            show Steps p.tables e below (T8.setTop (mkF m 159 #[.val (.long j0), .second, .val (.int i2), .val (.ref a3), .val (.int i4), .val (.int i5), .val (.int u0), .unset] [])) _
            refine XS.iconst X8.here hx rfl (hb hby at_159) ?_
            show Steps p.tables e below (T8.setTop (mkF m 160 #[.val (.long j0), .second, .val (.int i2), .val (.ref a3), .val (.int i4), .val (.int i5), .val (.int u0), .unset] [(.int (1 : Int32))])) _
            refine XS.goto X8.here hx rfl (pc0 := 160) (pc' := 164) rfl (hb hby at_160) (by decide) (by decide) ?_
            show Steps p.tables e below (T8.setTop (mkF m 164 #[.val (.long j0), .second, .val (.int i2), .val (.ref a3), .val (.int i4), .val (.int i5), .val (.int u0), .unset] [(.int (1 : Int32))])) _
            exact retN X8 hx (t := .boolean) hret (by simp) (hb hby at_164) hr
          · refine ⟨T8, _, _, _, X8, N0, (by decide), (by decide), fun fs hr => ?_⟩
            have hv : (own_f0_54 j0 i2 i4 i5 u0 n_a3 A_a3) = (0 : Int32) := by unfold own_f0_54; rw [if_neg hc61, if_pos hc134, if_pos hc142, if_neg hc147, if_neg hc156]
            rw [hv] at hr
            refine pre12 _ ?_
            show Steps p.tables e below (T8.setTop (mkF m 156 #[.val (.long j0), .second, .val (.int i2), .val (.ref a3), .val (.int i4), .val (.int i5), .val (.int u0), .unset] [(.int (i4 - (1 : Int32))), (.int i5)])) _
            refine XS.icmpYes X8.here hx rfl (pc0 := 156) (pc' := 163) rfl (hb hby at_156) rfl (feq hc156).2 (by decide) (by decide) ?_
            show Steps p.tables e below (T8.setTop (mkF m 163 #[.val (.long j0), .second, .val (.int i2), .val (.ref a3), .val (.int i4), .val (.int i5), .val (.int u0), .unset] [])) _
            refine XS.iconst X8.here hx rfl (hb hby at_163) ?_
            show Steps p.tables e below (T8.setTop (mkF m 164 #[.val (.long j0), .second, .val (.int i2), .val (.ref a3), .val (.int i4), .val (.int i5), .val (.int u0), .unset] [(.int (0 : Int32))])) _
            exact retN X8 hx (t := .boolean) hret (by simp) (hb hby at_164) hr
      · have pre13 : ∀ target, Steps p.tables e below (T8.setTop (mkF m 168 #[.val (.long j0), .second, .val (.int i2), .val (.ref a3), .val (.int i4), .val (.int i5), .val (.int u0), .unset] [(.int (lcmpW j0 (0 : Int64)))])) target → Steps p.tables e below (T0.setTop (mkF m 54 #[.val (.long j0), .second, .val (.int i2), .val (.ref a3), .val (.int i4), .val (.int i5), .unset, .unset] [(.int u0)])) target := by
          intro target kt
          refine pre10 target ?_
          show Steps p.tables e below (T8.setTop (mkF m 142 #[.val (.long j0), .second, .val (.int i2), .val (.ref a3), .val (.int i4), .val (.int i5), .val (.int u0), .unset] [(.int (lcmpW j0 (0 : Int64)))])) _
          refine XS.ifYes X8.here hx rfl (pc0 := 142) (pc' := 165) rfl (hb hby at_142) rfl ((if0 _ _).trans (feq (mt (lw_eq _ _).mp hc142)).2) (by decide) (by decide) ?_
          show Steps p.tables e below (T8.setTop (mkF m 165 #[.val (.long j0), .second, .val (.int i2), .val (.ref a3), .val (.int i4), .val (.int i5), .val (.int u0), .unset] [])) _
          refine XS.lloadN X8.here hx rfl (hb hby at_165) rfl ?_
          show Steps p.tables e below (T8.setTop (mkF m 166 #[.val (.long j0), .second, .val (.int i2), .val (.ref a3), .val (.int i4), .val (.int i5), .val (.int u0), .unset] [(.long j0)])) _
          refine XS.lconst X8.here hx rfl (hb hby at_166) ?_
          show Steps p.tables e below (T8.setTop (mkF m 167 #[.val (.long j0), .second, .val (.int i2), .val (.ref a3), .val (.int i4), .val (.int i5), .val (.int u0), .unset] [(.long (0 : Int64)), (.long j0)])) _
          refine XS.lcmp X8.here hx rfl (hb hby at_167) rfl ?_
          exact kt
        by_cases hc168 : j0 < (0 : Int64)
        · have pre14 : ∀ target, Steps p.tables e below (T8.setTop (mkF m 180 #[.val (.long j0), .second, .val (.int i2), .val (.ref a3), .val (.int i4), .val (.int i5), .val (.int u0), .unset] [(.int (i5 + (1 : Int32)))])) target → Steps p.tables e below (T0.setTop (mkF m 54 #[.val (.long j0), .second, .val (.int i2), .val (.ref a3), .val (.int i4), .val (.int i5), .unset, .unset] [(.int u0)])) target := by
            intro target kt
            refine pre13 target ?_
            show Steps p.tables e below (T8.setTop (mkF m 168 #[.val (.long j0), .second, .val (.int i2), .val (.ref a3), .val (.int i4), .val (.int i5), .val (.int u0), .unset] [(.int (lcmpW j0 (0 : Int64)))])) _
            refine XS.ifNo X8.here hx rfl (hb hby at_168) rfl ((if0 _ _).trans (tlt ((lw_lt _ _).mpr hc168)).2.1) ?_
            show Steps p.tables e below (T8.setTop (mkF m 171 #[.val (.long j0), .second, .val (.int i2), .val (.ref a3), .val (.int i4), .val (.int i5), .val (.int u0), .unset] [])) _
            refine XS.iload X8.here hx rfl (hb hby at_171) rfl ?_
            show Steps p.tables e below (T8.setTop (mkF m 173 #[.val (.long j0), .second, .val (.int i2), .val (.ref a3), .val (.int i4), .val (.int i5), .val (.int u0), .unset] [(.int i5)])) _
            refine XS.iconst X8.here hx rfl (hb hby at_173) ?_
            show Steps p.tables e below (T8.setTop (mkF m 174 #[.val (.long j0), .second, .val (.int i2), .val (.ref a3), .val (.int i4), .val (.int i5), .val (.int u0), .unset] [(.int (1 : Int32)), (.int i5)])) _
            refine XS.iadd X8.here hx rfl (hb hby at_174) rfl ?_
            show Steps p.tables e below (T8.setTop (mkF m 175 #[.val (.long j0), .second, .val (.int i2), .val (.ref a3), .val (.int i4), .val (.int i5), .val (.int u0), .unset] [(.int (i5 + (1 : Int32)))])) _
            refine XS.goto X8.here hx rfl (pc0 := 175) (pc' := 180) rfl (hb hby at_175) (by decide) (by decide) ?_
            exact kt
          have hI15 : 20 ≤ n_a3.toInt ∧ n_a3.toInt ≤ 27 ∧ i4 = n_a3 ∧ 0 ≤ i5.toInt ∧ i5.toInt < n_a3.toInt ∧ 0 ≤ (i5 + (1 : Int32)).toInt := by first | exact own_iv1 hI | exact own_iv2 hI
          obtain ⟨T15, L15, k15, n15, X15, N15, hk15', hn15, st15⟩ := own_b0_180 hx hZ hw hby hml hown hret j0 i2 a3 i4 i5 u0 (i5 + (1 : Int32)) n_a3 A_a3 X8 e8 N0 Z0 g_a3 V_a3 hI15
          have hv : (own_f0_54 j0 i2 i4 i5 u0 n_a3 A_a3) = (own_f0_180 j0 i2 i4 i5 u0 (i5 + (1 : Int32)) n_a3 A_a3) := by unfold own_f0_54; rw [if_neg hc61, if_pos hc134, if_neg hc142, if_pos hc168]
          exact ⟨T15, L15, k15, n15, X15, N15, hk15', hn15, fun fs hr => pre14 _ (st15 fs (by rw [hv] at hr; exact hr))⟩
        · have pre16 : ∀ target, Steps p.tables e below (T8.setTop (mkF m 180 #[.val (.long j0), .second, .val (.int i2), .val (.ref a3), .val (.int i4), .val (.int i5), .val (.int u0), .unset] [(.int i5)])) target → Steps p.tables e below (T0.setTop (mkF m 54 #[.val (.long j0), .second, .val (.int i2), .val (.ref a3), .val (.int i4), .val (.int i5), .unset, .unset] [(.int u0)])) target := by
            intro target kt
            refine pre13 target ?_
            show Steps p.tables e below (T8.setTop (mkF m 168 #[.val (.long j0), .second, .val (.int i2), .val (.ref a3), .val (.int i4), .val (.int i5), .val (.int u0), .unset] [(.int (lcmpW j0 (0 : Int64)))])) _
            refine XS.ifYes X8.here hx rfl (pc0 := 168) (pc' := 178) rfl (hb hby at_168) rfl ((if0 _ _).trans (flt (mt (lw_lt _ _).mp hc168)).2.1) (by decide) (by decide) ?_
            show Steps p.tables e below (T8.setTop (mkF m 178 #[.val (.long j0), .second, .val (.int i2), .val (.ref a3), .val (.int i4), .val (.int i5), .val (.int u0), .unset] [])) _
            refine XS.iload X8.here hx rfl (hb hby at_178) rfl ?_
            exact kt
          have hI17 : 20 ≤ n_a3.toInt ∧ n_a3.toInt ≤ 27 ∧ i4 = n_a3 ∧ 0 ≤ i5.toInt ∧ i5.toInt < n_a3.toInt ∧ 0 ≤ i5.toInt := by first | exact own_iv1 hI | exact own_iv2 hI
          obtain ⟨T17, L17, k17, n17, X17, N17, hk17', hn17, st17⟩ := own_b0_180 hx hZ hw hby hml hown hret j0 i2 a3 i4 i5 u0 i5 n_a3 A_a3 X8 e8 N0 Z0 g_a3 V_a3 hI17
          have hv : (own_f0_54 j0 i2 i4 i5 u0 n_a3 A_a3) = (own_f0_180 j0 i2 i4 i5 u0 i5 n_a3 A_a3) := by unfold own_f0_54; rw [if_neg hc61, if_pos hc134, if_neg hc142, if_neg hc168]
          exact ⟨T17, L17, k17, n17, X17, N17, hk17', hn17, fun fs hr => pre16 _ (st17 fs (by rw [hv] at hr; exact hr))⟩
    · refine ⟨T8, _, _, _, X8, N0, (by decide), (by decide), fun fs hr => ?_⟩
      have hv : (own_f0_54 j0 i2 i4 i5 u0 n_a3 A_a3) = (0 : Int32) := by unfold own_f0_54; rw [if_neg hc61, if_neg hc134]
      rw [hv] at hr
      refine pre9 _ ?_
      show Steps p.tables e below (T8.setTop (mkF m 134 #[.val (.long j0), .second, .val (.int i2), .val (.ref a3), .val (.int i4), .val (.int i5), .val (.int u0), .unset] [(.int (lcmpW (own_f2_0 i5 i4 n_a3 A_a3) j0))])) _
      refine XS.ifNo X8.here hx rfl (hb hby at_134) rfl ((if0 _ _).trans (feq (mt (lw_eq _ _).mp hc134)).1) ?_
      show Steps p.tables e below (T8.setTop (mkF m 137 #[.val (.long j0), .second, .val (.int i2), .val (.ref a3), .val (.int i4), .val (.int i5), .val (.int u0), .unset] [])) _
      refine XS.iconst X8.here hx rfl (hb hby at_137) ?_
      show Steps p.tables e below (T8.setTop (mkF m 138 #[.val (.long j0), .second, .val (.int i2), .val (.ref a3), .val (.int i4), .val (.int i5), .val (.int u0), .unset] [(.int (0 : Int32))])) _
      exact retN X8 hx (t := .boolean) hret (by simp) (hb hby at_138) hr
set_option maxRecDepth 65536 in
set_option maxHeartbeats 40000000 in
theorem own_b0_49 {p : Program} {l : Launch} {e : Env} {s : State} {m : MethodId} {args : Array Value} {below : List Frame} {meth : Method} {c : Code} {Z : State} {a0_ : Array Value} {n0 : Nat} (hx : p.tables.exec = Jvm.exec) (hZ : Z.Warmed39 s.vm) (hw : ∀ d ∈ tables_1, d.before a0_ Z = true) (hby : c.code = code) (hml : c.maxLocals = 8) (hown : s.vm.findClass "com/example/rollcalldb/rollcalldb/resp/DecimalFormatPinLaw" = some m.cls) (hret : meth.sig.returnType = some .boolean) {T0 : State} {locs : List Loc} {h0 : Heap} (j0 : Int64) (i2 : Int32) (a3 : Addr) (i4 : Int32) (i5 : Int32) (n_a3 : Int32) (A_a3 : Nat → Int32)
    (X0 : Stand p l e room_1 s m args below meth c T0 locs 1 27) (e0 : T0.heap = h0) (N0 : Fr n0 locs) (Z0 : n0 ≤ h0.size) (g_a3 : n0 ≤ a3) (V_a3 : own_Ar Z h0 a3 .byte n_a3 A_a3) (hI : 20 ≤ n_a3.toInt ∧ n_a3.toInt ≤ 27 ∧ i4 = n_a3 ∧ 0 ≤ i5.toInt ∧ i5.toInt < n_a3.toInt) :
    ∃ T' locs' cells' slots', Stand p l e room_1 s m args below meth c T' locs' cells' slots' ∧ Fr n0 locs' ∧ cells' ≤ room_1.cells ∧ slots' ≤ room_1.slots ∧ ∀ fs, (∀ (f : JFrame) (acts : List Action), f.method = m → f.locked = none → f.entered = [] → (doReturn e (T'.setTop f) acts (some (.int (own_f0_49 j0 i2 i4 i5 n_a3 A_a3)))).1 = T'.setFrames fs) → Steps p.tables e below (T0.setTop (mkF m 49 #[.val (.long j0), .second, .val (.int i2), .val (.ref a3), .val (.int i4), .val (.int i5), .unset, .unset] [])) (T'.setFrames fs) := by
  have pre1 : ∀ target, Steps p.tables e below (T0.setTop (mkF m 54 #[.val (.long j0), .second, .val (.int i2), .val (.ref a3), .val (.int i4), .val (.int i5), .unset, .unset] [(.int (1 : Int32))])) target → Steps p.tables e below (T0.setTop (mkF m 49 #[.val (.long j0), .second, .val (.int i2), .val (.ref a3), .val (.int i4), .val (.int i5), .unset, .unset] [])) target := by
    intro target kt
    show Steps p.tables e below (T0.setTop (mkF m 49 #[.val (.long j0), .second, .val (.int i2), .val (.ref a3), .val (.int i4), .val (.int i5), .unset, .unset] [])) _
    refine XS.iconst X0.here hx rfl (hb hby at_49) ?_
    show Steps p.tables e below (T0.setTop (mkF m 50 #[.val (.long j0), .second, .val (.int i2), .val (.ref a3), .val (.int i4), .val (.int i5), .unset, .unset] [(.int (1 : Int32))])) _
    refine XS.goto X0.here hx rfl (pc0 := 50) (pc' := 54) rfl (hb hby at_50) (by decide) (by decide) ?_
    exact kt
  have hI2 : 20 ≤ n_a3.toInt ∧ n_a3.toInt ≤ 27 ∧ i4 = n_a3 ∧ 0 ≤ i5.toInt ∧ i5.toInt < n_a3.toInt := by exact hI
  obtain ⟨T2, L2, k2, n2, X2, N2, hk2', hn2, st2⟩ := own_b0_54 hx hZ hw hby hml hown hret j0 i2 a3 i4 i5 (1 : Int32) n_a3 A_a3 X0 e0 N0 Z0 g_a3 V_a3 hI2
  have hv : (own_f0_49 j0 i2 i4 i5 n_a3 A_a3) = (own_f0_54 j0 i2 i4 i5 (1 : Int32) n_a3 A_a3) := by unfold own_f0_49; rfl
  exact ⟨T2, L2, k2, n2, X2, N2, hk2', hn2, fun fs hr => pre1 _ (st2 fs (by rw [hv] at hr; exact hr))⟩
set_option maxRecDepth 65536 in
set_option maxHeartbeats 40000000 in
theorem own_b0_0 {p : Program} {l : Launch} {e : Env} {s : State} {m : MethodId} {args : Array Value} {below : List Frame} {meth : Method} {c : Code} {Z : State} {a0_ : Array Value} {n0 : Nat} (hx : p.tables.exec = Jvm.exec) (hZ : Z.Warmed39 s.vm) (hw : ∀ d ∈ tables_1, d.before a0_ Z = true) (hby : c.code = code) (hml : c.maxLocals = 8) (hown : s.vm.findClass "com/example/rollcalldb/rollcalldb/resp/DecimalFormatPinLaw" = some m.cls) (hret : meth.sig.returnType = some .boolean) {T0 : State} {locs : List Loc} {h0 : Heap} (j0 : Int64) (i2 : Int32)
    (X0 : Stand p l e room_1 s m args below meth c T0 locs 0 0) (e0 : T0.heap = h0) (N0 : Fr n0 locs) (Z0 : n0 ≤ h0.size)  :
    ∃ T' locs' cells' slots', Stand p l e room_1 s m args below meth c T' locs' cells' slots' ∧ Fr n0 locs' ∧ cells' ≤ room_1.cells ∧ slots' ≤ room_1.slots ∧ ∀ fs, (∀ (f : JFrame) (acts : List Action), f.method = m → f.locked = none → f.entered = [] → (doReturn e (T'.setTop f) acts (some (.int (own_f0_0 j0 i2)))).1 = T'.setFrames fs) → Steps p.tables e below (T0.setTop (mkF m 0 #[.val (.long j0), .second, .val (.int i2), .unset, .unset, .unset, .unset, .unset] [])) (T'.setFrames fs) := by
  have hcap7 : ¬ ((20 : Int32) + (i2 &&& (7 : Int32))) < 0 ∧ ((20 : Int32) + (i2 &&& (7 : Int32))).toNatClampNeg ≤ 27 := by exact own_cap _
  obtain ⟨T1, h1, k1, X1, e1, E1, A1, st1⟩ := newP X0 hx hZ (hw _ (List.mem_of_getElem? (i := 0) rfl)) e0 (g := (mkF m 7 #[.val (.long j0), .second, .val (.int i2), .unset, .unset, .unset, .unset, .unset] [(.int ((20 : Int32) + (i2 &&& (7 : Int32))))])) rfl (hb hby at_7) rfl hcap7.1 (cap := 27) hcap7.2 (by decide) (by decide) (by decide)
  obtain ⟨b1, g1⟩ : ∃ z, z = h0.size := ⟨_, rfl⟩
  rw [← g1] at A1 st1
  have g_b1 : n0 ≤ b1 := Nat.le_trans Z0 (Nat.le_of_eq g1.symm)
  have Z1 : n0 ≤ h1.size := Nat.le_trans Z0 E1.1
  have V_b1 : own_Ar Z h1 b1 .byte ((20 : Int32) + (i2 &&& (7 : Int32))) (fun _ => 0) := own_Ar.new A1 hcap7.1 rfl
  have hJ2 : 20 ≤ ((20 : Int32) + (i2 &&& (7 : Int32))).toInt := by exact (own_len _).1
  obtain ⟨_, _, ⟨T2, L2, k2, n2⟩, -, X2, ⟨Lc2, hQ2, l2, y2, z2⟩, st2⟩ := Jvm.LawKit.callS X1 hx (y := (⟨"com/example/rollcalldb/rollcalldb/resp/Decimal", "format", "(J[B)I"⟩ : MethodName)) hown (mvT hZ (hw _ (List.mem_of_getElem? (i := 1) rfl))) (mvT hZ (hw _ (List.mem_of_getElem? (i := 2) rfl))) (mvT hZ (hw _ (List.mem_of_getElem? (i := 3) rfl))) (mvT hZ (hw _ (List.mem_of_getElem? (i := 4) rfl))) (by decide) (backOf (W := 0) (rm1 l Z a0_ hw [] j0 b1 ((20 : Int32) + (i2 &&& (7 : Int32))) (fun _ => 0) h1 n0 Z1 g_b1 V_b1 hJ2) hZ (hw _ (List.mem_of_getElem? (i := 4) rfl)) (hw _ (List.mem_of_getElem? (i := 3) rfl)) (by decide) (by decide)) (g := (mkF m 16 #[.val (.long j0), .second, .val (.int i2), .val (.ref b1), .val (.int ((20 : Int32) + (i2 &&& (7 : Int32)))), .unset, .unset, .unset] [(.ref b1), (.long j0)])) rfl (by rw [hml]; rfl) (argsL := [(.long j0), (.ref b1)]) (rest := []) (lenOf pd_0_0 rfl) rfl (by show 2 * 0 + _ ≤ _; exact Nat.le_of_eq rfl) (hb hby at_16) (fun _ _ => ⟨rfl, e1, (by decide : 1 + 0 ≤ room_1.cells), (by decide : 27 + 0 ≤ room_1.slots)⟩)
  dsimp only [Pt.U, Pt.locs, Pt.cells, Pt.slots] at X2 l2 y2 z2 st2 hQ2
  subst l2 y2 z2
  obtain ⟨rfl, Nq2, Kq2, Gq2_A⟩ := hQ2
  have N2 := Fr.app N0 Nq2
  have Z2 : n0 ≤ T2.heap.size := Nat.le_trans Z1 Kq2.1
  have V_b1_k2 := Gq2_A
  have pre3 : ∀ target, Steps p.tables e below (T2.setTop (mkF m 23 #[.val (.long j0), .second, .val (.int i2), .val (.ref b1), .val (.int ((20 : Int32) + (i2 &&& (7 : Int32)))), .val (.int (own_f1_0 j0 ((20 : Int32) + (i2 &&& (7 : Int32))) (fun _ => 0))), .unset, .unset] [(.int (own_f1_0 j0 ((20 : Int32) + (i2 &&& (7 : Int32))) (fun _ => 0)))])) target → Steps p.tables e below (T0.setTop (mkF m 0 #[.val (.long j0), .second, .val (.int i2), .unset, .unset, .unset, .unset, .unset] [])) target := by
    intro target kt
    show Steps p.tables e below (T0.setTop (mkF m 0 #[.val (.long j0), .second, .val (.int i2), .unset, .unset, .unset, .unset, .unset] [])) _
    refine XS.bipush X0.here hx rfl (hb hby at_0) ?_
    show Steps p.tables e below (T0.setTop (mkF m 2 #[.val (.long j0), .second, .val (.int i2), .unset, .unset, .unset, .unset, .unset] [(.int (20 : Int32))])) _
    refine XS.iloadN X0.here hx rfl (hb hby at_2) rfl ?_
    show Steps p.tables e below (T0.setTop (mkF m 3 #[.val (.long j0), .second, .val (.int i2), .unset, .unset, .unset, .unset, .unset] [(.int i2), (.int (20 : Int32))])) _
    refine XS.bipush X0.here hx rfl (hb hby at_3) ?_
    show Steps p.tables e below (T0.setTop (mkF m 5 #[.val (.long j0), .second, .val (.int i2), .unset, .unset, .unset, .unset, .unset] [(.int (7 : Int32)), (.int i2), (.int (20 : Int32))])) _
    refine XS.iand X0.here hx rfl (hb hby at_5) rfl ?_
    show Steps p.tables e below (T0.setTop (mkF m 6 #[.val (.long j0), .second, .val (.int i2), .unset, .unset, .unset, .unset, .unset] [(.int (i2 &&& (7 : Int32))), (.int (20 : Int32))])) _
    refine XS.iadd X0.here hx rfl (hb hby at_6) rfl ?_
    show Steps p.tables e below (T0.setTop (mkF m 7 #[.val (.long j0), .second, .val (.int i2), .unset, .unset, .unset, .unset, .unset] [(.int ((20 : Int32) + (i2 &&& (7 : Int32))))])) _
    refine st1 _ ?_
    show Steps p.tables e below (T1.setTop (mkF m 9 #[.val (.long j0), .second, .val (.int i2), .unset, .unset, .unset, .unset, .unset] [(.ref b1)])) _
    refine XS.astoreN X1.here hx rfl (hb hby at_9) rfl rfl (l' := #[.val (.long j0), .second, .val (.int i2), .val (.ref b1), .unset, .unset, .unset, .unset]) rfl ?_
    show Steps p.tables e below (T1.setTop (mkF m 10 #[.val (.long j0), .second, .val (.int i2), .val (.ref b1), .unset, .unset, .unset, .unset] [])) _
    refine XS.aloadN X1.here hx rfl (hb hby at_10) rfl rfl ?_
    show Steps p.tables e below (T1.setTop (mkF m 11 #[.val (.long j0), .second, .val (.int i2), .val (.ref b1), .unset, .unset, .unset, .unset] [(.ref b1)])) _
    refine own_alen X1 hx hZ e1 V_b1 (g := (mkF m 11 #[.val (.long j0), .second, .val (.int i2), .val (.ref b1), .unset, .unset, .unset, .unset] [(.ref b1)])) rfl rfl (hb hby at_11) _ ?_
    show Steps p.tables e below (T1.setTop (mkF m 12 #[.val (.long j0), .second, .val (.int i2), .val (.ref b1), .unset, .unset, .unset, .unset] [(.int ((20 : Int32) + (i2 &&& (7 : Int32))))])) _
    refine XS.istore X1.here hx rfl (hb hby at_12) rfl (l' := #[.val (.long j0), .second, .val (.int i2), .val (.ref b1), .val (.int ((20 : Int32) + (i2 &&& (7 : Int32)))), .unset, .unset, .unset]) rfl ?_
    show Steps p.tables e below (T1.setTop (mkF m 14 #[.val (.long j0), .second, .val (.int i2), .val (.ref b1), .val (.int ((20 : Int32) + (i2 &&& (7 : Int32)))), .unset, .unset, .unset] [])) _
    refine XS.lloadN X1.here hx rfl (hb hby at_14) rfl ?_
    show Steps p.tables e below (T1.setTop (mkF m 15 #[.val (.long j0), .second, .val (.int i2), .val (.ref b1), .val (.int ((20 : Int32) + (i2 &&& (7 : Int32)))), .unset, .unset, .unset] [(.long j0)])) _
    refine XS.aloadN X1.here hx rfl (hb hby at_15) rfl rfl ?_
    show Steps p.tables e below (T1.setTop (mkF m 16 #[.val (.long j0), .second, .val (.int i2), .val (.ref b1), .val (.int ((20 : Int32) + (i2 &&& (7 : Int32)))), .unset, .unset, .unset] [(.ref b1), (.long j0)])) _
    refine st2 _ ?_
    show Steps p.tables e below (T2.setTop (mkF m 19 #[.val (.long j0), .second, .val (.int i2), .val (.ref b1), .val (.int ((20 : Int32) + (i2 &&& (7 : Int32)))), .unset, .unset, .unset] [(.int (own_f1_0 j0 ((20 : Int32) + (i2 &&& (7 : Int32))) (fun _ => 0)))])) _
    refine XS.istore X2.here hx rfl (hb hby at_19) rfl (l' := #[.val (.long j0), .second, .val (.int i2), .val (.ref b1), .val (.int ((20 : Int32) + (i2 &&& (7 : Int32)))), .val (.int (own_f1_0 j0 ((20 : Int32) + (i2 &&& (7 : Int32))) (fun _ => 0))), .unset, .unset]) rfl ?_
    show Steps p.tables e below (T2.setTop (mkF m 21 #[.val (.long j0), .second, .val (.int i2), .val (.ref b1), .val (.int ((20 : Int32) + (i2 &&& (7 : Int32)))), .val (.int (own_f1_0 j0 ((20 : Int32) + (i2 &&& (7 : Int32))) (fun _ => 0))), .unset, .unset] [])) _
    refine XS.iload X2.here hx rfl (hb hby at_21) rfl ?_
    exact kt
  by_cases hc23 : (own_f1_0 j0 ((20 : Int32) + (i2 &&& (7 : Int32))) (fun _ => 0)) < (0 : Int32)
  · refine ⟨T2, _, _, _, X2, N2, (by decide), (by decide), fun fs hr => ?_⟩
    have hv : (own_f0_0 j0 i2) = (0 : Int32) := by unfold own_f0_0; rw [if_pos hc23]
    rw [hv] at hr
    refine pre3 _ ?_
    show Steps p.tables e below (T2.setTop (mkF m 23 #[.val (.long j0), .second, .val (.int i2), .val (.ref b1), .val (.int ((20 : Int32) + (i2 &&& (7 : Int32)))), .val (.int (own_f1_0 j0 ((20 : Int32) + (i2 &&& (7 : Int32))) (fun _ => 0))), .unset, .unset] [(.int (own_f1_0 j0 ((20 : Int32) + (i2 &&& (7 : Int32))) (fun _ => 0)))])) _
    refine XS.ifYes X2.here hx rfl (pc0 := 23) (pc' := 33) rfl (hb hby at_23) rfl ((if0 _ _).trans (tlt hc23).1) (by decide) (by decide) ?_
    show Steps p.tables e below (T2.setTop (mkF m 33 #[.val (.long j0), .second, .val (.int i2), .val (.ref b1), .val (.int ((20 : Int32) + (i2 &&& (7 : Int32)))), .val (.int (own_f1_0 j0 ((20 : Int32) + (i2 &&& (7 : Int32))) (fun _ => 0))), .unset, .unset] [])) _
    refine XS.iconst X2.here hx rfl (hb hby at_33) ?_
    show Steps p.tables e below (T2.setTop (mkF m 34 #[.val (.long j0), .second, .val (.int i2), .val (.ref b1), .val (.int ((20 : Int32) + (i2 &&& (7 : Int32)))), .val (.int (own_f1_0 j0 ((20 : Int32) + (i2 &&& (7 : Int32))) (fun _ => 0))), .unset, .unset] [(.int (0 : Int32))])) _
    exact retN X2 hx (t := .boolean) hret (by simp) (hb hby at_34) hr
  · have pre4 : ∀ target, Steps p.tables e below (T2.setTop (mkF m 30 #[.val (.long j0), .second, .val (.int i2), .val (.ref b1), .val (.int ((20 : Int32) + (i2 &&& (7 : Int32)))), .val (.int (own_f1_0 j0 ((20 : Int32) + (i2 &&& (7 : Int32))) (fun _ => 0))), .unset, .unset] [(.int ((20 : Int32) + (i2 &&& (7 : Int32)))), (.int (own_f1_0 j0 ((20 : Int32) + (i2 &&& (7 : Int32))) (fun _ => 0)))])) target → Steps p.tables e below (T0.setTop (mkF m 0 #[.val (.long j0), .second, .val (.int i2), .unset, .unset, .unset, .unset, .unset] [])) target := by
      intro target kt
      refine pre3 target ?_
      show Steps p.tables e below (T2.setTop (mkF m 23 #[.val (.long j0), .second, .val (.int i2), .val (.ref b1), .val (.int ((20 : Int32) + (i2 &&& (7 : Int32)))), .val (.int (own_f1_0 j0 ((20 : Int32) + (i2 &&& (7 : Int32))) (fun _ => 0))), .unset, .unset] [(.int (own_f1_0 j0 ((20 : Int32) + (i2 &&& (7 : Int32))) (fun _ => 0)))])) _
      refine XS.ifNo X2.here hx rfl (hb hby at_23) rfl ((if0 _ _).trans (flt hc23).1) ?_
      show Steps p.tables e below (T2.setTop (mkF m 26 #[.val (.long j0), .second, .val (.int i2), .val (.ref b1), .val (.int ((20 : Int32) + (i2 &&& (7 : Int32)))), .val (.int (own_f1_0 j0 ((20 : Int32) + (i2 &&& (7 : Int32))) (fun _ => 0))), .unset, .unset] [])) _
      refine XS.iload X2.here hx rfl (hb hby at_26) rfl ?_
      show Steps p.tables e below (T2.setTop (mkF m 28 #[.val (.long j0), .second, .val (.int i2), .val (.ref b1), .val (.int ((20 : Int32) + (i2 &&& (7 : Int32)))), .val (.int (own_f1_0 j0 ((20 : Int32) + (i2 &&& (7 : Int32))) (fun _ => 0))), .unset, .unset] [(.int (own_f1_0 j0 ((20 : Int32) + (i2 &&& (7 : Int32))) (fun _ => 0)))])) _
      refine XS.iload X2.here hx rfl (hb hby at_28) rfl ?_
      exact kt
    by_cases hc30 : (own_f1_0 j0 ((20 : Int32) + (i2 &&& (7 : Int32))) (fun _ => 0)) < ((20 : Int32) + (i2 &&& (7 : Int32)))
    · have pre5 : ∀ target, Steps p.tables e below (T2.setTop (mkF m 37 #[.val (.long j0), .second, .val (.int i2), .val (.ref b1), .val (.int ((20 : Int32) + (i2 &&& (7 : Int32)))), .val (.int (own_f1_0 j0 ((20 : Int32) + (i2 &&& (7 : Int32))) (fun _ => 0))), .unset, .unset] [(.int (own_f1_0 j0 ((20 : Int32) + (i2 &&& (7 : Int32))) (fun _ => 0)))])) target → Steps p.tables e below (T0.setTop (mkF m 0 #[.val (.long j0), .second, .val (.int i2), .unset, .unset, .unset, .unset, .unset] [])) target := by
        intro target kt
        refine pre4 target ?_
        show Steps p.tables e below (T2.setTop (mkF m 30 #[.val (.long j0), .second, .val (.int i2), .val (.ref b1), .val (.int ((20 : Int32) + (i2 &&& (7 : Int32)))), .val (.int (own_f1_0 j0 ((20 : Int32) + (i2 &&& (7 : Int32))) (fun _ => 0))), .unset, .unset] [(.int ((20 : Int32) + (i2 &&& (7 : Int32)))), (.int (own_f1_0 j0 ((20 : Int32) + (i2 &&& (7 : Int32))) (fun _ => 0)))])) _
        refine XS.icmpYes X2.here hx rfl (pc0 := 30) (pc' := 35) rfl (hb hby at_30) rfl (tlt hc30).1 (by decide) (by decide) ?_
        show Steps p.tables e below (T2.setTop (mkF m 35 #[.val (.long j0), .second, .val (.int i2), .val (.ref b1), .val (.int ((20 : Int32) + (i2 &&& (7 : Int32)))), .val (.int (own_f1_0 j0 ((20 : Int32) + (i2 &&& (7 : Int32))) (fun _ => 0))), .unset, .unset] [])) _
        refine XS.iload X2.here hx rfl (hb hby at_35) rfl ?_
        exact kt
      by_cases hc37 : (own_f1_0 j0 ((20 : Int32) + (i2 &&& (7 : Int32))) (fun _ => 0)) = (0 : Int32)
      · have pre6 : ∀ target, Steps p.tables e below (T2.setTop (mkF m 49 #[.val (.long j0), .second, .val (.int i2), .val (.ref b1), .val (.int ((20 : Int32) + (i2 &&& (7 : Int32)))), .val (.int (own_f1_0 j0 ((20 : Int32) + (i2 &&& (7 : Int32))) (fun _ => 0))), .unset, .unset] [])) target → Steps p.tables e below (T0.setTop (mkF m 0 #[.val (.long j0), .second, .val (.int i2), .unset, .unset, .unset, .unset, .unset] [])) target := by
          intro target kt
          refine pre5 target ?_
          show Steps p.tables e below (T2.setTop (mkF m 37 #[.val (.long j0), .second, .val (.int i2), .val (.ref b1), .val (.int ((20 : Int32) + (i2 &&& (7 : Int32)))), .val (.int (own_f1_0 j0 ((20 : Int32) + (i2 &&& (7 : Int32))) (fun _ => 0))), .unset, .unset] [(.int (own_f1_0 j0 ((20 : Int32) + (i2 &&& (7 : Int32))) (fun _ => 0)))])) _
          refine XS.ifYes X2.here hx rfl (pc0 := 37) (pc' := 49) rfl (hb hby at_37) rfl ((if0 _ _).trans (teq hc37).1) (by decide) (by decide) ?_
          exact kt
        have hI7 : 20 ≤ ((20 : Int32) + (i2 &&& (7 : Int32))).toInt ∧ ((20 : Int32) + (i2 &&& (7 : Int32))).toInt ≤ 27 ∧ ((20 : Int32) + (i2 &&& (7 : Int32))) = ((20 : Int32) + (i2 &&& (7 : Int32))) ∧ 0 ≤ (own_f1_0 j0 ((20 : Int32) + (i2 &&& (7 : Int32))) (fun _ => 0)).toInt ∧ (own_f1_0 j0 ((20 : Int32) + (i2 &&& (7 : Int32))) (fun _ => 0)).toInt < ((20 : Int32) + (i2 &&& (7 : Int32))).toInt := by exact own_iv0 _ _ hc23 hc30
        obtain ⟨T7, L7, k7, n7, X7, N7, hk7', hn7, st7⟩ := own_b0_49 hx hZ hw hby hml hown hret j0 i2 b1 ((20 : Int32) + (i2 &&& (7 : Int32))) (own_f1_0 j0 ((20 : Int32) + (i2 &&& (7 : Int32))) (fun _ => 0)) ((20 : Int32) + (i2 &&& (7 : Int32))) (own_o1_A j0 ((20 : Int32) + (i2 &&& (7 : Int32))) (fun _ => 0)) X2 rfl N2 Z2 g_b1 V_b1_k2 hI7
        have hv : (own_f0_0 j0 i2) = (own_f0_49 j0 i2 ((20 : Int32) + (i2 &&& (7 : Int32))) (own_f1_0 j0 ((20 : Int32) + (i2 &&& (7 : Int32))) (fun _ => 0)) ((20 : Int32) + (i2 &&& (7 : Int32))) (own_o1_A j0 ((20 : Int32) + (i2 &&& (7 : Int32))) (fun _ => 0))) := by unfold own_f0_0; rw [if_neg hc23, if_pos hc30, if_pos hc37]
        exact ⟨T7, L7, k7, n7, X7, N7, hk7', hn7, fun fs hr => pre6 _ (st7 fs (by rw [hv] at hr; exact hr))⟩
      · have hix45 : ¬ ((own_f1_0 j0 ((20 : Int32) + (i2 &&& (7 : Int32))) (fun _ => 0)) - (1 : Int32)) < 0 ∧ ((own_f1_0 j0 ((20 : Int32) + (i2 &&& (7 : Int32))) (fun _ => 0)) - (1 : Int32)) < ((20 : Int32) + (i2 &&& (7 : Int32))) := by exact own_ixa _ _ hc23 hc30 hc37
        have pre8 : ∀ target, Steps p.tables e below (T2.setTop (mkF m 46 #[.val (.long j0), .second, .val (.int i2), .val (.ref b1), .val (.int ((20 : Int32) + (i2 &&& (7 : Int32)))), .val (.int (own_f1_0 j0 ((20 : Int32) + (i2 &&& (7 : Int32))) (fun _ => 0))), .unset, .unset] [(.int ((own_o1_A j0 ((20 : Int32) + (i2 &&& (7 : Int32))) (fun _ => 0)) ((own_f1_0 j0 ((20 : Int32) + (i2 &&& (7 : Int32))) (fun _ => 0)) - (1 : Int32)).toNatClampNeg))])) target → Steps p.tables e below (T0.setTop (mkF m 0 #[.val (.long j0), .second, .val (.int i2), .unset, .unset, .unset, .unset, .unset] [])) target := by
          intro target kt
          refine pre5 target ?_
          show Steps p.tables e below (T2.setTop (mkF m 37 #[.val (.long j0), .second, .val (.int i2), .val (.ref b1), .val (.int ((20 : Int32) + (i2 &&& (7 : Int32)))), .val (.int (own_f1_0 j0 ((20 : Int32) + (i2 &&& (7 : Int32))) (fun _ => 0))), .unset, .unset] [(.int (own_f1_0 j0 ((20 : Int32) + (i2 &&& (7 : Int32))) (fun _ => 0)))])) _
          refine XS.ifNo X2.here hx rfl (hb hby at_37) rfl ((if0 _ _).trans (feq hc37).1) ?_
          show Steps p.tables e below (T2.setTop (mkF m 40 #[.val (.long j0), .second, .val (.int i2), .val (.ref b1), .val (.int ((20 : Int32) + (i2 &&& (7 : Int32)))), .val (.int (own_f1_0 j0 ((20 : Int32) + (i2 &&& (7 : Int32))) (fun _ => 0))), .unset, .unset] [])) _
          refine XS.aloadN X2.here hx rfl (hb hby at_40) rfl rfl ?_
          show Steps p.tables e below (T2.setTop (mkF m 41 #[.val (.long j0), .second, .val (.int i2), .val (.ref b1), .val (.int ((20 : Int32) + (i2 &&& (7 : Int32)))), .val (.int (own_f1_0 j0 ((20 : Int32) + (i2 &&& (7 : Int32))) (fun _ => 0))), .unset, .unset] [(.ref b1)])) _
          refine XS.iload X2.here hx rfl (hb hby at_41) rfl ?_
          show Steps p.tables e below (T2.setTop (mkF m 43 #[.val (.long j0), .second, .val (.int i2), .val (.ref b1), .val (.int ((20 : Int32) + (i2 &&& (7 : Int32)))), .val (.int (own_f1_0 j0 ((20 : Int32) + (i2 &&& (7 : Int32))) (fun _ => 0))), .unset, .unset] [(.int (own_f1_0 j0 ((20 : Int32) + (i2 &&& (7 : Int32))) (fun _ => 0))), (.ref b1)])) _
          refine XS.iconst X2.here hx rfl (hb hby at_43) ?_
          show Steps p.tables e below (T2.setTop (mkF m 44 #[.val (.long j0), .second, .val (.int i2), .val (.ref b1), .val (.int ((20 : Int32) + (i2 &&& (7 : Int32)))), .val (.int (own_f1_0 j0 ((20 : Int32) + (i2 &&& (7 : Int32))) (fun _ => 0))), .unset, .unset] [(.int (1 : Int32)), (.int (own_f1_0 j0 ((20 : Int32) + (i2 &&& (7 : Int32))) (fun _ => 0))), (.ref b1)])) _
          refine XS.isub X2.here hx rfl (hb hby at_44) rfl ?_
          show Steps p.tables e below (T2.setTop (mkF m 45 #[.val (.long j0), .second, .val (.int i2), .val (.ref b1), .val (.int ((20 : Int32) + (i2 &&& (7 : Int32)))), .val (.int (own_f1_0 j0 ((20 : Int32) + (i2 &&& (7 : Int32))) (fun _ => 0))), .unset, .unset] [(.int ((own_f1_0 j0 ((20 : Int32) + (i2 &&& (7 : Int32))) (fun _ => 0)) - (1 : Int32))), (.ref b1)])) _
          refine own_ldB X2 hx hZ rfl V_b1_k2 hix45 (g := (mkF m 45 #[.val (.long j0), .second, .val (.int i2), .val (.ref b1), .val (.int ((20 : Int32) + (i2 &&& (7 : Int32)))), .val (.int (own_f1_0 j0 ((20 : Int32) + (i2 &&& (7 : Int32))) (fun _ => 0))), .unset, .unset] [(.int ((own_f1_0 j0 ((20 : Int32) + (i2 &&& (7 : Int32))) (fun _ => 0)) - (1 : Int32))), (.ref b1)])) rfl rfl (hb hby at_45) _ ?_
          exact kt
        by_cases hc46 : ((own_o1_A j0 ((20 : Int32) + (i2 &&& (7 : Int32))) (fun _ => 0)) ((own_f1_0 j0 ((20 : Int32) + (i2 &&& (7 : Int32))) (fun _ => 0)) - (1 : Int32)).toNatClampNeg) = (0 : Int32)
        · have pre9 : ∀ target, Steps p.tables e below (T2.setTop (mkF m 49 #[.val (.long j0), .second, .val (.int i2), .val (.ref b1), .val (.int ((20 : Int32) + (i2 &&& (7 : Int32)))), .val (.int (own_f1_0 j0 ((20 : Int32) + (i2 &&& (7 : Int32))) (fun _ => 0))), .unset, .unset] [])) target → Steps p.tables e below (T0.setTop (mkF m 0 #[.val (.long j0), .second, .val (.int i2), .unset, .unset, .unset, .unset, .unset] [])) target := by
            intro target kt
            refine pre8 target ?_
            show Steps p.tables e below (T2.setTop (mkF m 46 #[.val (.long j0), .second, .val (.int i2), .val (.ref b1), .val (.int ((20 : Int32) + (i2 &&& (7 : Int32)))), .val (.int (own_f1_0 j0 ((20 : Int32) + (i2 &&& (7 : Int32))) (fun _ => 0))), .unset, .unset] [(.int ((own_o1_A j0 ((20 : Int32) + (i2 &&& (7 : Int32))) (fun _ => 0)) ((own_f1_0 j0 ((20 : Int32) + (i2 &&& (7 : Int32))) (fun _ => 0)) - (1 : Int32)).toNatClampNeg))])) _
            refine XS.ifNo X2.here hx rfl (hb hby at_46) rfl ((if0 _ _).trans (teq hc46).2) ?_
            exact kt
          have hI10 : 20 ≤ ((20 : Int32) + (i2 &&& (7 : Int32))).toInt ∧ ((20 : Int32) + (i2 &&& (7 : Int32))).toInt ≤ 27 ∧ ((20 : Int32) + (i2 &&& (7 : Int32))) = ((20 : Int32) + (i2 &&& (7 : Int32))) ∧ 0 ≤ (own_f1_0 j0 ((20 : Int32) + (i2 &&& (7 : Int32))) (fun _ => 0)).toInt ∧ (own_f1_0 j0 ((20 : Int32) + (i2 &&& (7 : Int32))) (fun _ => 0)).toInt < ((20 : Int32) + (i2 &&& (7 : Int32))).toInt := by exact own_iv0 _ _ hc23 hc30
          obtain ⟨T10, L10, k10, n10, X10, N10, hk10', hn10, st10⟩ := own_b0_49 hx hZ hw hby hml hown hret j0 i2 b1 ((20 : Int32) + (i2 &&& (7 : Int32))) (own_f1_0 j0 ((20 : Int32) + (i2 &&& (7 : Int32))) (fun _ => 0)) ((20 : Int32) + (i2 &&& (7 : Int32))) (own_o1_A j0 ((20 : Int32) + (i2 &&& (7 : Int32))) (fun _ => 0)) X2 rfl N2 Z2 g_b1 V_b1_k2 hI10
          have hv : (own_f0_0 j0 i2) = (own_f0_49 j0 i2 ((20 : Int32) + (i2 &&& (7 : Int32))) (own_f1_0 j0 ((20 : Int32) + (i2 &&& (7 : Int32))) (fun _ => 0)) ((20 : Int32) + (i2 &&& (7 : Int32))) (own_o1_A j0 ((20 : Int32) + (i2 &&& (7 : Int32))) (fun _ => 0))) := by unfold own_f0_0; rw [if_neg hc23, if_pos hc30, if_neg hc37, if_pos hc46]
          exact ⟨T10, L10, k10, n10, X10, N10, hk10', hn10, fun fs hr => pre9 _ (st10 fs (by rw [hv] at hr; exact hr))⟩
        · have pre11 : ∀ target, Steps p.tables e below (T2.setTop (mkF m 54 #[.val (.long j0), .second, .val (.int i2), .val (.ref b1), .val (.int ((20 : Int32) + (i2 &&& (7 : Int32)))), .val (.int (own_f1_0 j0 ((20 : Int32) + (i2 &&& (7 : Int32))) (fun _ => 0))), .unset, .unset] [(.int (0 : Int32))])) target → Steps p.tables e below (T0.setTop (mkF m 0 #[.val (.long j0), .second, .val (.int i2), .unset, .unset, .unset, .unset, .unset] [])) target := by
            intro target kt
            refine pre8 target ?_
            show Steps p.tables e below (T2.setTop (mkF m 46 #[.val (.long j0), .second, .val (.int i2), .val (.ref b1), .val (.int ((20 : Int32) + (i2 &&& (7 : Int32)))), .val (.int (own_f1_0 j0 ((20 : Int32) + (i2 &&& (7 : Int32))) (fun _ => 0))), .unset, .unset] [(.int ((own_o1_A j0 ((20 : Int32) + (i2 &&& (7 : Int32))) (fun _ => 0)) ((own_f1_0 j0 ((20 : Int32) + (i2 &&& (7 : Int32))) (fun _ => 0)) - (1 : Int32)).toNatClampNeg))])) _
            refine XS.ifYes X2.here hx rfl (pc0 := 46) (pc' := 53) rfl (hb hby at_46) rfl ((if0 _ _).trans (feq hc46).2) (by decide) (by decide) ?_
            show Steps p.tables e below (T2.setTop (mkF m 53 #[.val (.long j0), .second, .val (.int i2), .val (.ref b1), .val (.int ((20 : Int32) + (i2 &&& (7 : Int32)))), .val (.int (own_f1_0 j0 ((20 : Int32) + (i2 &&& (7 : Int32))) (fun _ => 0))), .unset, .unset] [])) _
            refine XS.iconst X2.here hx rfl (hb hby at_53) ?_
            exact kt
          have hI12 : 20 ≤ ((20 : Int32) + (i2 &&& (7 : Int32))).toInt ∧ ((20 : Int32) + (i2 &&& (7 : Int32))).toInt ≤ 27 ∧ ((20 : Int32) + (i2 &&& (7 : Int32))) = ((20 : Int32) + (i2 &&& (7 : Int32))) ∧ 0 ≤ (own_f1_0 j0 ((20 : Int32) + (i2 &&& (7 : Int32))) (fun _ => 0)).toInt ∧ (own_f1_0 j0 ((20 : Int32) + (i2 &&& (7 : Int32))) (fun _ => 0)).toInt < ((20 : Int32) + (i2 &&& (7 : Int32))).toInt := by exact own_iv0 _ _ hc23 hc30
          obtain ⟨T12, L12, k12, n12, X12, N12, hk12', hn12, st12⟩ := own_b0_54 hx hZ hw hby hml hown hret j0 i2 b1 ((20 : Int32) + (i2 &&& (7 : Int32))) (own_f1_0 j0 ((20 : Int32) + (i2 &&& (7 : Int32))) (fun _ => 0)) (0 : Int32) ((20 : Int32) + (i2 &&& (7 : Int32))) (own_o1_A j0 ((20 : Int32) + (i2 &&& (7 : Int32))) (fun _ => 0)) X2 rfl N2 Z2 g_b1 V_b1_k2 hI12
          have hv : (own_f0_0 j0 i2) = (own_f0_54 j0 i2 ((20 : Int32) + (i2 &&& (7 : Int32))) (own_f1_0 j0 ((20 : Int32) + (i2 &&& (7 : Int32))) (fun _ => 0)) (0 : Int32) ((20 : Int32) + (i2 &&& (7 : Int32))) (own_o1_A j0 ((20 : Int32) + (i2 &&& (7 : Int32))) (fun _ => 0))) := by unfold own_f0_0; rw [if_neg hc23, if_pos hc30, if_neg hc37, if_neg hc46]
          exact ⟨T12, L12, k12, n12, X12, N12, hk12', hn12, fun fs hr => pre11 _ (st12 fs (by rw [hv] at hr; exact hr))⟩
    · refine ⟨T2, _, _, _, X2, N2, (by decide), (by decide), fun fs hr => ?_⟩
      have hv : (own_f0_0 j0 i2) = (0 : Int32) := by unfold own_f0_0; rw [if_neg hc23, if_neg hc30]
      rw [hv] at hr
      refine pre4 _ ?_
      show Steps p.tables e below (T2.setTop (mkF m 30 #[.val (.long j0), .second, .val (.int i2), .val (.ref b1), .val (.int ((20 : Int32) + (i2 &&& (7 : Int32)))), .val (.int (own_f1_0 j0 ((20 : Int32) + (i2 &&& (7 : Int32))) (fun _ => 0))), .unset, .unset] [(.int ((20 : Int32) + (i2 &&& (7 : Int32)))), (.int (own_f1_0 j0 ((20 : Int32) + (i2 &&& (7 : Int32))) (fun _ => 0)))])) _
      refine XS.icmpNo X2.here hx rfl (hb hby at_30) rfl (flt hc30).1 ?_
      show Steps p.tables e below (T2.setTop (mkF m 33 #[.val (.long j0), .second, .val (.int i2), .val (.ref b1), .val (.int ((20 : Int32) + (i2 &&& (7 : Int32)))), .val (.int (own_f1_0 j0 ((20 : Int32) + (i2 &&& (7 : Int32))) (fun _ => 0))), .unset, .unset] [])) _
      refine XS.iconst X2.here hx rfl (hb hby at_33) ?_
      show Steps p.tables e below (T2.setTop (mkF m 34 #[.val (.long j0), .second, .val (.int i2), .val (.ref b1), .val (.int ((20 : Int32) + (i2 &&& (7 : Int32)))), .val (.int (own_f1_0 j0 ((20 : Int32) + (i2 &&& (7 : Int32))) (fun _ => 0))), .unset, .unset] [(.int (0 : Int32))])) _
      exact retN X2 hx (t := .boolean) hret (by simp) (hb hby at_34) hr
def Q0 (Z : State) (j0 : Int64) (i2 : Int32) (h0 : Heap) (n0 : Nat) (v : Option Value) (h : Heap) (L : List Loc) : Prop := v = some (.int (own_f0_0 j0 i2)) ∧ Fr n0 L
set_option maxRecDepth 65536 in
set_option maxHeartbeats 40000000 in
theorem rm0 (l : Launch) (Z : State) (a0_ : Array Value) (hw : ∀ d ∈ tables_1, d.before a0_ Z = true) (ws : List Jvm.Cond) (j0 : Int64) (i2 : Int32) (h0 : Heap) (n0 : Nat) (Z0 : n0 ≤ h0.size)  :
    MetFree l x (head1 (Jvm.Cond.code x code maxLocals ret :: ws) room_1) (fun a U => a = #[(.long j0), (.int i2)] ∧ Z.Warmed39 U.vm ∧ U.heap = h0) (fun _ _ _ _ _ => True) (fun _ U o U' => ∃ v L, o = .returned v ∧ Q0 Z j0 i2 h0 n0 v U'.heap L ∧ FrameEnd U o U' L room_1.cells room_1.slots) := by
  refine MetFree.of_bodySF (plainFor_of_name pn_0) hisR ?_
  intro p e s m args below meth c s₁ Bd hml0 hP hK
  obtain ⟨rfl, hZ, hh⟩ := hP
  have hx := Bd.exec
  have hby := Bd.bytes
  have hml : c.maxLocals = 8 := hml0
  have hown : s.vm.findClass "com/example/rollcalldb/rollcalldb/resp/DecimalFormatPinLaw" = some m.cls := findClass_of_methodNamed Bd.named
  have X0 : Stand p l e room_1 s m #[(.long j0), (.int i2)] below meth c s₁ [] 0 0 := Stand.of_body Bd
  have e0 : s₁.heap = h0 := by rw [← hh, Bd.state]; rfl
  obtain ⟨T', L', k', n', X', N', hk', hn', st'⟩ := own_b0_0 hx hZ hw hby hml hown Bd.returns  j0 i2 X0 e0 (Fr.nil n0) Z0 
  obtain ⟨fs, hr, hrun, hended, hW, hsame⟩ := X'.leave (v := some (.int (own_f0_0 j0 i2))) (fun h => by rw [Bd.returns] at h; cases h)
  refine ⟨_, _, castTop (ef_0 m j0 i2) (st' fs hr), hrun, hended, _, _, rfl, ?_, ⟨_, rfl⟩, hW, hsame.mono hk' hn'⟩
  exact ⟨rfl, N'⟩
/-- the number that k digits from place i spell, behind v -/
def own_h (A : Nat → Int32) : Nat → Nat → Nat → Nat
  | _, 0, v => v
  | i, k + 1, v => own_h A (i + 1) k (v * 10 + ((A i).toInt - 48).toNat)
theorem own_h0 (A : Nat → Int32) (i v : Nat) : own_h A i 0 v = v := by unfold own_h; rfl
theorem own_hs (A : Nat → Int32) (i k v : Nat) : own_h A i (k + 1) v = own_h A (i + 1) k (v * 10 + ((A i).toInt - 48).toNat) := by rw [own_h]
def own_ok (A : Nat → Int32) (i k : Nat) : Prop := ∀ j, i ≤ j → j < i + k → 48 ≤ (A j).toInt ∧ (A j).toInt ≤ 57
theorem own_h_mul (A : Nat → Int32) : ∀ k i v, v * 10 ^ k ≤ own_h A i k v := by
  intro k
  induction k with
  | zero => intro i v; rw [own_h0]; omega
  | succ k ih =>
    intro i v
    rw [own_hs]
    refine Nat.le_trans ?_ (ih (i + 1) (v * 10 + ((A i).toInt - 48).toNat))
    rw [Nat.pow_succ, Nat.mul_comm (10 ^ k) 10, ← Nat.mul_assoc]
    exact Nat.mul_le_mul_right _ (Nat.le_add_right _ _)
theorem own_h_ge (A : Nat → Int32) (k i v : Nat) : v ≤ own_h A i k v := by
  refine Nat.le_trans ?_ (own_h_mul A k i v)
  exact Nat.le_mul_of_pos_right _ (Nat.pow_pos (by decide +kernel))
theorem own_h_app (A : Nat → Int32) : ∀ k l i v, own_h A i (k + l) v = own_h A (i + k) l (own_h A i k v) := by
  intro k
  induction k with
  | zero => intro l i v; rw [own_h0, Nat.zero_add, Nat.add_zero]
  | succ k ih =>
    intro l i v
    rw [show k + 1 + l = (k + l) + 1 by omega, own_hs, own_hs, ih, show i + 1 + k = i + (k + 1) by omega]
theorem own_h_congr (A B : Nat → Int32) : ∀ k i v, (∀ j, i ≤ j → j < i + k → A j = B j) → own_h A i k v = own_h B i k v := by
  intro k
  induction k with
  | zero => intro i v _; rw [own_h0, own_h0]
  | succ k ih =>
    intro i v h
    rw [own_hs, own_hs, h i (Nat.le_refl _) (by omega)]
    exact ih _ _ fun j h1 h2 => h j (by omega) (by omega)
theorem own_h_zero (A : Nat → Int32) : ∀ k i, (∀ j, i ≤ j → j < i + k → A j = 48) → own_h A i k 0 = 0 := by
  intro k
  induction k with
  | zero => intro i _; rw [own_h0]
  | succ k ih =>
    intro i h
    have l : (48 : Int32).toInt = 48 := by decide +kernel
    rw [own_hs, h i (Nat.le_refl _) (by omega), l]
    exact ih _ fun j h1 h2 => h j (by omega) (by omega)
theorem own_hdig (A : Nat → Int32) : ∀ (c i m : Nat), (∀ j, i ≤ j → j < i + c → (A j).toInt = 48 + ((m / 10 ^ (i + c - 1 - j) % 10 : Nat) : Int)) → own_h A i c (m / 10 ^ c) = m := by
  intro c
  induction c with
  | zero => intro i m _; rw [own_h0, Nat.pow_zero, Nat.div_one]
  | succ c ih =>
    intro i m h
    have e : m / 10 ^ (c + 1) * 10 + ((A i).toInt - 48).toNat = m / 10 ^ c := by
      have a := h i (Nat.le_refl _) (by omega)
      rw [show i + (c + 1) - 1 - i = c by omega] at a
      have p : m / 10 ^ (c + 1) = m / 10 ^ c / 10 := by rw [Nat.pow_succ, Nat.div_div_eq_div_mul]
      rw [p]
      omega
    rw [own_hs, e]
    refine ih (i + 1) m fun j h1 h2 => ?_
    rw [h j (by omega) (by omega), show i + (c + 1) - 1 - j = i + 1 + c - 1 - j by omega]
theorem own_bm32 {x y : Int} (h : (x - y) % 4294967296 = 0) (r : -2147483648 ≤ x ∧ x < 2147483648) (s : -2147483648 ≤ y ∧ y < 2147483648) : x = y := by omega
theorem own_bm64 {x y : Int} (h : (x - y) % 18446744073709551616 = 0) (r : -9223372036854775808 ≤ x ∧ x < 9223372036854775808) (s : -9223372036854775808 ≤ y ∧ y < 9223372036854775808) : x = y := by omega
theorem own_q0 (a b : Int) (h : (a - (b - 48)) % 4294967296 = 0) (r : -2147483648 ≤ a ∧ a < 2147483648) (s : -2147483648 ≤ b ∧ b < 2147483648) (c1 : ¬ a < 0) (c2 : ¬ 9 < a) : 48 ≤ b ∧ b ≤ 57 := by omega
theorem own_l48 : (48 : Int32).toInt = 48 := by decide +kernel
theorem own_l0 : (0 : Int32).toInt = 0 := by decide +kernel
theorem own_l9 : (9 : Int32).toInt = 9 := by decide +kernel
theorem own_L10 : (10 : Int64).toInt = 10 := by decide +kernel
theorem own_LM : (9223372036854775807 : Int64).toInt = 9223372036854775807 := by decide +kernel
theorem own_r48 (b : Int) (h1 : 48 ≤ b) (h2 : b ≤ 57) : -2147483648 ≤ b - 48 ∧ b - 48 < 2147483648 := by omega
theorem own_sub48 (x : Int32) (g : 48 ≤ x.toInt ∧ x.toInt ≤ 57) : (x - 48).toInt = x.toInt - 48 := by
  have d := c_isub x 48
  rw [own_l48] at d
  exact own_bm32 d (rng32 _) (own_r48 _ g.1 g.2)
/-- a byte that passes both tests is a digit -/
theorem own_isd (x : Int32) (c1 : ¬ (x - 48) < (0 : Int32)) (c2 : ¬ (9 : Int32) < (x - 48)) : 48 ≤ x.toInt ∧ x.toInt ≤ 57 := by
  rw [Int32.lt_iff_toInt_lt, own_l0] at c1
  rw [Int32.lt_iff_toInt_lt, own_l9] at c2
  have d := c_isub x 48
  rw [own_l48] at d
  exact own_q0 _ _ d (rng32 _) (rng32 _) c1 c2
theorem own_q1 (b : Int) (h1 : 48 ≤ b) (h2 : b ≤ 57) : -9223372036854775808 ≤ 9223372036854775807 - (b - 48) ∧ 9223372036854775807 - (b - 48) < 9223372036854775808 := by omega
theorem own_q2 (b : Int) (h2 : b ≤ 57) : 0 ≤ 9223372036854775807 - (b - 48) := by omega
theorem own_q3 (b : Int) (v : Nat) (h1 : 48 ≤ b) : (9223372036854775807 - (b - 48)) / 10 < (v : Int) ↔ 9223372036854775807 < v * 10 + (b - 48).toNat := by omega
theorem own_q4 (b : Int) (v : Nat) (h1 : 48 ≤ b) (h : v * 10 + (b - 48).toNat ≤ 9223372036854775807) : -9223372036854775808 ≤ (v : Int) * 10 ∧ (v : Int) * 10 < 9223372036854775808 := by omega
theorem own_q5 (b : Int) (v : Nat) (h1 : 48 ≤ b) (h : v * 10 + (b - 48).toNat ≤ 9223372036854775807) : -9223372036854775808 ≤ (v : Int) * 10 + (b - 48) ∧ (v : Int) * 10 + (b - 48) < 9223372036854775808 := by omega
theorem own_q6 (b : Int) (v : Nat) (h1 : 48 ≤ b) : (v : Int) * 10 + (b - 48) = ((v * 10 + (b - 48).toNat : Nat) : Int) := by omega
theorem own_cmp (x : Int32) (j5 : Int64) (v : Nat) (h : j5.toInt = v) (g : 48 ≤ x.toInt ∧ x.toInt ≤ 57) :
    (((9223372036854775807 : Int64) - ((x - 48).toInt64)) / (10 : Int64)) < j5 ↔ 9223372036854775807 < v * 10 + (x.toInt - 48).toNat := by
  have s := c_lsub (9223372036854775807 : Int64) ((x - 48).toInt64)
  rw [c_i2l, own_LM, own_sub48 x g] at s
  have s' := own_bm64 s (rng64 _) (own_q1 _ g.1 g.2)
  have q := (c_ldiv ((9223372036854775807 : Int64) - ((x - 48).toInt64)) 10 10 own_L10 (by decide +kernel)).1
  rw [s'] at q
  rw [Int64.lt_iff_toInt_lt, q (own_q2 _ g.2), h]
  exact own_q3 _ v g.1
theorem own_nxt (x : Int32) (j5 : Int64) (v : Nat) (h : j5.toInt = v) (g : 48 ≤ x.toInt ∧ x.toInt ≤ 57) (b : v * 10 + (x.toInt - 48).toNat ≤ 9223372036854775807) :
    (j5 * 10 + (x - 48).toInt64).toInt = ((v * 10 + (x.toInt - 48).toNat : Nat) : Int) := by
  have m := c_lmul j5 10
  rw [own_L10, h] at m
  have m' := own_bm64 m (rng64 _) (own_q4 _ v g.1 b)
  have a := c_ladd (j5 * 10) ((x - 48).toInt64)
  rw [m', c_i2l, own_sub48 x g] at a
  rw [own_bm64 a (rng64 _) (own_q5 _ v g.1 b)]
  exact own_q6 _ v g.1
theorem own_ndig (x : Int32) (g : 48 ≤ x.toInt ∧ x.toInt ≤ 57) : ¬ (x - 48) < (0 : Int32) ∧ ¬ (9 : Int32) < (x - 48) := by
  rw [Int32.lt_iff_toInt_lt, Int32.lt_iff_toInt_lt, own_l0, own_l9, own_sub48 x g]
  generalize x.toInt = X at g ⊢
  omega
theorem own_ix (i7 : Int32) (i : Nat) (h : i7.toInt = i) : i7.toNatClampNeg = i := by
  show i7.toInt.toNat = i
  rw [h]; exact Int.toNat_natCast i
theorem own_stp (i7 : Int32) (i : Nat) (h : i7.toInt = i) (b : i ≤ 1000) : (i7 + (1 : Int32)).toInt = ((i + 1 : Nat) : Int) := by
  rw [own_inc i7 (by rw [h]; omega), h]; omega
theorem own_pgood : ∀ (c k : Nat) (i1 i2 i3 i4 : Int32) (j5 : Int64) (i7 n : Int32) (A : Nat → Int32) (i v : Nat), i7.toInt = i → i2.toInt = (i : Int) + c → i + c ≤ 1000 → j5.toInt = v → c < k → own_ok A i c → own_h A i c v ≤ 9223372036854775807 →
    ∃ r : Int64, r.toInt = own_h A i c v ∧ own_f2_49 k i1 i2 i3 i4 j5 i7 n A = if i3 = (0 : Int32) then r else (-r) := by
  intro c
  induction c with
  | zero =>
    intro k i1 i2 i3 i4 j5 i7 n A i v h1 h2 h3 h4 h5 h6 h7
    obtain ⟨k, rfl⟩ : ∃ k', k = k' + 1 := ⟨k - 1, by omega⟩
    refine ⟨j5, by rw [own_h0, h4], ?_⟩
    rw [own_f2_49_s, if_neg (by rw [Int32.lt_iff_toInt_lt, h1, h2]; omega)]
  | succ c ih =>
    intro k i1 i2 i3 i4 j5 i7 n A i v h1 h2 h3 h4 h5 h6 h7
    obtain ⟨k, rfl⟩ : ∃ k', k = k' + 1 := ⟨k - 1, by omega⟩
    have g := h6 i (Nat.le_refl _) (by omega)
    rw [own_f2_49_s, if_pos (by rw [Int32.lt_iff_toInt_lt, h1, h2]; omega), own_ix i7 i h1]
    rw [own_hs] at h7 ⊢
    have b := Nat.le_trans (own_h_ge A c (i + 1) (v * 10 + ((A i).toInt - 48).toNat)) h7
    have nd := own_ndig (A i) g
    rw [if_neg nd.1, if_neg nd.2, if_neg (fun z => Nat.not_lt.mpr b ((own_cmp (A i) j5 v h4 g).mp z))]
    exact ih k i1 i2 i3 i4 _ _ n A (i + 1) (v * 10 + ((A i).toInt - 48).toNat) (own_stp i7 i h1 (by omega)) (by rw [h2]; omega) (by omega) (own_nxt (A i) j5 v h4 g b) (by omega) (fun j p1 p2 => h6 j (by omega) (by omega)) h7
theorem own_pbad : ∀ (c k : Nat) (i1 i2 i3 i4 : Int32) (j5 : Int64) (i7 n : Int32) (A : Nat → Int32) (i v : Nat), i7.toInt = i → i2.toInt = (i : Int) + c → i + c ≤ 1000 → j5.toInt = v → c < k → ¬ (own_ok A i c ∧ own_h A i c v ≤ 9223372036854775807) →
    own_f2_49 k i1 i2 i3 i4 j5 i7 n A = (-9223372036854775808 : Int64) := by
  intro c
  induction c with
  | zero =>
    intro k i1 i2 i3 i4 j5 i7 n A i v h1 h2 h3 h4 h5 h6
    have r := rng64 j5
    rw [h4] at r
    exact absurd ⟨fun j p1 p2 => absurd p2 (by omega), by rw [own_h0]; omega⟩ h6
  | succ c ih =>
    intro k i1 i2 i3 i4 j5 i7 n A i v h1 h2 h3 h4 h5 h6
    obtain ⟨k, rfl⟩ : ∃ k', k = k' + 1 := ⟨k - 1, by omega⟩
    rw [own_f2_49_s, if_pos (by rw [Int32.lt_iff_toInt_lt, h1, h2]; omega), own_ix i7 i h1]
    by_cases c1 : (A i - 48) < (0 : Int32)
    · rw [if_pos c1]
    rw [if_neg c1]
    by_cases c2 : (9 : Int32) < (A i - 48)
    · rw [if_pos c2]
    rw [if_neg c2]
    have g := own_isd (A i) c1 c2
    by_cases c3 : (((9223372036854775807 : Int64) - ((A i - 48).toInt64)) / (10 : Int64)) < j5
    · rw [if_pos c3]
    rw [if_neg c3]
    have b := Nat.not_lt.mp (fun z => c3 ((own_cmp (A i) j5 v h4 g).mpr z))
    refine ih k i1 i2 i3 i4 _ _ n A (i + 1) (v * 10 + ((A i).toInt - 48).toNat) (own_stp i7 i h1 (by omega)) (by rw [h2]; omega) (by omega) (own_nxt (A i) j5 v h4 g b) (by omega) fun z => h6 ⟨fun j p1 p2 => ?_, by rw [own_hs]; exact z.2⟩
    by_cases hj : j = i
    · rw [hj]; exact g
    · exact z.1 j (by omega) (by omega)
theorem own_q7 (X j s x u : Int) (m : Nat) (hm : m < 10) (hX : (X - (48 - j)) % 18446744073709551616 = 0) (rX : -9223372036854775808 ≤ X ∧ X < 9223372036854775808) (hj : j = -(m : Int)) (hs : (s - X) % 4294967296 = 0) (rs : -2147483648 ≤ s ∧ s < 2147483648) (hx : (x - s) % 256 = 0 ∧ -128 ≤ x ∧ x < 128) (hu : (u - x) % 256 = 0 ∧ -128 ≤ u ∧ u < 128) : u = 48 + (m : Int) := by
  obtain ⟨x0, x1, x2⟩ := hx
  obtain ⟨u0, u1, u2⟩ := hu
  have a : X = 48 + (m : Int) := by omega
  have b : s = 48 + (m : Int) := by omega
  have c : x = 48 + (m : Int) := by omega
  omega
theorem own_ofN (x : Nat) : (Int32.ofNat (48 + x % 10)).toInt = 48 + ((x % 10 : Nat) : Int) := by
  have h : 48 + x % 10 < 2147483648 := by omega
  rw [Int32.toInt_ofNat_small h]
  omega
theorem own_q8 (z : Int) (h : z < 0) : -((-z) % 10) = -((z.natAbs % 10 : Nat) : Int) := by omega
theorem own_q9 (z : Int) (h : 0 ≤ z) (h' : z ≤ 0) : z % 10 = -((z.natAbs % 10 : Nat) : Int) := by omega
theorem own_dig (j4 : Int64) (h : j4.toInt ≤ 0) : (((((48 : Int64) - (j4 - (j4 / (10 : Int64)) * (10 : Int64))).toInt32).toInt8.toInt32).toInt8.toInt32) = Int32.ofNat (48 + j4.toInt.natAbs % 10) := by
  have l48 : (48 : Int64).toInt = 48 := by decide +kernel
  have q := c_lrem j4 10 10 own_L10
  have e : (j4 - (j4 / (10 : Int64)) * (10 : Int64)).toInt = -((j4.toInt.natAbs % 10 : Nat) : Int) := by
    by_cases z : 0 ≤ j4.toInt
    · rw [q.1 z]; exact own_q9 _ z h
    · rw [q.2 (Int.not_le.mp z)]; exact own_q8 _ (Int.not_le.mp z)
  generalize (j4 - (j4 / (10 : Int64)) * (10 : Int64)) = J at e ⊢
  have s := c_lsub (48 : Int64) J
  rw [l48] at s
  apply Int32.toInt_inj.mp
  rw [own_ofN]
  exact own_q7 _ _ _ _ _ _ (Nat.mod_lt _ (by decide +kernel)) s (rng64 _) e (c_l2i _) (rng32 _) (c_i2b _) (c_i2b _)
theorem own_tdiv (j4 : Int64) (m : Nat) (h : j4.toInt = -(m : Int)) : (j4 / (10 : Int64)).toInt = -((m / 10 : Nat) : Int) := by
  have l : (10 : Int64).toInt = 10 := by decide +kernel
  have d := c_ldiv j4 10 10 l (by decide +kernel)
  by_cases z : 0 ≤ j4.toInt
  · rw [d.1 z]; omega
  · rw [d.2 (by omega)]; omega
theorem own_fe {i3 : Int32} {t : Nat} (h1 : i3.toInt = t) (h4 : 2 ≤ t) : (i3 + (-1 : Int32)).toInt = ((t - 1 : Nat) : Int) ∧ (i3 + (-1 : Int32)).toNatClampNeg = t - 1 := by
  have a : (i3 + (-1 : Int32)).toInt = ((t - 1 : Nat) : Int) := by
    rw [own_neg1 i3 (by rw [h1]; omega), h1]
    omega
  exact ⟨a, own_ix _ _ a⟩
theorem own_fe2 {i3 : Int32} {t : Nat} (h1 : i3.toInt = t) (h4 : 2 ≤ t) : ((i3 + (-1 : Int32)) + (-1 : Int32)).toInt = ((t - 2 : Nat) : Int) ∧ ((i3 + (-1 : Int32)) + (-1 : Int32)).toNatClampNeg = t - 2 := by
  have b := (own_fe h1 h4).1
  have a : ((i3 + (-1 : Int32)) + (-1 : Int32)).toInt = ((t - 2 : Nat) : Int) := by
    rw [own_neg1 (i3 + (-1 : Int32)) (by rw [b]; omega), b]
    omega
  exact ⟨a, own_ix _ _ a⟩
theorem own_np (m : Nat) : -(m : Int) ≤ 0 := by omega
theorem own_mz {m : Nat} (h : (0 : Int) = -((m / 10 : Nat) : Int)) : m < 10 := by omega
theorem own_pa {m d : Nat} (h : m / 10 < 10 ^ d) : m < 10 ^ (d + 1) := by
  rw [Nat.pow_succ]
  generalize (10 : Nat) ^ d = P at h ⊢
  omega
theorem own_pb {m d : Nat} (h1 : 1 ≤ d) (h : 10 ^ (d - 1) ≤ m / 10) : 10 ^ (d + 1 - 1) ≤ m := by
  have e : d + 1 - 1 = (d - 1) + 1 := by omega
  rw [e, Nat.pow_succ]
  generalize (10 : Nat) ^ (d - 1) = P at h ⊢
  omega
theorem own_fmt : ∀ (k : Nat) (j0 : Int64) (i3 : Int32) (j4 : Int64) (n : Int32) (A : Nat → Int32) (t m : Nat), i3.toInt = t → j4.toInt = -(m : Int) → m < k → 2 ≤ t → m < 10 ^ (t - 1) →
    ∃ d : Nat, 1 ≤ d ∧ d + 1 ≤ t ∧ m < 10 ^ d ∧ (m ≠ 0 → 10 ^ (d - 1) ≤ m) ∧ (m = 0 → d = 1) ∧
      (own_f1_17 k j0 i3 j4 n A).toInt = (if j0 < (0 : Int64) then (t : Int) - d - 1 else (t : Int) - d) ∧
      (∀ j, t - d ≤ j → j < t → own_o1_A_17 k j0 i3 j4 n A j = Int32.ofNat (48 + m / 10 ^ (t - 1 - j) % 10)) ∧
      (j0 < (0 : Int64) → own_o1_A_17 k j0 i3 j4 n A (t - d - 1) = 45) ∧
      (∀ j, (j + 1 < t - d ∨ t ≤ j ∨ (¬ j0 < (0 : Int64) ∧ j < t - d)) → own_o1_A_17 k j0 i3 j4 n A j = A j) := by
  intro k
  induction k with
  | zero => intro j0 i3 j4 n A t m h1 h2 h3; exact absurd h3 (Nat.not_lt_zero _)
  | succ k ih =>
    intro j0 i3 j4 n A t m h1 h2 h3 h4 h5
    have l0 : (0 : Int64).toInt = 0 := by decide +kernel
    obtain ⟨E1, x1⟩ := own_fe h1 h4
    obtain ⟨E2, x2⟩ := own_fe2 h1 h4
    have dg := own_dig j4 (by rw [h2]; exact own_np m)
    have nm : j4.toInt.natAbs = m := by rw [h2, Int.natAbs_neg, Int.natAbs_natCast]
    rw [nm] at dg
    have td := own_tdiv j4 m h2
    rw [own_f1_17_s, own_o1_A_17_s, x1, x2, dg]
    clear dg x1 x2
    by_cases hz : (j4 / (10 : Int64)) = (0 : Int64)
    · have hm : m < 10 := by rw [hz, l0] at td; exact own_mz td
      rw [if_pos hz, if_pos hz]
      clear td nm h1 h2 h5 l0 ih hz
      refine ⟨1, Nat.le_refl 1, h4, by rw [Nat.pow_one]; exact hm, fun q => ?_, fun _ => rfl, ?_, ?_, ?_, ?_⟩
      · show 10 ^ 0 ≤ m
        rw [Nat.pow_zero]
        exact Nat.pos_of_ne_zero q
      · by_cases hj : j0 < (0 : Int64)
        · rw [if_pos hj, if_pos hj, E2]; clear E1 E2; omega
        · rw [if_neg hj, if_neg hj, E1]; clear E1 E2; omega
      · clear E1 E2
        intro j p1 p2
        obtain rfl : j = t - 1 := by omega
        rw [Nat.sub_self, Nat.pow_zero, Nat.div_one]
        by_cases hj : j0 < (0 : Int64)
        · rw [if_pos hj, own_up_miss _ _ _ (by omega), own_up_hit]
        · rw [if_neg hj, own_up_hit]
      · clear E1 E2
        intro hj
        have e : t - 1 - 1 = t - 2 := by omega
        rw [if_pos hj, e, own_up_hit]
        decide +kernel
      · clear E1 E2
        intro j p
        by_cases hj : j0 < (0 : Int64)
        · have p' : j + 1 < t - 1 ∨ t ≤ j := by
            rcases p with p | p | p
            · exact Or.inl p
            · exact Or.inr p
            · exact absurd hj p.1
          clear p
          rw [if_pos hj, own_up_miss _ _ _ (by omega), own_up_miss _ _ _ (by omega)]
        · have p' : ¬ j = t - 1 := by
            rcases p with p | p | p
            · omega
            · omega
            · have := p.2; omega
          rw [if_neg hj, own_up_miss _ _ _ p']
    · rw [if_neg hz, if_neg hz]
      have hm : 10 ≤ m := by rw [← nm]; exact own_div0 hz
      have pw := own_pw m t h5 hm h4
      clear h1 h2 h5 nm E2 l0 hz
      have t3 := pw.1
      have k1 : m / 10 < k := by clear ih pw E1 td; omega
      have k2 : 2 ≤ t - 1 := by clear ih pw E1 td; omega
      obtain ⟨d, d1, d2, d3, d4, d5, d6, d7, d8, d9⟩ := ih j0 (i3 + (-1 : Int32)) (j4 / (10 : Int64)) n (own_up A (t - 1) (Int32.ofNat (48 + m % 10))) (t - 1) (m / 10) E1 td k1 k2 pw.2
      have m0 : m / 10 ≠ 0 := by clear ih pw E1 td d1 d2 d3 d4 d5 d6 d7 d8 d9; omega
      have p3 := own_pa d3
      have p4 := own_pb d1 (d4 m0)
      clear ih pw E1 td d3 d4 d5
      refine ⟨d + 1, Nat.le_add_left 1 d, ?_, p3, fun _ => p4, ?_, ?_, ?_, ?_, ?_⟩
      · clear p3 p4 d6 d7 d8 d9; omega
      · clear p3 p4 d6 d7 d8 d9; omega
      · rw [d6]
        clear p3 p4 d6 d7 d8 d9
        by_cases hj : j0 < (0 : Int64)
        · rw [if_pos hj, if_pos hj]; omega
        · rw [if_neg hj, if_neg hj]; omega
      · clear p3 p4 d6 d8
        intro j p1 p2
        by_cases hj : j = t - 1
        · subst hj
          have f : (t - 1) + 1 < t - 1 - d ∨ t - 1 ≤ t - 1 ∨ (¬ j0 < (0 : Int64) ∧ t - 1 < t - 1 - d) := Or.inr (Or.inl (Nat.le_refl _))
          rw [d9 _ f, own_up_hit, Nat.sub_self, Nat.pow_zero, Nat.div_one]
        · have f1 : t - 1 - d ≤ j := by clear d7 d9; omega
          have f2 : j < t - 1 := by clear d7 d9; omega
          have f3 : t - 1 - j = (t - 1 - 1 - j) + 1 := by clear d7 d9; omega
          rw [d7 j f1 f2]
          have u : m / 10 / 10 ^ (t - 1 - 1 - j) = m / 10 ^ (t - 1 - j) := by
            rw [Nat.div_div_eq_div_mul, f3, Nat.pow_succ, Nat.mul_comm]
          rw [u]
      · intro hj
        have e : t - (d + 1) - 1 = t - 1 - d - 1 := by clear p3 p4 d6 d7 d8 d9; omega
        rw [e]
        exact d8 hj
      · clear p3 p4 d6 d7 d8
        intro j p
        have e : t - (d + 1) = t - 1 - d := by clear d9; omega
        rw [e] at p
        have f : j + 1 < t - 1 - d ∨ t - 1 ≤ j ∨ (¬ j0 < (0 : Int64) ∧ j < t - 1 - d) := by
          rcases p with p | p | p
          · exact Or.inl p
          · exact Or.inr (Or.inl (Nat.le_trans (Nat.sub_le _ _) p))
          · exact Or.inr (Or.inr p)
        have g : ¬ j = t - 1 := by
          clear d9 f
          rcases p with p | p | p
          · omega
          · omega
          · have := p.2; omega
        rw [d9 j f, own_up_miss _ _ _ g]
theorem own_fmt0 (j0 : Int64) (n : Int32) (A : Nat → Int32) (t : Nat) (hn : n.toInt = t) (ht : 20 ≤ t) :
    ∃ d : Nat, 1 ≤ d ∧ d + 1 ≤ t ∧ j0.toInt.natAbs < 10 ^ d ∧ (j0.toInt.natAbs ≠ 0 → 10 ^ (d - 1) ≤ j0.toInt.natAbs) ∧ (j0.toInt.natAbs = 0 → d = 1) ∧
      (own_f1_0 j0 n A).toInt = (if j0 < (0 : Int64) then (t : Int) - d - 1 else (t : Int) - d) ∧
      (∀ j, t - d ≤ j → j < t → own_o1_A j0 n A j = Int32.ofNat (48 + j0.toInt.natAbs / 10 ^ (t - 1 - j) % 10)) ∧
      (j0 < (0 : Int64) → own_o1_A j0 n A (t - d - 1) = 45) ∧
      (∀ j, (j + 1 < t - d ∨ t ≤ j ∨ (¬ j0 < (0 : Int64) ∧ j < t - d)) → own_o1_A j0 n A j = A j) := by
  have l0 : (0 : Int64).toInt = 0 := by decide +kernel
  have r := rng64 j0
  have p : (10 : Nat) ^ 19 ≤ 10 ^ (t - 1) := Nat.pow_le_pow_right (by decide +kernel) (by omega)
  have q : (10 : Nat) ^ 19 = 10000000000000000000 := by decide +kernel
  unfold own_f1_0 own_o1_A
  by_cases hj : j0 < (0 : Int64)
  · rw [if_pos hj, if_pos hj]
    have hj' := hj
    rw [Int64.lt_iff_toInt_lt, l0] at hj'
    exact own_fmt _ j0 n j0 n A t j0.toInt.natAbs hn (by omega) (Nat.lt_succ_self _) (by omega) (by omega)
  · rw [if_neg hj, if_neg hj]
    have hj' := hj
    rw [Int64.lt_iff_toInt_lt, l0] at hj'
    have g := c_lneg j0
    have gr := rng64 (-j0)
    have e : (-j0).toInt = -(j0.toInt.natAbs : Int) := by omega
    exact own_fmt _ j0 n (-j0) n A t j0.toInt.natAbs hn e (by omega) (by omega) (by omega)
theorem own_ptop_neg (i1 i2 n : Int32) (A : Nat → Int32) (i c : Nat) (h1 : i1.toInt = i) (h2 : i2.toInt = (i : Int) + 1 + c) (hc : 1 ≤ c) (h3 : i + 1 + c ≤ 1000) (hA : A i = 45) (ok : own_ok A (i + 1) c) (hle : own_h A (i + 1) c 0 ≤ 9223372036854775807) :
    (own_f2_0 i1 i2 n A).toInt = -(own_h A (i + 1) c 0 : Int) := by
  have ei : i1.toNatClampNeg = i := by show i1.toInt.toNat = i; omega
  have e1 := own_inc i1 (by omega)
  unfold own_f2_0
  rw [if_pos (by rw [Int32.lt_iff_toInt_lt]; omega), ei, if_pos hA]
  unfold own_f2_18
  rw [if_neg (by decide +kernel)]
  unfold own_f2_30
  rw [if_neg (fun z => by rw [z] at e1; omega)]
  obtain ⟨r, r1, r2⟩ := own_pgood c _ i1 i2 1 (i1 + 1) 0 (i1 + 1) n A (i + 1) 0 (by omega) (by omega) (by omega) (by decide +kernel) (by omega : c < (i2.toInt - (i1 + (1 : Int32)).toInt).toNat + 1) ok hle
  rw [r2, if_neg (by decide +kernel)]
  have g := c_lneg r
  have gr := rng64 (-r)
  omega
theorem own_ptop_pos (i1 i2 n : Int32) (A : Nat → Int32) (i c : Nat) (h1 : i1.toInt = i) (h2 : i2.toInt = (i : Int) + c) (hc : 1 ≤ c) (h3 : i + c ≤ 1000) (hA : ¬ A i = 45) (ok : own_ok A i c) (hle : own_h A i c 0 ≤ 9223372036854775807) :
    (own_f2_0 i1 i2 n A).toInt = (own_h A i c 0 : Int) := by
  have ei : i1.toNatClampNeg = i := by show i1.toInt.toNat = i; omega
  unfold own_f2_0
  rw [if_pos (by rw [Int32.lt_iff_toInt_lt]; omega), ei, if_neg hA]
  unfold own_f2_17 own_f2_18
  rw [if_pos rfl]
  unfold own_f2_30
  rw [if_neg (fun z => by rw [z] at h1; omega)]
  obtain ⟨r, r1, r2⟩ := own_pgood c _ i1 i2 0 i1 0 i1 n A i 0 (by omega) (by omega) (by omega) (by decide +kernel) (by omega : c < (i2.toInt - i1.toInt).toNat + 1) ok hle
  rw [r2, if_pos rfl]
  omega
theorem own_54 (j0 : Int64) (i2 n f : Int32) (A : Nat → Int32) (t d : Nat) (hn : n.toInt = t) (ht : 20 ≤ t) (ht2 : t ≤ 27) (d1 : 1 ≤ d) (d2 : d + 1 ≤ t) (d3 : j0.toInt.natAbs < 10 ^ d) (d4 : j0.toInt.natAbs ≠ 0 → 10 ^ (d - 1) ≤ j0.toInt.natAbs) (d5 : j0.toInt.natAbs = 0 → d = 1)
    (d6 : f.toInt = (if j0 < (0 : Int64) then (t : Int) - d - 1 else (t : Int) - d)) (d7 : ∀ j, t - d ≤ j → j < t → A j = Int32.ofNat (48 + j0.toInt.natAbs / 10 ^ (t - 1 - j) % 10)) (d8 : j0 < (0 : Int64) → A (t - d - 1) = 45) : own_f0_54 j0 i2 n f 1 n A = 1 := by
  have l0 : (0 : Int64).toInt = 0 := by decide +kernel
  have lm : (-9223372036854775808 : Int64).toInt = -9223372036854775808 := by decide +kernel
  have l45 : (45 : Int32).toInt = 45 := by decide +kernel
  have l48 : (48 : Int32).toInt = 48 := by decide +kernel
  have r := rng64 j0
  have dn := own_dec n (by omega)
  have xn : (n - (1 : Int32)).toNatClampNeg = t - 1 := by show (n - (1 : Int32)).toInt.toNat = t - 1; omega
  have ok : own_ok A (t - d) d := fun j p1 p2 => by
    rw [d7 j p1 (by omega), own_ofN]
    omega
  have hd : own_h A (t - d) d 0 = j0.toInt.natAbs := by
    have := own_hdig A d (t - d) j0.toInt.natAbs fun j p1 p2 => by
      rw [d7 j p1 (by omega), own_ofN, show t - d + d - 1 - j = t - 1 - j by omega]
    rwa [Nat.div_eq_of_lt d3] at this
  unfold own_f0_54
  by_cases hmin : j0 = (-9223372036854775808 : Int64)
  · have hj : j0 < (0 : Int64) := by rw [Int64.lt_iff_toInt_lt, hmin, lm, l0]; decide +kernel
    rw [if_pos hj] at d6
    have m : j0.toInt.natAbs = 9223372036854775808 := by rw [hmin, lm]; rfl
    rw [m] at d3 d4 d7
    have hd19 : d = 19 := by
      have a : ¬ d ≤ 18 := fun z => by
        have : (10 : Nat) ^ d ≤ 10 ^ 18 := Nat.pow_le_pow_right (by decide +kernel) z
        have q : (10 : Nat) ^ 18 = 1000000000000000000 := by decide +kernel
        omega
      have b : ¬ 20 ≤ d := fun z => by
        have : (10 : Nat) ^ 19 ≤ 10 ^ (d - 1) := Nat.pow_le_pow_right (by decide +kernel) (by omega)
        have q : (10 : Nat) ^ 19 = 10000000000000000000 := by decide +kernel
        have := d4 (by decide +kernel)
        omega
      omega
    subst hd19
    have xf : f.toNatClampNeg = t - 19 - 1 := by show f.toInt.toNat = t - 19 - 1; omega
    have s := c_isub n f
    have sr := rng32 (n - f)
    have l20 : (20 : Int32).toInt = 20 := by decide +kernel
    have e20 : n - f = 20 := Int32.toInt_inj.mp (by omega)
    have a1 : A f.toNatClampNeg = 45 := by rw [xf]; exact d8 hj
    have a2 : A (n - (1 : Int32)).toNatClampNeg = 56 := by
      rw [xn, d7 (t - 1) (by omega) (by omega), show t - 1 - (t - 1) = 0 by omega]
      decide +kernel
    have inf := own_inc f (by omega)
    have a3 : own_h A (t - 19) 18 0 = 922337203685477580 := by
      have := own_hdig A 18 (t - 19) 922337203685477580 fun j p1 p2 => by
        rw [d7 j p1 (by omega), own_ofN]
        have u : (9223372036854775808 : Nat) / 10 ^ (t - 1 - j) = 922337203685477580 / 10 ^ (t - 19 + 18 - 1 - j) := by
          rw [show t - 1 - j = (t - 19 + 18 - 1 - j) + 1 by omega, Nat.pow_succ, Nat.mul_comm, ← Nat.div_div_eq_div_mul]
        rw [u]
      rwa [Nat.div_eq_of_lt (by decide +kernel)] at this
    have nn : ¬ A (t - 19) = 45 := fun z => by
      have := (ok (t - 19) (by omega) (by omega)).1
      rw [z, l45] at this
      omega
    have a4 := own_ptop_pos (f + 1) (n - 1) n A (t - 19) 18 (by omega) (by omega) (by omega) (by omega) nn (fun j p1 p2 => ok j p1 (by omega)) (by rw [a3]; decide)
    have lq : (922337203685477580 : Int64).toInt = 922337203685477580 := by decide +kernel
    rw [a3] at a4
    have a5 : own_f2_0 (f + (1 : Int32)) (n - (1 : Int32)) n A = (922337203685477580 : Int64) := Int64.toInt_inj.mp (by rw [a4, lq]; rfl)
    rw [if_pos hmin, if_neg (by decide +kernel), if_pos e20, if_pos a1, if_pos a2, if_pos a5]
  · have hmin' : ¬ j0.toInt = -9223372036854775808 := fun z => hmin (Int64.toInt_inj.mp (by rw [z, lm]))
    rw [if_neg hmin]
    have hne : ∀ j, t - d ≤ j → j < t → ¬ A j = 45 := fun j p1 p2 z => by
      have := (ok j p1 (by omega)).1
      rw [z, l45] at this
      omega
    by_cases hj : j0 < (0 : Int64)
    · rw [if_pos hj] at d6
      have hj' := hj
      rw [Int64.lt_iff_toInt_lt, l0] at hj'
      have a := own_ptop_neg f n n A (t - d - 1) d (by omega) (by omega) d1 (by omega) (d8 hj) (by rw [show t - d - 1 + 1 = t - d by omega]; exact ok) (by rw [show t - d - 1 + 1 = t - d by omega, hd]; omega)
      rw [show t - d - 1 + 1 = t - d by omega, hd] at a
      have e : own_f2_0 f n n A = j0 := Int64.toInt_inj.mp (by omega)
      have nz : ¬ j0 = 0 := fun z => by rw [z, l0] at hj'; omega
      have inf := own_inc f (by omega)
      rw [if_pos e, if_neg nz, if_pos hj]
      unfold own_f0_180
      rw [if_neg (by decide +kernel), if_pos (by rw [Int32.lt_iff_toInt_lt]; omega)]
      have xf : (f + (1 : Int32)).toNatClampNeg = t - d := by show (f + (1 : Int32)).toInt.toNat = t - d; omega
      rw [xf, if_neg]
      intro z
      have w := d7 (t - d) (by omega) (by omega)
      rw [z, show t - 1 - (t - d) = d - 1 by omega] at w
      have w2 := congrArg Int32.toInt w
      rw [own_ofN, l48] at w2
      have b := d4 (by omega)
      obtain ⟨e', rfl⟩ : ∃ e', d = e' + 1 := ⟨d - 1, by omega⟩
      rw [show e' + 1 - 1 = e' by omega] at w2 b
      rw [Nat.pow_succ] at d3
      have c1 : 1 ≤ j0.toInt.natAbs / 10 ^ e' := (Nat.one_le_div_iff (Nat.pow_pos (by decide +kernel))).mpr b
      have c2 : j0.toInt.natAbs / 10 ^ e' < 10 := (Nat.div_lt_iff_lt_mul (Nat.pow_pos (by decide +kernel))).mpr (by rw [Nat.mul_comm]; exact d3)
      omega
    · rw [if_neg hj] at d6
      have hj' := hj
      rw [Int64.lt_iff_toInt_lt, l0] at hj'
      have a := own_ptop_pos f n n A (t - d) d (by omega) (by omega) d1 (by omega) (hne _ (by omega) (by omega)) ok (by rw [hd]; omega)
      rw [hd] at a
      have e : own_f2_0 f n n A = j0 := Int64.toInt_inj.mp (by omega)
      rw [if_pos e]
      by_cases z0 : j0 = 0
      · have dd : d = 1 := d5 (by rw [z0, l0]; rfl)
        have ef : f = n - 1 := Int32.toInt_inj.mp (by omega)
        rw [if_pos z0, if_neg (by decide +kernel), if_pos ef]
      · have z0' : ¬ j0.toInt = 0 := fun z => z0 (Int64.toInt_inj.mp (by rw [z, l0]))
        rw [if_neg z0, if_neg hj]
        unfold own_f0_180
        rw [if_neg (by decide +kernel), if_pos (by rw [Int32.lt_iff_toInt_lt]; omega)]
        have xf : f.toNatClampNeg = t - d := by show f.toInt.toNat = t - d; omega
        rw [xf, if_neg]
        intro z
        have w := d7 (t - d) (by omega) (by omega)
        rw [z, show t - 1 - (t - d) = d - 1 by omega] at w
        have w2 := congrArg Int32.toInt w
        rw [own_ofN, l48] at w2
        have b := d4 (by omega)
        obtain ⟨e', rfl⟩ : ∃ e', d = e' + 1 := ⟨d - 1, by omega⟩
        rw [show e' + 1 - 1 = e' by omega] at w2 b
        rw [Nat.pow_succ] at d3
        have c1 : 1 ≤ j0.toInt.natAbs / 10 ^ e' := (Nat.one_le_div_iff (Nat.pow_pos (by decide +kernel))).mpr b
        have c2 : j0.toInt.natAbs / 10 ^ e' < 10 := (Nat.div_lt_iff_lt_mul (Nat.pow_pos (by decide +kernel))).mpr (by rw [Nat.mul_comm]; exact d3)
        omega
theorem own_law (j0 : Int64) (i2 : Int32) : own_f0_0 j0 i2 = 1 := by
  have l0 : (0 : Int32).toInt = 0 := by decide +kernel
  have hl := own_len i2
  unfold own_f0_0
  generalize ((20 : Int32) + (i2 &&& (7 : Int32))) = n at *
  obtain ⟨t, hn⟩ : ∃ t : Nat, n.toInt = t := ⟨n.toInt.toNat, by omega⟩
  obtain ⟨d, d1, d2, d3, d4, d5, d6, d7, d8, d9⟩ := own_fmt0 j0 n (fun _ => 0) t hn (by omega)
  generalize own_f1_0 j0 n (fun _ => 0) = f at *
  generalize own_o1_A j0 n (fun _ => 0) = A at *
  have g := own_54 j0 i2 n f A t d hn (by omega) (by omega) d1 d2 d3 d4 d5 d6 d7 d8
  have hf : 0 ≤ f.toInt ∧ f.toInt < t := by
    by_cases hj : j0 < (0 : Int64)
    · rw [if_pos hj] at d6; omega
    · rw [if_neg hj] at d6; omega
  rw [if_neg (by rw [Int32.lt_iff_toInt_lt]; omega), if_pos (by rw [Int32.lt_iff_toInt_lt]; omega)]
  unfold own_f0_49
  by_cases hz : f = 0
  · rw [if_pos hz, g]
  · have hz' : ¬ f.toInt = 0 := fun z => hz (Int32.toInt_inj.mp (by rw [z, l0]))
    have dc := own_dec f (by omega)
    have xf : (f - (1 : Int32)).toNatClampNeg = f.toInt.toNat - 1 := by show (f - (1 : Int32)).toInt.toNat = f.toInt.toNat - 1; omega
    rw [if_neg hz, xf, if_pos, g]
    refine d9 _ ?_
    by_cases hj : j0 < (0 : Int64)
    · rw [if_pos hj] at d6; left; omega
    · rw [if_neg hj] at d6; right; right; exact ⟨hj, by omega⟩
set_option maxRecDepth 65536 in
set_option maxHeartbeats 40000000 in
theorem comes_1 {Post : Tables → Env → Array Value → State → Outcome → State → Prop} (hpost : ∀ tb e args s v u, (limb_1_1.after args s (.returned v) u = true ∧ limb_1_2.after args s (.returned v) u = true ∧ True) → FrameEnd s (.returned v) u (Jvm.fieldLocs frame_1_writes args s ++ Jvm.arrayLocs frame_1_arrays args s ++ Jvm.staticLocs frame_1_statics s) 16 128 → Post tb e args s (.returned v) u) :
    ArmFor flags0 classFile x code maxLocals ret World_1 tables_1 room_1 Calls_1 rest_1 Pre_1 Post := by
  intro l hfl _ _ p e ha hc hk s m args below hf hA hF happ hP
  obtain ⟨hcalls, hrest, hpre⟩ := hP
  obtain ⟨-, -, -, hnamed, -, -, -, hat⟩ := (Spec.applies_iff hf).mp happ
  obtain ⟨hg, hn⟩ := and_e (Cond.before_iff.mp (show (Jvm.Cond.and given_1 narrow_1).before args s = true from hpre))
  obtain ⟨hcount, hg⟩ := and_e hg
  obtain ⟨g0, hg⟩ := and_e hg
  have g1 := hg
  obtain ⟨w0, w1, rfl⟩ : ∃ w0 w1 : Value, args = #[w0, w1] := by
    have hs : args.size = 2 := by simpa [Cond.value, given_1] using hcount
    obtain ⟨L⟩ := args
    match L, hs with
    | [w0, w1], _ => exact ⟨w0, w1, rfl⟩
  have hw := fun d (hd : d ∈ tables_1) => atoms_spec (ws := Jvm.Cond.code x code maxLocals ret :: tables_1) hat d (List.mem_cons_of_mem _ hd)
  obtain ⟨i0, ei0⟩ := isL_v g0
  obtain rfl : w0 = (.long i0) := Option.some.inj ei0
  obtain ⟨i1, ei1⟩ := is_v g1
  obtain rfl : w1 = (.int i1) := Option.some.inj ei1
  obtain ⟨n, o, h1, h2, h3, _, L, rfl, ⟨rfl, N⟩, hq⟩ := rm0 l s _ hw tables_1 i0 i1 s.heap s.heap.size (Nat.le_refl _) p e ha hc hk s m _ below hf ((Spec.applies_iff_loose hf).mp happ).1 ⟨rfl, State.Warmed39.refl s, rfl⟩ trivial
  rw [own_law i0 i1] at h3 hq
  refine ⟨n, _, h1, h2, h3, hpost _ _ _ _ _ _ ⟨Cond.after_iff.mpr rfl, Cond.after_iff.mpr (eq_i res_at (Term.int_eval (1)) rfl), trivial⟩ ⟨hq.1, hq.2.1, (hq.2.2.sift fun y hy => Or.inr (N y hy)).mono (by decide) (by decide)⟩⟩
theorem main_1_1 : Claimed_1_1 := comes_1 fun _ _ _ _ _ _ h hF => ⟨h.1, hF⟩
theorem main_1_2 : Claimed_1_2 := comes_1 fun _ _ _ _ _ _ h hF => ⟨h.2.1, hF⟩
end Jvm.Pilot.@@N@@
namespace Jvm.Pilot.@@N@@
open Jvm Jvm.ClassFile Sem Op Lib Jvm.Free Jvm.Stand Jvm.Pilot.@@N@@.Jvm.D
/-! MADE BY PROGRAM (witnessworld.py) out of the Statement's table words and the real class files: 9 classes; the members and pool entries that the words name. The judged class is class 1, her method 1. -/
namespace start1
open Jvm.ClassFile
def u (s : String) : CpInfo := .utf8 (stringToUtf16 s)
/-- a pool by its gaps: so many unusable entries, then the entry; so many at the end -/
def gap : Nat → List CpInfo → List CpInfo
  | 0, r => r
  | n + 1, r => .unusable :: gap n r
def poolList (es : List (Nat × CpInfo)) (last : Nat) : List CpInfo := es.foldr (fun e r => gap e.1 (e.2 :: r)) (gap last [])
def pool (es : List (Nat × CpInfo)) (last : Nat) : Array CpInfo := ⟨poolList es last⟩
def fileOf (pool : Array CpInfo) (this : Nat) (attrs : Array Attribute := #[]) (ms : Array MethodInfo := #[]) (fl : Nat := 33) (sup : Nat := 0) (ifs : Array Nat := #[]) (fds : Array FieldInfo := #[]) : ClassFile where
  minorVersion := 0
  majorVersion := 65
  constantPool := pool
  accessFlags := fl
  thisClass := this
  superClass := sup
  interfaces := ifs
  fields := fds
  methods := ms
  attributes := attrs
def plain (name : String) (sup : Option ClassId) : Class where
  name := name
  kind := .ordinary
  loader := none
  accessFlags := 33
  super := sup
  interfaces := #[]
  cf := none
  fields := #[]
  methods := #[]
  instanceTypes := #[]
  staticTypes := #[]
  resolved := #[]
  callSites := []
  init := .initialized
  statics := none
  mirror := none

def pool0 : Array CpInfo := pool [(5, u "<init>"), (0, u "()V"), (1, .class_ 10), (1, u "java/lang/Object")] 113

def k0m0 : Method := { name := "<init>", desc := "()V", sig := { parameters := [], returnType := none }, accessFlags := 1, code := none }
/-- java/lang/Object -/
def k0 : Class := { plain "java/lang/Object" none with
  accessFlags := 33
  interfaces := #[]
  cf := some (fileOf pool0 8 #[] #[{ accessFlags := 1, nameIndex := 5, descriptorIndex := 6, attributes := #[] }] 33 0 #[] #[])
  fields := #[]
  methods := #[k0m0]
  instanceTypes := #[]
  staticTypes := #[]
  resolved := Array.replicate 124 none
  statics := none }

def pool1 : Array CpInfo := pool [(2, .class_ 4), (1, u "java/lang/Object"), (0, u "<init>"), (0, u "()V"), (0, .class_ 8), (0, u "com/example/rollcalldb/rollcalldb/resp/Decimal"), (0, .methodref 7 10), (0, .nameAndType 11 12), (0, u "format"), (0, u "(J[B)I"), (2, .long 9223372036854775808), (1, .methodref 7 18), (0, .nameAndType 19 20), (0, u "parse"), (0, u "([BII)J"), (0, .long 922337203685477580), (1, .class_ 24), (0, u "com/example/rollcalldb/rollcalldb/resp/DecimalFormatPinLaw"), (2, u "law"), (0, u "(JI)Z")] 5

def k1m0 : Method := { name := "<init>", desc := "()V", sig := { parameters := [], returnType := none }, accessFlags := 1, code := none }
def k1c1 : Code := { maxStack := 4, maxLocals := 8, code := code, exceptionTable := #[], attributes := #[] }
def k1m1 : Method := { name := "law", desc := "(JI)Z", sig := { parameters := [.long, .int], returnType := some .boolean }, accessFlags := 9, code := some k1c1 }
/-- com/example/rollcalldb/rollcalldb/resp/DecimalFormatPinLaw -/
def k1 : Class := { plain "com/example/rollcalldb/rollcalldb/resp/DecimalFormatPinLaw" (some 0) with
  accessFlags := 49
  interfaces := #[]
  cf := some (fileOf pool1 23 #[] #[{ accessFlags := 1, nameIndex := 5, descriptorIndex := 6, attributes := #[] }, { accessFlags := 9, nameIndex := 27, descriptorIndex := 28, attributes := #[] }] 49 2 #[] #[])
  fields := #[]
  methods := #[k1m0, k1m1]
  instanceTypes := #[]
  staticTypes := #[]
  resolved := Array.replicate 34 none
  statics := none }

def pool2 : Array CpInfo := pool [(4, .class_ 6), (1, u "java/lang/Object"), (0, u "<init>"), (0, u "()V"), (0, .class_ 10), (0, u "com/example/rollcalldb/rollcalldb/resp/Decimal"), (0, .long 9223372036854775808), (1, .long 9223372036854775807), (1, .long 10), (1, .long 48), (1, u "NOT_A_NUMBER"), (0, u "J"), (1, u "MAX_LENGTH"), (0, u "I"), (3, u "parse"), (0, u "([BII)J"), (1, u "format"), (0, u "(J[B)I")] 2

def k2m0 : Method := { name := "<init>", desc := "()V", sig := { parameters := [], returnType := none }, accessFlags := 2, code := none }
def k2c1 : Code := { maxStack := 6, maxLocals := 9, code := prog_28_method_2_code, exceptionTable := #[], attributes := #[] }
def k2m1 : Method := { name := "parse", desc := "([BII)J", sig := { parameters := [(.array .byte), .int, .int], returnType := some .long }, accessFlags := 8, code := some k2c1 }
def k2c2 : Code := { maxStack := 8, maxLocals := 6, code := prog_28_method_3_code, exceptionTable := #[], attributes := #[] }
def k2m2 : Method := { name := "format", desc := "(J[B)I", sig := { parameters := [.long, (.array .byte)], returnType := some .int }, accessFlags := 8, code := some k2c2 }
/-- com/example/rollcalldb/rollcalldb/resp/Decimal -/
def k2 : Class := { plain "com/example/rollcalldb/rollcalldb/resp/Decimal" (some 0) with
  accessFlags := 32
  interfaces := #[]
  cf := some (fileOf pool2 9 #[] #[{ accessFlags := 2, nameIndex := 7, descriptorIndex := 8, attributes := #[] }, { accessFlags := 8, nameIndex := 27, descriptorIndex := 28, attributes := #[] }, { accessFlags := 8, nameIndex := 30, descriptorIndex := 31, attributes := #[] }] 32 4 #[] #[{ accessFlags := 24, nameIndex := 19, descriptorIndex := 20, attributes := #[] }, { accessFlags := 24, nameIndex := 22, descriptorIndex := 23, attributes := #[] }])
  fields := #[{ name := "NOT_A_NUMBER", type := .long, accessFlags := 24, slot := 0, constantValue := 0 }, { name := "MAX_LENGTH", type := .int, accessFlags := 24, slot := 1, constantValue := 0 }]
  methods := #[k2m0, k2m1, k2m2]
  instanceTypes := #[]
  staticTypes := #[.long, .int]
  resolved := Array.replicate 34 none
  statics := none }

def pool3 : Array CpInfo := pool [(1, u "java/lang/Cloneable"), (0, .class_ 1), (0, u "java/lang/Object"), (0, .class_ 3)] 3

/-- java/lang/Cloneable -/
def k3 : Class := { plain "java/lang/Cloneable" (some 0) with
  accessFlags := 1537
  interfaces := #[]
  cf := some (fileOf pool3 2 #[] #[] 1537 4 #[] #[])
  fields := #[]
  methods := #[]
  instanceTypes := #[]
  staticTypes := #[]
  resolved := Array.replicate 8 none
  statics := none }

def pool4 : Array CpInfo := pool [(1, u "java/io/Serializable"), (0, .class_ 1), (0, u "java/lang/Object"), (0, .class_ 3)] 3

/-- java/io/Serializable -/
def k4 : Class := { plain "java/io/Serializable" (some 0) with
  accessFlags := 1537
  interfaces := #[]
  cf := some (fileOf pool4 2 #[] #[] 1537 4 #[] #[])
  fields := #[]
  methods := #[]
  instanceTypes := #[]
  staticTypes := #[]
  resolved := Array.replicate 8 none
  statics := none }

/-- the primitive byte -/
def k5 : Class := { plain "byte" none with kind := .primitive 'B', accessFlags := 0x411 }
/-- [B -/
def k6 : Class := { plain "[B" (some 0) with kind := .array 5 .byte, interfaces := #[3, 4], accessFlags := 1041 }

/-- the primitive int -/
def k7 : Class := { plain "int" none with kind := .primitive 'I', accessFlags := 0x411 }
/-- [I -/
def k8 : Class := { plain "[I" (some 0) with kind := .array 7 .int, interfaces := #[3, 4], accessFlags := 1041 }

def heap : Heap := #[]
def classes : Array Class := #[k0, k1, k2, k3, k4, k5, k6, k7, k8]
def interned : List (Array UInt16 × Addr) := []
def slotsUsed : Nat := 0
def theMethod : MethodId := ⟨1, 1⟩
def args0 : Array Value := #[.long 5, .int 6]
def aboutOver (below : List Frame) : State where
  vm := { classes := classes, interned := interned.toArray }
  heap := heap
  slotsUsed := slotsUsed
  threads := #[{ frames := .invoking theMethod args0 :: below }]
def below0 : List Frame := [.native { method := ⟨0, 0⟩, args := #[] }]
def about1 : State := aboutOver below0
def p0 : Program := .bare "" "" ""
def e0 : Env := launch0.env 0 0 0
theorem w_frames : about1.frames = Frame.invoking theMethod args0 :: below0 := rfl
set_option maxRecDepth 65536 in
theorem w_args : argsFit about1.vm theMethod args0 = true := by decide +kernel
set_option maxRecDepth 65536 in
theorem w_heap : heapFits about1 = true := by decide +kernel
set_option maxRecDepth 65536 in
theorem w_runnable : about1.curStatus? = some .runnable := by decide +kernel
set_option maxRecDepth 65536 in
theorem w_alone : about1.alone = true := by decide +kernel
set_option maxRecDepth 65536 in
theorem w_named : about1.methodNamed? x = some theMethod := by decide +kernel
set_option maxRecDepth 65536 in
theorem w_hears : about1.hears theMethod below0 = true := by decide +kernel
set_option maxRecDepth 65536 in
theorem w_ripe : about1.ripe theMethod args0 below0 = true := by decide +kernel
theorem w_running : about1.status = .running := rfl
set_option maxRecDepth 65536 in
theorem w_room : about1.hasRoom e0.platform room_1 = true :=
  launch0.hasRoom_least _ room_1 (by decide +kernel) (by decide +kernel) (by decide +kernel) (by decide +kernel) (by decide +kernel) (by decide +kernel)
theorem allAtoms_all (ts : List Jvm.Cond) (a : Array Jvm.Value) (st : Jvm.State) : (allAtoms ts).before a st = ts.all (fun c => c.before a st) := by
  induction ts with
  | nil => rfl
  | cons c t ih =>
    show (Jvm.Cond.and c (allAtoms t)).before a st = _
    rw [Jvm.Cond.before_and, ih, List.all_cons]
def words1 : List Jvm.Cond := Jvm.Cond.code x code maxLocals ret :: tables_1
/-- a 'code' word, met by the world's own term for the bytes: nothing is compared byte by byte -/
theorem code_word {y : MethodName} {bytes : ByteArray} {mx : Nat} {rt : Option FieldType} {a : Array Value} {s : State} {m : MethodId} {meth : Method} {c : Code} (h1 : s.methodNamed? y = some m) (h2 : s.vm.method? m = some meth) (h3 : meth.code = some c) (h4 : c.code = bytes)
    (h5 : (c.maxLocals == mx && c.exceptionTable.isEmpty && decide (c.maxStack ≤ mostOperands) && decide (meth.sig.returnType = rt) && !meth.locks && decide (parseMethodDescriptor y.desc = some meth.sig)) = true) : (Jvm.Cond.code y bytes mx rt).before a s = true := by
  simp only [Bool.and_eq_true, beq_iff_eq, Bool.not_eq_true', decide_eq_true_eq] at h5
  obtain ⟨⟨⟨⟨⟨g1, g2⟩, g3⟩, g4⟩, g5⟩, g6⟩ := h5
  simp [Cond.before, Cond.holds, Cond.value, h1, h2, h3, h4, g1, g2, g3, g4, g5, g6]
def isCode : Jvm.Cond → Bool
  | .code _ _ _ _ => true
  | _ => false
theorem all_split {L : List Jvm.Cond} {P : Jvm.Cond → Bool} (h1 : L.all (fun c => isCode c || P c) = true) (h2 : ∀ c ∈ L.filter isCode, P c = true) : L.all P = true := by
  refine List.all_eq_true.mpr fun c hc => ?_
  have h := List.all_eq_true.mp h1 c hc
  rcases Bool.eq_false_or_eq_true (isCode c) with hi | hi
  · exact h2 c (List.mem_filter.mpr ⟨hc, hi⟩)
  · simpa [hi] using h
set_option maxRecDepth 65536 in
theorem w_c0 : (Jvm.Cond.code x code maxLocals ret).before args0 about1 = true := code_word (m := ⟨1, 1⟩) (meth := k1m1) (c := k1c1) (by decide +kernel) rfl rfl rfl (by decide +kernel)
set_option maxRecDepth 65536 in
theorem w_c1 : (Jvm.Cond.code ({ cls := "com/example/rollcalldb/rollcalldb/resp/Decimal", name := "format", desc := "(J[B)I" } : Jvm.MethodName) prog_28_method_3_code (6 : Nat) (Option.some Jvm.ClassFile.FieldType.int)).before args0 about1 = true := code_word (m := ⟨2, 2⟩) (meth := k2m2) (c := k2c2) (by decide +kernel) rfl rfl rfl (by decide +kernel)
set_option maxRecDepth 65536 in
theorem w_c2 : (Jvm.Cond.code ({ cls := "com/example/rollcalldb/rollcalldb/resp/Decimal", name := "parse", desc := "([BII)J" } : Jvm.MethodName) prog_28_method_2_code (9 : Nat) (Option.some Jvm.ClassFile.FieldType.long)).before args0 about1 = true := code_word (m := ⟨2, 1⟩) (meth := k2m1) (c := k2c1) (by decide +kernel) rfl rfl rfl (by decide +kernel)
def codes1 : List Jvm.Cond := [Jvm.Cond.code x code maxLocals ret, Jvm.Cond.code ({ cls := "com/example/rollcalldb/rollcalldb/resp/Decimal", name := "format", desc := "(J[B)I" } : Jvm.MethodName) prog_28_method_3_code (6 : Nat) (Option.some Jvm.ClassFile.FieldType.int), Jvm.Cond.code ({ cls := "com/example/rollcalldb/rollcalldb/resp/Decimal", name := "parse", desc := "([BII)J" } : Jvm.MethodName) prog_28_method_2_code (9 : Nat) (Option.some Jvm.ClassFile.FieldType.long)]
set_option maxRecDepth 65536 in
theorem codes_eq : words1.filter isCode = codes1 := rfl
theorem w_codes : ∀ c ∈ words1.filter isCode, c.before args0 about1 = true := by
  rw [codes_eq]
  intro c hc
  simp only [codes1, List.mem_cons, List.not_mem_nil, or_false] at hc
  rcases hc with rfl | rfl | rfl
  · exact w_c0
  · exact w_c1
  · exact w_c2
set_option maxRecDepth 65536 in
theorem w_t1 : words1.all (fun c => isCode c || c.before args0 about1) = true := by decide +kernel
theorem w_tables : (allAtoms (Jvm.Cond.code x code maxLocals ret :: tables_1)).before args0 about1 = true := by
  rw [allAtoms_all]
  show words1.all (fun c => c.before args0 about1) = true
  refine all_split ?_ w_codes
  rw [w_t1]
set_option maxRecDepth 65536 in
theorem w_case : (Jvm.Cond.and given_1 narrow_1).before args0 about1 = true := by decide +kernel
theorem w_applies : (headSpec (Jvm.Cond.code x code maxLocals ret :: tables_1) room_1).applies x e0.platform about1 = true :=
  (Spec.applies_iff w_frames).mpr ⟨w_running, w_runnable, w_alone, w_named, w_hears, w_ripe, w_room, w_tables⟩
theorem atStart : AtStart classFile x code maxLocals ret World_1 tables_1 room_1 Calls_1 rest_1 Pre_1 launch0 p0 e0 about1 theMethod args0 below0 :=
  ⟨lists_1, trivial, launch0.admits_env _ _ _, launch0.least_env, fairChoices_fair.cas, fairChoices_fair.clock, w_frames, w_args, w_heap, w_applies, trivial, trivial, w_case⟩
end start1
theorem witness_1 : WitnessClaimed_1 := ⟨start1.p0, start1.e0, start1.about1, start1.theMethod, start1.args0, start1.below0, start1.atStart⟩
end Jvm.Pilot.@@N@@
