import JvmDerived
import JvmDerived.Pilot.@@N@@Statement
import JvmDerived.Pilot.@@N@@Code
set_option linter.unusedVariables false
set_option linter.unusedSimpArgs false
namespace Jvm.RoadKit
open Sem ClassFile Op Lib Jvm.Stand Jvm.Free Jvm.LawKit
section New
variable {p : Program} {l : Launch} {e : Env} {R : Room} {s : State} {m : MethodId} {args : Array Value} {below : List Frame} {meth : Method} {c : Code} {T : State} {locs : List Loc} {cells slots : Nat}
theorem retI (X : Stand p l e R s m args below meth c T locs cells slots) (hx : p.tables.exec = Jvm.exec) {pc : Nat} {Ls : Array Slot} {z : Int32} {rest : List Value} (hret : meth.sig.returnType = some .int) (hd : decode c.code pc = .ok (.ireturn, 1)) {fs : List Frame}
    (hl : ∀ (f : JFrame) (acts : List Action), f.method = m → f.locked = none → f.entered = [] → (doReturn e (T.setTop f) acts (some (.int z))).1 = T.setFrames fs) : Steps p.tables e below (T.setTop (mkF m pc Ls (.int z :: rest))) (T.setFrames fs) := by
  have hm' : T.vm.method? m = some meth := X.method'
  have hn : narrow .int (.int z) = .int z := rfl
  show Steps p.tables e below (T.setTop { method := m, pc := pc, locals := Ls, stack := _ :: rest, locked := none }) _
  jvm_step X.here [X.here.top, hx, hd, hm', hret, hn]
  first | (intro acts; rw [hl _ acts rfl rfl rfl]) | rw [hl _ _ rfl rfl rfl]
  exact Steps.refl _
end New
end Jvm.RoadKit
namespace Jvm.Pilot.@@N@@
open Jvm Jvm.ClassFile Sem Op Lib Jvm.Free Jvm.Stand Jvm.LawKit Jvm.RoadKit Bundle Jvm.Pilot.@@N@@.Jvm.D
def own_A (Z : State) (h : Heap) (a : Addr) (ty : FieldType) (n : Nat) (f : Nat → Value) : Prop := ∃ c : Cell, Arr Z h a c ty ∧ c.slots.size = n ∧ ∀ j, j < n → c.slots[j]? = some (f j)
section OwnA
variable {Z : State} {h h' : Heap} {a b : Addr} {ty : FieldType} {n : Nat} {f : Nat → Value} {sl : Nat} {v : Value} {ws : List Addr}
theorem own_A.lt (F : own_A Z h a ty n f) : a < h.size := by obtain ⟨c, A, -⟩ := F; exact A.lt
theorem own_A.ext (F : own_A Z h a ty n f) (E : Ext h h') : own_A Z h' a ty n f := by obtain ⟨c, A, r⟩ := F; exact ⟨c, A.ext E, r⟩
theorem own_A.other (F : own_A Z h b ty n f) (W : Wr h h' a sl v) (q : b ≠ a) : own_A Z h' b ty n f := by obtain ⟨c, A, r⟩ := F; exact ⟨c, A.other W q, r⟩
theorem own_A.keep (F : own_A Z h a ty n f) (K : Keep h h' ws) (q : a ∉ ws) : own_A Z h' a ty n f := by obtain ⟨c, A, r⟩ := F; exact ⟨c, ⟨K.2.1 a c A.1 q, A.2⟩, r⟩
theorem own_A.alike {g : Nat → Value} (F : own_A Z h a ty n f) (e : ∀ j, j < n → f j = g j) : own_A Z h a ty n g := by obtain ⟨c, A, s, r⟩ := F; exact ⟨c, A, s, fun j hj => by rw [r j hj, e j hj]⟩
theorem own_A.set (F : own_A Z h a ty n f) {k : Nat} (hk : k < n) (W : Wr h h' a k v) : own_A Z h' a ty n (fun j => if j = k then v else f j) := by
  obtain ⟨c, A, s, r⟩ := F
  refine ⟨c.setSlot k v, A.same W, by rw [sz_set, s], fun j hj => ?_⟩
  show (c.slots.setIfInBounds k v)[j]? = some (if j = k then v else f j)
  rw [Array.getElem?_setIfInBounds]
  by_cases e : k = j
  · subst e; rw [if_pos rfl, if_pos (by omega), if_pos rfl]
  · rw [if_neg e, if_neg (fun q : j = k => e q.symm), r j hj]
theorem own_A.new {k : ClassId} {z : Int32} (A : Arr Z h a (newA k ty z) ty) (e : z.toNatClampNeg = n) : own_A Z h a ty n (fun _ => defaultValue ty) := by
  refine ⟨_, A, by rw [sz_new, e], fun j hj => ?_⟩
  show (Array.replicate z.toNatClampNeg (defaultValue ty))[j]? = _
  rw [Array.getElem?_replicate, if_pos (by omega)]
end OwnA
theorem own_in {c : Cell} {j : Int32} {n k : Nat} (s : c.slots.size = n) (h0 : ¬ j < 0) (hk : j.toNatClampNeg = k) (h : k < n) : ¬ (j < 0 ∨ c.slots.size ≤ j.toNatClampNeg) := fun q => q.elim h0 fun q => by omega

def own_up (f : Nat → Value) (i : Nat) (v : Value) : Nat → Value := fun j => if j = i then v else f j
def own_B (v : Int32) : Value := .int (((v &&& (127 : Int32)) ||| (128 : Int32)).toInt8.toInt32)
def own_E (v : Int32) : Value := .int (v.toInt8.toInt32)
def own_r (v : Int32) : Int32 := ((v.toUInt32 >>> ((7 : Int32) &&& 31).toUInt32).toInt32)
def own_f : Nat → (Nat → Value) → Nat → Int32 → Nat → Value
  | 0, f, i, v => own_up f i (own_E v)
  | k + 1, f, i, v => own_f k (own_up f i (own_B v)) (i + 1) (own_r v)
def own_c : Nat → Int32 → Prop
  | 0, v => (v &&& (-128 : Int32)) = (0 : Int32)
  | k + 1, v => ¬ ((v &&& (-128 : Int32)) = (0 : Int32)) ∧ own_c k (own_r v)
def own_sh : Nat → Int32 → Int32
  | 0, v => v
  | n + 1, v => own_sh n (own_r v)
theorem own_closed : ∀ (k : Nat) (f : Nat → Value) (i : Nat) (v : Int32) (j : Nat), own_f k f i v j = if j < i then f j else if j < i + k then own_B (own_sh (j - i) v) else if j = i + k then own_E (own_sh (j - i) v) else f j := by
  intro k
  induction k with
  | zero =>
    intro f i v j
    show (if j = i then own_E v else f j) = _
    by_cases h1 : j < i
    · rw [if_neg (by omega), if_pos h1]
    · rw [if_neg h1, if_neg (by omega : ¬ j < i + 0)]
      by_cases h2 : j = i
      · subst h2; rw [if_pos rfl, if_pos (by omega), Nat.sub_self]; rfl
      · rw [if_neg h2, if_neg (by omega)]
  | succ k ih =>
    intro f i v j
    show own_f k (own_up f i (own_B v)) (i + 1) (own_r v) j = _
    rw [ih]
    by_cases h1 : j < i
    · rw [if_pos (by omega : j < i + 1), if_pos h1]; show (if j = i then _ else _) = _; rw [if_neg (by omega)]
    · rw [if_neg h1]
      by_cases h2 : j = i
      · subst h2
        rw [if_pos (by omega : j < j + 1), if_pos (by omega : j < j + (k + 1)), Nat.sub_self]; show (if j = j then _ else _) = _; rw [if_pos rfl]; rfl
      · rw [if_neg (by omega : ¬ j < i + 1)]
        have e : own_sh (j - i) v = own_sh (j - (i + 1)) (own_r v) := by
          rw [show j - i = (j - (i + 1)) + 1 by omega]; rfl
        have e2 : own_up f i (own_B v) j = f j := by show (if j = i then _ else _) = _; rw [if_neg h2]
        rw [e, e2]
        by_cases h3 : j < i + (k + 1)
        · rw [if_pos (by omega : j < i + 1 + k), if_pos h3]
        · rw [if_neg (by omega : ¬ j < i + 1 + k), if_neg h3]
          by_cases h4 : j = i + (k + 1)
          · rw [if_pos (by omega : j = i + 1 + k), if_pos h4]
          · rw [if_neg (by omega : ¬ j = i + 1 + k), if_neg h4]
theorem own_split (v : Int32) : (v &&& (127 : Int32)) + (v &&& (-128 : Int32)) = v := by
  refine Int32.toBitVec_inj.mp ?_
  have h : ∀ b : BitVec 32, (b &&& 127#32) + (b &&& (-128 : Int32).toBitVec) = b := fun b => by
    rw [BitVec.add_eq_or_of_and_eq_zero]
    · rw [← BitVec.and_or_distrib_left, show 127#32 ||| (-128 : Int32).toBitVec = BitVec.allOnes 32 by decide, BitVec.and_allOnes]
    · rw [BitVec.and_assoc, BitVec.and_comm b (-128 : Int32).toBitVec, ← BitVec.and_assoc 127#32, show 127#32 &&& (-128 : Int32).toBitVec = 0#32 by decide, BitVec.zero_and, BitVec.and_zero]
  exact h v.toBitVec
theorem own_m0 (v : Int32) (h : 0 ≤ v.toInt) : (v &&& (-128 : Int32)) = (0 : Int32) ↔ v.toInt < 128 := by
  have s := own_split v
  have e := c_mask v (127 : Int32) 7 (by decide) (by decide)
  have r := rng32 v
  constructor
  · intro q; rw [q] at s
    have s2 := congrArg Int32.toInt s
    have a := c_iadd (v &&& (127 : Int32)) (0 : Int32)
    have z : (0 : Int32).toInt = 0 := rfl
    omega
  · intro q
    refine Int32.toInt_inj.mp ?_
    have s2 := congrArg Int32.toInt s
    have a := c_iadd (v &&& (127 : Int32)) (v &&& (-128 : Int32))
    have r2 := rng32 (v &&& (-128 : Int32))
    have z : (0 : Int32).toInt = 0 := rfl
    omega
theorem own_rt (v : Int32) (h : 0 ≤ v.toInt) : (own_r v).toInt = v.toInt / 128 := by
  have e := c_iushr v (7 : Int32) 7 (by decide) (by decide)
  have r := rng32 v
  show ((v.toUInt32 >>> ((7 : Int32) &&& 31).toUInt32).toInt32).toInt = _
  rw [e]; omega
def own_k (n : Int32) : Nat := if n < (128 : Int32) then 0 else if n < (16384 : Int32) then 1 else if n < (2097152 : Int32) then 2 else if n < (268435456 : Int32) then 3 else 4
theorem own_k_lt (n : Int32) : own_k n < 5 := by unfold own_k; repeat (first | decide | split)
theorem own_ck (n : Int32) (h : 0 ≤ n.toInt) : own_c (own_k n) n := by
  have r := rng32 n
  have v1 : (own_r n).toInt = n.toInt / 128 := by exact own_rt n h
  have v2 : (own_r (own_r n)).toInt = n.toInt / 16384 := by rw [own_rt _ (by omega)]; omega
  have v3 : (own_r (own_r (own_r n))).toInt = n.toInt / 2097152 := by rw [own_rt _ (by omega)]; omega
  have v4 : (own_r (own_r (own_r (own_r n)))).toInt = n.toInt / 268435456 := by rw [own_rt _ (by omega)]; omega
  unfold own_k
  by_cases g0 : n < (128 : Int32)
  · rw [if_pos g0]
    have w0 := g0; rw [Int32.lt_iff_toInt_lt, show (128 : Int32).toInt = 128 from rfl] at w0
    exact (own_m0 n (by omega)).mpr (by omega)
  · have gg0 := g0
    by_cases g1 : n < (16384 : Int32)
    · rw [if_neg g0, if_pos g1]
      have w0 := g0; rw [Int32.lt_iff_toInt_lt, show (128 : Int32).toInt = 128 from rfl] at w0
      have w1 := g1; rw [Int32.lt_iff_toInt_lt, show (16384 : Int32).toInt = 16384 from rfl] at w1
      exact ⟨fun q => by have := (own_m0 n (by omega)).mp q; omega, (own_m0 (own_r n) (by omega)).mpr (by omega)⟩
    · have gg1 := g1
      by_cases g2 : n < (2097152 : Int32)
      · rw [if_neg g0, if_neg g1, if_pos g2]
        have w0 := g0; rw [Int32.lt_iff_toInt_lt, show (128 : Int32).toInt = 128 from rfl] at w0
        have w1 := g1; rw [Int32.lt_iff_toInt_lt, show (16384 : Int32).toInt = 16384 from rfl] at w1
        have w2 := g2; rw [Int32.lt_iff_toInt_lt, show (2097152 : Int32).toInt = 2097152 from rfl] at w2
        exact ⟨fun q => by have := (own_m0 n (by omega)).mp q; omega, ⟨fun q => by have := (own_m0 (own_r n) (by omega)).mp q; omega, (own_m0 (own_r (own_r n)) (by omega)).mpr (by omega)⟩⟩
      · have gg2 := g2
        by_cases g3 : n < (268435456 : Int32)
        · rw [if_neg g0, if_neg g1, if_neg g2, if_pos g3]
          have w0 := g0; rw [Int32.lt_iff_toInt_lt, show (128 : Int32).toInt = 128 from rfl] at w0
          have w1 := g1; rw [Int32.lt_iff_toInt_lt, show (16384 : Int32).toInt = 16384 from rfl] at w1
          have w2 := g2; rw [Int32.lt_iff_toInt_lt, show (2097152 : Int32).toInt = 2097152 from rfl] at w2
          have w3 := g3; rw [Int32.lt_iff_toInt_lt, show (268435456 : Int32).toInt = 268435456 from rfl] at w3
          exact ⟨fun q => by have := (own_m0 n (by omega)).mp q; omega, ⟨fun q => by have := (own_m0 (own_r n) (by omega)).mp q; omega, ⟨fun q => by have := (own_m0 (own_r (own_r n)) (by omega)).mp q; omega, (own_m0 (own_r (own_r (own_r n))) (by omega)).mpr (by omega)⟩⟩⟩
        · have gg3 := g3
          rw [if_neg g0, if_neg g1, if_neg g2, if_neg g3]
          have w0 := g0; rw [Int32.lt_iff_toInt_lt, show (128 : Int32).toInt = 128 from rfl] at w0
          have w1 := g1; rw [Int32.lt_iff_toInt_lt, show (16384 : Int32).toInt = 16384 from rfl] at w1
          have w2 := g2; rw [Int32.lt_iff_toInt_lt, show (2097152 : Int32).toInt = 2097152 from rfl] at w2
          have w3 := g3; rw [Int32.lt_iff_toInt_lt, show (268435456 : Int32).toInt = 268435456 from rfl] at w3
          exact ⟨fun q => by have := (own_m0 n (by omega)).mp q; omega, ⟨fun q => by have := (own_m0 (own_r n) (by omega)).mp q; omega, ⟨fun q => by have := (own_m0 (own_r (own_r n)) (by omega)).mp q; omega, ⟨fun q => by have := (own_m0 (own_r (own_r (own_r n))) (by omega)).mp q; omega, (own_m0 (own_r (own_r (own_r (own_r n)))) (by omega)).mpr (by omega)⟩⟩⟩⟩
theorem own_u0 (v : Int32) : ((v.toUInt32 >>> ((0 : Int32) &&& 31).toUInt32).toInt32) = v := by
  refine Int32.toBitVec_inj.mp ?_
  show v.toBitVec >>> _ = v.toBitVec
  exact BitVec.eq_of_toNat_eq (by first | rfl | simp)
theorem own_s1 (v : Int32) : own_sh 1 v = ((v.toUInt32 >>> ((7 : Int32) &&& 31).toUInt32).toInt32) := by
  refine Int32.toInt_inj.mp ?_
  rw [c_iushr v (7 : Int32) 7 (by decide) (by decide)]
  have r := rng32 v
  have a0 := c_iushr v (7 : Int32) 7 (by decide) (by decide)
  show ((v.toUInt32 >>> ((7 : Int32) &&& 31).toUInt32).toInt32).toInt = _
  omega
theorem own_s2 (v : Int32) : own_sh 2 v = ((v.toUInt32 >>> ((14 : Int32) &&& 31).toUInt32).toInt32) := by
  refine Int32.toInt_inj.mp ?_
  rw [c_iushr v (14 : Int32) 14 (by decide) (by decide)]
  have r := rng32 v
  have a0 := c_iushr v (7 : Int32) 7 (by decide) (by decide)
  have a1 := c_iushr ((v.toUInt32 >>> ((7 : Int32) &&& 31).toUInt32).toInt32) (7 : Int32) 7 (by decide) (by decide)
  show ((((v.toUInt32 >>> ((7 : Int32) &&& 31).toUInt32).toInt32).toUInt32 >>> ((7 : Int32) &&& 31).toUInt32).toInt32).toInt = _
  omega
theorem own_s3 (v : Int32) : own_sh 3 v = ((v.toUInt32 >>> ((21 : Int32) &&& 31).toUInt32).toInt32) := by
  refine Int32.toInt_inj.mp ?_
  rw [c_iushr v (21 : Int32) 21 (by decide) (by decide)]
  have r := rng32 v
  have a0 := c_iushr v (7 : Int32) 7 (by decide) (by decide)
  have a1 := c_iushr ((v.toUInt32 >>> ((7 : Int32) &&& 31).toUInt32).toInt32) (7 : Int32) 7 (by decide) (by decide)
  have a2 := c_iushr ((((v.toUInt32 >>> ((7 : Int32) &&& 31).toUInt32).toInt32).toUInt32 >>> ((7 : Int32) &&& 31).toUInt32).toInt32) (7 : Int32) 7 (by decide) (by decide)
  show ((((((v.toUInt32 >>> ((7 : Int32) &&& 31).toUInt32).toInt32).toUInt32 >>> ((7 : Int32) &&& 31).toUInt32).toInt32).toUInt32 >>> ((7 : Int32) &&& 31).toUInt32).toInt32).toInt = _
  omega
theorem own_s4 (v : Int32) : own_sh 4 v = ((v.toUInt32 >>> ((28 : Int32) &&& 31).toUInt32).toInt32) := by
  refine Int32.toInt_inj.mp ?_
  rw [c_iushr v (28 : Int32) 28 (by decide) (by decide)]
  have r := rng32 v
  have a0 := c_iushr v (7 : Int32) 7 (by decide) (by decide)
  have a1 := c_iushr ((v.toUInt32 >>> ((7 : Int32) &&& 31).toUInt32).toInt32) (7 : Int32) 7 (by decide) (by decide)
  have a2 := c_iushr ((((v.toUInt32 >>> ((7 : Int32) &&& 31).toUInt32).toInt32).toUInt32 >>> ((7 : Int32) &&& 31).toUInt32).toInt32) (7 : Int32) 7 (by decide) (by decide)
  have a3 := c_iushr ((((((v.toUInt32 >>> ((7 : Int32) &&& 31).toUInt32).toInt32).toUInt32 >>> ((7 : Int32) &&& 31).toUInt32).toInt32).toUInt32 >>> ((7 : Int32) &&& 31).toUInt32).toInt32) (7 : Int32) 7 (by decide) (by decide)
  show ((((((((v.toUInt32 >>> ((7 : Int32) &&& 31).toUInt32).toInt32).toUInt32 >>> ((7 : Int32) &&& 31).toUInt32).toInt32).toUInt32 >>> ((7 : Int32) &&& 31).toUInt32).toInt32).toUInt32 >>> ((7 : Int32) &&& 31).toUInt32).toInt32).toInt = _
  omega
theorem own_sa (v : Int32) : ∀ q, q < 5 → own_sh q v = ((v.toUInt32 >>> ((Int32.ofNat (7 * q)) &&& 31).toUInt32).toInt32)
  | 0, _ => (own_u0 v).symm
  | 1, _ => own_s1 v
  | 2, _ => own_s2 v
  | 3, _ => own_s3 v
  | 4, _ => own_s4 v
  | q + 5, h => absurd h (by omega)
theorem own_nat (a : Nat) (h : a < 1000) : (Int32.ofNat a).toInt = a := by
  rw [Int32.toInt_ofNat', show Int32.size = 4294967296 from rfl, Int.bmod_def]; omega
theorem own_diff (j a : Nat) (h1 : j < 100) (h2 : a < 100) : (Int32.ofNat j - Int32.ofNat a).toInt = (j : Int) - a := by
  have e1 := own_nat j (by omega); have e2 := own_nat a (by omega)
  have e := c_isub (Int32.ofNat j) (Int32.ofNat a); have r := rng32 (Int32.ofNat j - Int32.ofNat a)
  omega
theorem own_seven (j a : Nat) (h1 : j < 100) (h2 : a ≤ j) : (7 : Int32) * (Int32.ofNat j - Int32.ofNat a) = Int32.ofNat (7 * (j - a)) := by
  refine Int32.toInt_inj.mp ?_
  have e := own_diff j a h1 (by omega)
  have e3 := own_nat (7 * (j - a)) (by omega)
  have q := c_imul (7 : Int32) (Int32.ofNat j - Int32.ofNat a)
  have z : (7 : Int32).toInt = 7 := rfl
  have r := rng32 ((7 : Int32) * (Int32.ofNat j - Int32.ofNat a))
  rw [z, e] at q
  omega
theorem own_clamp (a : Nat) (h : a < 1000) : (Int32.ofNat a).toNatClampNeg = a := by
  show (Int32.ofNat a).toInt.toNat = a
  rw [own_nat a h]; rfl
theorem own_nn (a : Nat) (h : a < 1000) : ¬ (Int32.ofNat a < 0) := fun q => by
  rw [Int32.lt_iff_toInt_lt, own_nat a h] at q
  have z : (0 : Int32).toInt = 0 := rfl
  omega
theorem own_succ (a : Nat) : Int32.ofNat a + (1 : Int32) = Int32.ofNat (a + 1) := by rw [Int32.ofNat_add]; rfl
theorem own_nar (y : Int32) : nar .byte (y.toInt8.toInt32) = y.toInt8.toInt32 := by
  show (y.toInt8.toInt32).toInt8.toInt32 = y.toInt8.toInt32
  rw [Int8.toInt8_toInt32]
def own_want (j a n : Int32) (v : Int32) (fl : Int32) : Int32 := if (j - a) < (0 : Int32) then fl else if (j - a) < n then (if (j - a) < (n - (1 : Int32)) then (((((v.toUInt32 >>> (((7 : Int32) * (j - a)) &&& 31).toUInt32).toInt32) &&& (127 : Int32)) ||| (128 : Int32)).toInt8.toInt32) else (((v.toUInt32 >>> (((7 : Int32) * (j - a)) &&& 31).toUInt32).toInt32).toInt8.toInt32)) else fl
theorem own_key (v : Int32) (fl : Int32) (a k j : Nat) (ha : a < 3) (hk : k < 5) (hj : j < 7) : own_f k (fun _ => .int fl) a v j = .int (own_want (Int32.ofNat j) (Int32.ofNat a) (Int32.ofNat (k + 1)) v fl) := by
  have d := own_diff j a (by omega) (by omega)
  have z : (0 : Int32).toInt = 0 := rfl
  have z1 : (1 : Int32).toInt = 1 := rfl
  have kn := own_nat (k + 1) (by omega)
  have k1 : (Int32.ofNat (k + 1) - (1 : Int32)).toInt = k := by
    have e := c_isub (Int32.ofNat (k + 1)) (1 : Int32); have r := rng32 (Int32.ofNat (k + 1) - (1 : Int32))
    omega
  have a0 : (Int32.ofNat j - Int32.ofNat a < (0 : Int32)) ↔ j < a := by rw [Int32.lt_iff_toInt_lt]; omega
  have a1 : (Int32.ofNat j - Int32.ofNat a < Int32.ofNat (k + 1)) ↔ j < a + k + 1 := by rw [Int32.lt_iff_toInt_lt]; omega
  have a2 : (Int32.ofNat j - Int32.ofNat a < Int32.ofNat (k + 1) - (1 : Int32)) ↔ j < a + k := by rw [Int32.lt_iff_toInt_lt]; omega
  rw [own_closed]
  unfold own_want
  by_cases h1 : j < a
  · rw [if_pos h1, if_pos (a0.mpr h1)]
  · rw [if_neg h1, if_neg (fun q => h1 (a0.mp q))]
    by_cases h2 : j < a + k
    · rw [if_pos h2, if_pos (a1.mpr (by omega)), if_pos (a2.mpr h2), own_seven j a (by omega) (by omega), own_sa v (j - a) (by omega)]; rfl
    · rw [if_neg h2]
      by_cases h3 : j = a + k
      · rw [if_pos h3, if_pos (a1.mpr (by omega)), if_neg (fun q => h2 (a2.mp q)), own_seven j a (by omega) (by omega), own_sa v (j - a) (by omega)]; rfl
      · rw [if_neg h3, if_neg (fun q => by have := a1.mp q; omega)]
def own_n (p q : Int32) : Int32 := (((p &&& (2147483647 : Int32)).toUInt32 >>> ((q &&& (31 : Int32)) &&& 31).toUInt32).toInt32)
def own_a (p : Int32) : Int32 := (p &&& (2147483647 : Int32)) % (3 : Int32)
def own_fl (p : Int32) : Int32 := p.toInt8.toInt32
def own_len (n : Int32) : Int32 := Int32.ofNat (own_k n + 1)
theorem own_ushr (y : Int32) (w : UInt32) (h : 0 ≤ y.toInt) : 0 ≤ ((y.toUInt32 >>> w).toInt32).toInt := by
  have e : ((y.toUInt32 >>> w).toInt32).toBitVec.toNat = y.toBitVec.toNat >>> (w.toNat % 32) := by
    show (y.toUInt32 >>> w).toNat = _
    rw [UInt32.toNat_shiftRight]; rfl
  have e2 : y.toInt = y.toBitVec.toInt := rfl
  show 0 ≤ ((y.toUInt32 >>> w).toInt32).toBitVec.toInt
  have l1 := y.toBitVec.isLt
  rw [e2, BitVec.toInt_eq_toNat_cond] at h
  have l2 : y.toBitVec.toNat >>> (w.toNat % 32) ≤ y.toBitVec.toNat := Nat.shiftRight_le _ _
  rw [BitVec.toInt_eq_toNat_cond, e]
  split at h
  · rw [if_pos (by omega)]; omega
  · omega
theorem own_n0 (p q : Int32) : 0 ≤ (own_n p q).toInt := by
  have e := c_mask p (2147483647 : Int32) 31 (by decide) (by decide)
  exact own_ushr _ _ (by omega)
theorem own_ax (p : Int32) : ∃ a : Nat, a < 3 ∧ own_a p = Int32.ofNat a := by
  have e := c_mask p (2147483647 : Int32) 31 (by decide) (by decide)
  have q := (c_irem (p &&& (2147483647 : Int32)) (3 : Int32) 3 rfl).1 (by omega)
  refine ⟨(own_a p).toInt.toNat, ?_, Int32.toInt_inj.mp ?_⟩
  · show ((p &&& (2147483647 : Int32)) % (3 : Int32)).toInt.toNat < 3; omega
  · have q2 : (own_a p).toInt = (p &&& (2147483647 : Int32)).toInt % 3 := q
    rw [own_nat _ (by omega)]; omega
theorem d1_0 : decode prog_179_method_2_code 0 = .ok (.iload_n 1, 1) := by decide +kernel
theorem d1_1 : decode prog_179_method_2_code 1 = .ok (.istore_n 3, 1) := by decide +kernel
theorem d1_2 : decode prog_179_method_2_code 2 = .ok (.iload_n 2, 1) := by decide +kernel
theorem d1_3 : decode prog_179_method_2_code 3 = .ok (.istore 4, 2) := by decide +kernel
theorem d1_5 : decode prog_179_method_2_code 5 = .ok (.iload 4, 2) := by decide +kernel
theorem d1_7 : decode prog_179_method_2_code 7 = .ok (.bipush (-128), 2) := by decide +kernel
theorem d1_9 : decode prog_179_method_2_code 9 = .ok (.iand, 1) := by decide +kernel
theorem d1_10 : decode prog_179_method_2_code 10 = .ok (.ifCond .eq 29, 3) := by decide +kernel
theorem d1_13 : decode prog_179_method_2_code 13 = .ok (.aload_n 0, 1) := by decide +kernel
theorem d1_14 : decode prog_179_method_2_code 14 = .ok (.iload_n 3, 1) := by decide +kernel
theorem d1_15 : decode prog_179_method_2_code 15 = .ok (.iinc 3 1, 3) := by decide +kernel
theorem d1_18 : decode prog_179_method_2_code 18 = .ok (.iload 4, 2) := by decide +kernel
theorem d1_20 : decode prog_179_method_2_code 20 = .ok (.bipush 127, 2) := by decide +kernel
theorem d1_22 : decode prog_179_method_2_code 22 = .ok (.iand, 1) := by decide +kernel
theorem d1_23 : decode prog_179_method_2_code 23 = .ok (.sipush 128, 3) := by decide +kernel
theorem d1_26 : decode prog_179_method_2_code 26 = .ok (.ior, 1) := by decide +kernel
theorem d1_27 : decode prog_179_method_2_code 27 = .ok (.i2b, 1) := by decide +kernel
theorem d1_28 : decode prog_179_method_2_code 28 = .ok (.bastore, 1) := by decide +kernel
theorem d1_29 : decode prog_179_method_2_code 29 = .ok (.iload 4, 2) := by decide +kernel
theorem d1_31 : decode prog_179_method_2_code 31 = .ok (.bipush 7, 2) := by decide +kernel
theorem d1_33 : decode prog_179_method_2_code 33 = .ok (.iushr, 1) := by decide +kernel
theorem d1_34 : decode prog_179_method_2_code 34 = .ok (.istore 4, 2) := by decide +kernel
theorem d1_36 : decode prog_179_method_2_code 36 = .ok (.goto (-31), 3) := by decide +kernel
theorem d1_39 : decode prog_179_method_2_code 39 = .ok (.aload_n 0, 1) := by decide +kernel
theorem d1_40 : decode prog_179_method_2_code 40 = .ok (.iload_n 3, 1) := by decide +kernel
theorem d1_41 : decode prog_179_method_2_code 41 = .ok (.iinc 3 1, 3) := by decide +kernel
theorem d1_44 : decode prog_179_method_2_code 44 = .ok (.iload 4, 2) := by decide +kernel
theorem d1_46 : decode prog_179_method_2_code 46 = .ok (.i2b, 1) := by decide +kernel
theorem d1_47 : decode prog_179_method_2_code 47 = .ok (.bastore, 1) := by decide +kernel
theorem d1_48 : decode prog_179_method_2_code 48 = .ok (.iload_n 3, 1) := by decide +kernel
theorem d1_49 : decode prog_179_method_2_code 49 = .ok (.ireturn, 1) := by decide +kernel
theorem d2_0 : decode method_3_code 0 = .ok (.iload_n 1, 1) := by decide +kernel
theorem d2_1 : decode method_3_code 1 = .ok (.iload_n 2, 1) := by decide +kernel
theorem d2_2 : decode method_3_code 2 = .ok (.isub, 1) := by decide +kernel
theorem d2_3 : decode method_3_code 3 = .ok (.istore 6, 2) := by decide +kernel
theorem d2_5 : decode method_3_code 5 = .ok (.iload 6, 2) := by decide +kernel
theorem d2_7 : decode method_3_code 7 = .ok (.ifCond .lt 9, 3) := by decide +kernel
theorem d2_10 : decode method_3_code 10 = .ok (.iload 6, 2) := by decide +kernel
theorem d2_12 : decode method_3_code 12 = .ok (.iload_n 3, 1) := by decide +kernel
theorem d2_13 : decode method_3_code 13 = .ok (.if_icmp .lt 10, 3) := by decide +kernel
theorem d2_16 : decode method_3_code 16 = .ok (.iload 5, 2) := by decide +kernel
theorem d2_18 : decode method_3_code 18 = .ok (.istore 7, 2) := by decide +kernel
theorem d2_20 : decode method_3_code 20 = .ok (.goto 43, 3) := by decide +kernel
theorem d2_23 : decode method_3_code 23 = .ok (.iload 6, 2) := by decide +kernel
theorem d2_25 : decode method_3_code 25 = .ok (.iload_n 3, 1) := by decide +kernel
theorem d2_26 : decode method_3_code 26 = .ok (.iconst 1, 1) := by decide +kernel
theorem d2_27 : decode method_3_code 27 = .ok (.isub, 1) := by decide +kernel
theorem d2_28 : decode method_3_code 28 = .ok (.if_icmp .ge 24, 3) := by decide +kernel
theorem d2_31 : decode method_3_code 31 = .ok (.iload 4, 2) := by decide +kernel
theorem d2_33 : decode method_3_code 33 = .ok (.bipush 7, 2) := by decide +kernel
theorem d2_35 : decode method_3_code 35 = .ok (.iload 6, 2) := by decide +kernel
theorem d2_37 : decode method_3_code 37 = .ok (.imul, 1) := by decide +kernel
theorem d2_38 : decode method_3_code 38 = .ok (.iushr, 1) := by decide +kernel
theorem d2_39 : decode method_3_code 39 = .ok (.bipush 127, 2) := by decide +kernel
theorem d2_41 : decode method_3_code 41 = .ok (.iand, 1) := by decide +kernel
theorem d2_42 : decode method_3_code 42 = .ok (.sipush 128, 3) := by decide +kernel
theorem d2_45 : decode method_3_code 45 = .ok (.ior, 1) := by decide +kernel
theorem d2_46 : decode method_3_code 46 = .ok (.i2b, 1) := by decide +kernel
theorem d2_47 : decode method_3_code 47 = .ok (.istore 7, 2) := by decide +kernel
theorem d2_49 : decode method_3_code 49 = .ok (.goto 14, 3) := by decide +kernel
theorem d2_52 : decode method_3_code 52 = .ok (.iload 4, 2) := by decide +kernel
theorem d2_54 : decode method_3_code 54 = .ok (.bipush 7, 2) := by decide +kernel
theorem d2_56 : decode method_3_code 56 = .ok (.iload 6, 2) := by decide +kernel
theorem d2_58 : decode method_3_code 58 = .ok (.imul, 1) := by decide +kernel
theorem d2_59 : decode method_3_code 59 = .ok (.iushr, 1) := by decide +kernel
theorem d2_60 : decode method_3_code 60 = .ok (.i2b, 1) := by decide +kernel
theorem d2_61 : decode method_3_code 61 = .ok (.istore 7, 2) := by decide +kernel
theorem d2_63 : decode method_3_code 63 = .ok (.aload_n 0, 1) := by decide +kernel
theorem d2_64 : decode method_3_code 64 = .ok (.iload_n 1, 1) := by decide +kernel
theorem d2_65 : decode method_3_code 65 = .ok (.baload, 1) := by decide +kernel
theorem d2_66 : decode method_3_code 66 = .ok (.iload 7, 2) := by decide +kernel
theorem d2_68 : decode method_3_code 68 = .ok (.if_icmp .ne 7, 3) := by decide +kernel
theorem d2_71 : decode method_3_code 71 = .ok (.iconst 1, 1) := by decide +kernel
theorem d2_72 : decode method_3_code 72 = .ok (.goto 4, 3) := by decide +kernel
theorem d2_76 : decode method_3_code 76 = .ok (.ireturn, 1) := by decide +kernel
theorem pdx_0 : parseMethodDescriptor "([BII)I" = some ⟨[(.array .byte), .int, .int], some .int⟩ := by decide +kernel
theorem pdx_1 : parseMethodDescriptor "([BIIIIB)Z" = some ⟨[(.array .byte), .int, .int, .int, .int, .byte], some .boolean⟩ := by decide +kernel
set_option maxRecDepth 65536 in
set_option maxHeartbeats 40000000 in
theorem loop1 {p : Program} {l : Launch} {e : Env} {R : Room} {s : State} {m : MethodId} {args : Array Value} {below : List Frame} {meth : Method} {c : Code} {cells slots : Nat} {Z : State} {a0 : Array Value} (b : Addr) (p1 p2 : Int32) (n0 : Nat) (g_b : n0 ≤ b) (hx : p.tables.exec = Jvm.exec) (hZ : Z.Warmed39 s.vm) (hw : ∀ d ∈ tables_1, d.before a0 Z = true) (hby : c.code = prog_179_method_2_code) (hown : s.vm.findClass "com/example/harbourline/harbourline/messages/SevenBitNumber" = some m.cls) :
    ∀ (k a : Nat) (v : Int32) (f : Nat → Value) (T0 : State) (locs : List Loc) (h0 : Heap) (X0 : Stand p l e R s m args below meth c T0 locs cells slots) (e0 : T0.heap = h0) (N0 : Fr n0 locs) (V0 : own_A Z h0 b .byte 7 f) (hak : a + k < 7) (hc : own_c k v),
    ∃ (T' : State) (h' : Heap) (locs' : List Loc) (v' : Int32), Stand p l e R s m args below meth c T' locs' cells slots ∧ T'.heap = h' ∧ Fr n0 locs' ∧ Keep h0 h' [b] ∧ own_A Z h' b .byte 7 (own_f k f a v) ∧
      ∀ target, Steps p.tables e below (T'.setTop (mkF m 48 #[.val (.ref b), .val (.int p1), .val (.int p2), .val (.int (Int32.ofNat (a + k + 1))), .val (.int v')] [])) target → Steps p.tables e below (T0.setTop (mkF m 5 #[.val (.ref b), .val (.int p1), .val (.int p2), .val (.int (Int32.ofNat a)), .val (.int v)] [])) target := by
  intro k
  induction k with
  | zero =>
    intro a v f T0 locs h0 X0 e0 N0 V0 hak hc
    obtain ⟨cl, Ar, Sz, Hs⟩ := id V0
    obtain ⟨T1, h1, X1, e1, W1, st1⟩ := stB X0 hx hZ e0 Ar (j := (Int32.ofNat a)) (own_in Sz (own_nn a (by omega)) (own_clamp a (by omega)) (by omega : a < 7)) (g := (mkF m 47 #[.val (.ref b), .val (.int p1), .val (.int p2), .val (.int ((Int32.ofNat a) + (1 : Int32))), .val (.int v)] [(.int (v.toInt8.toInt32)), (.int (Int32.ofNat a)), (.ref b)])) rfl rfl (hb hby d1_47)
    have N1 := Fr.snoc X1 N0 g_b
    rw [own_clamp a (by omega), own_nar] at W1
    have V1 := V0.set (by omega : a < 7) W1
    refine ⟨T1, h1, _, v, X1, e1, N1, Keep.of_wr W1, V1, fun target kt => ?_⟩
    show Steps p.tables e below (T0.setTop (mkF m 5 #[.val (.ref b), .val (.int p1), .val (.int p2), .val (.int (Int32.ofNat a)), .val (.int v)] [])) _
    refine XS.iload X0.here hx rfl (hb hby d1_5) rfl ?_
    show Steps p.tables e below (T0.setTop (mkF m 7 #[.val (.ref b), .val (.int p1), .val (.int p2), .val (.int (Int32.ofNat a)), .val (.int v)] [(.int v)])) _
    refine XS.bipush X0.here hx rfl (hb hby d1_7) ?_
    show Steps p.tables e below (T0.setTop (mkF m 9 #[.val (.ref b), .val (.int p1), .val (.int p2), .val (.int (Int32.ofNat a)), .val (.int v)] [(.int (-128 : Int32)), (.int v)])) _
    refine XS.iand X0.here hx rfl (hb hby d1_9) rfl ?_
    show Steps p.tables e below (T0.setTop (mkF m 10 #[.val (.ref b), .val (.int p1), .val (.int p2), .val (.int (Int32.ofNat a)), .val (.int v)] [(.int (v &&& (-128 : Int32)))])) _
    refine XS.ifYes X0.here hx rfl (pc0 := 10) (pc' := 39) rfl (hb hby d1_10) rfl ((if0 _ _).trans (teq (hc : (v &&& (-128 : Int32)) = (0 : Int32))).1) (by decide) (by decide) ?_
    show Steps p.tables e below (T0.setTop (mkF m 39 #[.val (.ref b), .val (.int p1), .val (.int p2), .val (.int (Int32.ofNat a)), .val (.int v)] [])) _
    refine XS.aloadN X0.here hx rfl (hb hby d1_39) rfl rfl ?_
    show Steps p.tables e below (T0.setTop (mkF m 40 #[.val (.ref b), .val (.int p1), .val (.int p2), .val (.int (Int32.ofNat a)), .val (.int v)] [(.ref b)])) _
    refine XS.iloadN X0.here hx rfl (hb hby d1_40) rfl ?_
    show Steps p.tables e below (T0.setTop (mkF m 41 #[.val (.ref b), .val (.int p1), .val (.int p2), .val (.int (Int32.ofNat a)), .val (.int v)] [(.int (Int32.ofNat a)), (.ref b)])) _
    refine XS.iinc X0.here hx rfl (hb hby d1_41) rfl (l' := #[.val (.ref b), .val (.int p1), .val (.int p2), .val (.int ((Int32.ofNat a) + (1 : Int32))), .val (.int v)]) rfl ?_
    show Steps p.tables e below (T0.setTop (mkF m 44 #[.val (.ref b), .val (.int p1), .val (.int p2), .val (.int ((Int32.ofNat a) + (1 : Int32))), .val (.int v)] [(.int (Int32.ofNat a)), (.ref b)])) _
    refine XS.iload X0.here hx rfl (hb hby d1_44) rfl ?_
    show Steps p.tables e below (T0.setTop (mkF m 46 #[.val (.ref b), .val (.int p1), .val (.int p2), .val (.int ((Int32.ofNat a) + (1 : Int32))), .val (.int v)] [(.int v), (.int (Int32.ofNat a)), (.ref b)])) _
    refine XS.i2b X0.here hx rfl (hb hby d1_46) rfl ?_
    show Steps p.tables e below (T0.setTop (mkF m 47 #[.val (.ref b), .val (.int p1), .val (.int p2), .val (.int ((Int32.ofNat a) + (1 : Int32))), .val (.int v)] [(.int (v.toInt8.toInt32)), (.int (Int32.ofNat a)), (.ref b)])) _
    refine st1 _ ?_
    show Steps p.tables e below (T1.setTop (mkF m 48 #[.val (.ref b), .val (.int p1), .val (.int p2), .val (.int ((Int32.ofNat a) + (1 : Int32))), .val (.int v)] [])) _
    rw [own_succ]
    exact kt
  | succ k ih =>
    intro a v f T0 locs h0 X0 e0 N0 V0 hak hc
    obtain ⟨cl, Ar, Sz, Hs⟩ := id V0
    obtain ⟨T1, h1, X1, e1, W1, st1⟩ := stB X0 hx hZ e0 Ar (j := (Int32.ofNat a)) (own_in Sz (own_nn a (by omega)) (own_clamp a (by omega)) (by omega : a < 7)) (g := (mkF m 28 #[.val (.ref b), .val (.int p1), .val (.int p2), .val (.int ((Int32.ofNat a) + (1 : Int32))), .val (.int v)] [(.int (((v &&& (127 : Int32)) ||| (128 : Int32)).toInt8.toInt32)), (.int (Int32.ofNat a)), (.ref b)])) rfl rfl (hb hby d1_28)
    have N1 := Fr.snoc X1 N0 g_b
    rw [own_clamp a (by omega), own_nar] at W1
    have V1 := V0.set (by omega : a < 7) W1
    obtain ⟨T', h', locs', v', X', e', N', K', V', st'⟩ := ih (a + 1) (own_r v) _ T1 _ h1 X1 e1 N1 V1 (by omega) hc.2
    refine ⟨T', h', locs', v', X', e', N', (Keep.of_wr W1).trans K' (fun x hx => Or.inl hx), V', fun target kt => ?_⟩
    show Steps p.tables e below (T0.setTop (mkF m 5 #[.val (.ref b), .val (.int p1), .val (.int p2), .val (.int (Int32.ofNat a)), .val (.int v)] [])) _
    refine XS.iload X0.here hx rfl (hb hby d1_5) rfl ?_
    show Steps p.tables e below (T0.setTop (mkF m 7 #[.val (.ref b), .val (.int p1), .val (.int p2), .val (.int (Int32.ofNat a)), .val (.int v)] [(.int v)])) _
    refine XS.bipush X0.here hx rfl (hb hby d1_7) ?_
    show Steps p.tables e below (T0.setTop (mkF m 9 #[.val (.ref b), .val (.int p1), .val (.int p2), .val (.int (Int32.ofNat a)), .val (.int v)] [(.int (-128 : Int32)), (.int v)])) _
    refine XS.iand X0.here hx rfl (hb hby d1_9) rfl ?_
    show Steps p.tables e below (T0.setTop (mkF m 10 #[.val (.ref b), .val (.int p1), .val (.int p2), .val (.int (Int32.ofNat a)), .val (.int v)] [(.int (v &&& (-128 : Int32)))])) _
    refine XS.ifNo X0.here hx rfl (hb hby d1_10) rfl ((if0 _ _).trans (feq (hc.1 : ¬ ((v &&& (-128 : Int32)) = (0 : Int32)))).1) ?_
    show Steps p.tables e below (T0.setTop (mkF m 13 #[.val (.ref b), .val (.int p1), .val (.int p2), .val (.int (Int32.ofNat a)), .val (.int v)] [])) _
    refine XS.aloadN X0.here hx rfl (hb hby d1_13) rfl rfl ?_
    show Steps p.tables e below (T0.setTop (mkF m 14 #[.val (.ref b), .val (.int p1), .val (.int p2), .val (.int (Int32.ofNat a)), .val (.int v)] [(.ref b)])) _
    refine XS.iloadN X0.here hx rfl (hb hby d1_14) rfl ?_
    show Steps p.tables e below (T0.setTop (mkF m 15 #[.val (.ref b), .val (.int p1), .val (.int p2), .val (.int (Int32.ofNat a)), .val (.int v)] [(.int (Int32.ofNat a)), (.ref b)])) _
    refine XS.iinc X0.here hx rfl (hb hby d1_15) rfl (l' := #[.val (.ref b), .val (.int p1), .val (.int p2), .val (.int ((Int32.ofNat a) + (1 : Int32))), .val (.int v)]) rfl ?_
    show Steps p.tables e below (T0.setTop (mkF m 18 #[.val (.ref b), .val (.int p1), .val (.int p2), .val (.int ((Int32.ofNat a) + (1 : Int32))), .val (.int v)] [(.int (Int32.ofNat a)), (.ref b)])) _
    refine XS.iload X0.here hx rfl (hb hby d1_18) rfl ?_
    show Steps p.tables e below (T0.setTop (mkF m 20 #[.val (.ref b), .val (.int p1), .val (.int p2), .val (.int ((Int32.ofNat a) + (1 : Int32))), .val (.int v)] [(.int v), (.int (Int32.ofNat a)), (.ref b)])) _
    refine XS.bipush X0.here hx rfl (hb hby d1_20) ?_
    show Steps p.tables e below (T0.setTop (mkF m 22 #[.val (.ref b), .val (.int p1), .val (.int p2), .val (.int ((Int32.ofNat a) + (1 : Int32))), .val (.int v)] [(.int (127 : Int32)), (.int v), (.int (Int32.ofNat a)), (.ref b)])) _
    refine XS.iand X0.here hx rfl (hb hby d1_22) rfl ?_
    show Steps p.tables e below (T0.setTop (mkF m 23 #[.val (.ref b), .val (.int p1), .val (.int p2), .val (.int ((Int32.ofNat a) + (1 : Int32))), .val (.int v)] [(.int (v &&& (127 : Int32))), (.int (Int32.ofNat a)), (.ref b)])) _
    refine XS.sipush X0.here hx rfl (hb hby d1_23) ?_
    show Steps p.tables e below (T0.setTop (mkF m 26 #[.val (.ref b), .val (.int p1), .val (.int p2), .val (.int ((Int32.ofNat a) + (1 : Int32))), .val (.int v)] [(.int (128 : Int32)), (.int (v &&& (127 : Int32))), (.int (Int32.ofNat a)), (.ref b)])) _
    refine XS.ior X0.here hx rfl (hb hby d1_26) rfl ?_
    show Steps p.tables e below (T0.setTop (mkF m 27 #[.val (.ref b), .val (.int p1), .val (.int p2), .val (.int ((Int32.ofNat a) + (1 : Int32))), .val (.int v)] [(.int ((v &&& (127 : Int32)) ||| (128 : Int32))), (.int (Int32.ofNat a)), (.ref b)])) _
    refine XS.i2b X0.here hx rfl (hb hby d1_27) rfl ?_
    show Steps p.tables e below (T0.setTop (mkF m 28 #[.val (.ref b), .val (.int p1), .val (.int p2), .val (.int ((Int32.ofNat a) + (1 : Int32))), .val (.int v)] [(.int (((v &&& (127 : Int32)) ||| (128 : Int32)).toInt8.toInt32)), (.int (Int32.ofNat a)), (.ref b)])) _
    refine st1 _ ?_
    show Steps p.tables e below (T1.setTop (mkF m 29 #[.val (.ref b), .val (.int p1), .val (.int p2), .val (.int ((Int32.ofNat a) + (1 : Int32))), .val (.int v)] [])) _
    refine XS.iload X1.here hx rfl (hb hby d1_29) rfl ?_
    show Steps p.tables e below (T1.setTop (mkF m 31 #[.val (.ref b), .val (.int p1), .val (.int p2), .val (.int ((Int32.ofNat a) + (1 : Int32))), .val (.int v)] [(.int v)])) _
    refine XS.bipush X1.here hx rfl (hb hby d1_31) ?_
    show Steps p.tables e below (T1.setTop (mkF m 33 #[.val (.ref b), .val (.int p1), .val (.int p2), .val (.int ((Int32.ofNat a) + (1 : Int32))), .val (.int v)] [(.int (7 : Int32)), (.int v)])) _
    refine XS.iushr X1.here hx rfl (hb hby d1_33) rfl ?_
    show Steps p.tables e below (T1.setTop (mkF m 34 #[.val (.ref b), .val (.int p1), .val (.int p2), .val (.int ((Int32.ofNat a) + (1 : Int32))), .val (.int v)] [(.int ((v.toUInt32 >>> ((7 : Int32) &&& 31).toUInt32).toInt32))])) _
    refine XS.istore X1.here hx rfl (hb hby d1_34) rfl (l' := #[.val (.ref b), .val (.int p1), .val (.int p2), .val (.int ((Int32.ofNat a) + (1 : Int32))), .val (.int ((v.toUInt32 >>> ((7 : Int32) &&& 31).toUInt32).toInt32))]) rfl ?_
    show Steps p.tables e below (T1.setTop (mkF m 36 #[.val (.ref b), .val (.int p1), .val (.int p2), .val (.int ((Int32.ofNat a) + (1 : Int32))), .val (.int ((v.toUInt32 >>> ((7 : Int32) &&& 31).toUInt32).toInt32))] [])) _
    refine XS.goto X1.here hx rfl (pc0 := 36) (pc' := 5) rfl (hb hby d1_36) (by decide) (by decide) ?_
    show Steps p.tables e below (T1.setTop (mkF m 5 #[.val (.ref b), .val (.int p1), .val (.int p2), .val (.int ((Int32.ofNat a) + (1 : Int32))), .val (.int ((v.toUInt32 >>> ((7 : Int32) &&& 31).toUInt32).toInt32))] [])) _
    rw [own_succ]
    refine st' _ ?_
    rw [show a + 1 + k + 1 = a + (k + 1) + 1 by omega]
    exact kt
theorem ef_1 (m : MethodId) (x0 : Addr) (x1 : Int32) (x2 : Int32) : entryFrame m #[(.ref x0), (.int x1), (.int x2)] 5 = mkF m 0 #[.val (.ref x0), .val (.int x1), .val (.int x2), .unset, .unset] [] := by first | (simp [entryFrame, mkF, argsToLocals, Value.category]; done) | rfl
theorem pn_1 : plainName "com/example/harbourline/harbourline/messages/SevenBitNumber" = true := by first | (simp [plainName, overriddenIn]; done) | decide +kernel
def Q1 (Z : State) (b : Addr) (i : Int32) (q : Int32) (a : Nat) (k : Nat) (f : Nat → Value) (h0 : Heap) (n0 : Nat) (rv : Option Value) (h : Heap) (Lq : List Loc) : Prop := rv = some (.int (Int32.ofNat (a + k + 1))) ∧ Fr n0 Lq ∧ Keep h0 h [b] ∧ own_A Z h b .byte 7 (own_f k f a q)
set_option maxRecDepth 65536 in
set_option maxHeartbeats 40000000 in
theorem rm1 (l : Launch) (Z : State) (a0 : Array Value) (hw : ∀ d ∈ tables_1, d.before a0 Z = true) (ws : List Jvm.Cond) (b : Addr) (i : Int32) (q : Int32) (a : Nat) (k : Nat) (f : Nat → Value) (h0 : Heap) (n0 : Nat) (Z0 : n0 ≤ h0.size) (V0 : own_A Z h0 b .byte 7 f) (g_b : n0 ≤ b) (hi : i = Int32.ofNat a) (hak : a + k < 7) (hc : own_c k q) :
    MetFree l (⟨"com/example/harbourline/harbourline/messages/SevenBitNumber", "put", "([BII)I"⟩ : MethodName) (head1 (Jvm.Cond.code (⟨"com/example/harbourline/harbourline/messages/SevenBitNumber", "put", "([BII)I"⟩ : MethodName) prog_179_method_2_code 5 (some .int) :: ws) ({ frames := 0, cells := 0, slots := 0, locals := 0 } : Room)) (fun xx U => xx = #[(.ref b), (.int i), (.int q)] ∧ Z.Warmed39 U.vm ∧ U.heap = h0) (fun _ _ _ _ _ => True) (fun _ U o U' => ∃ rv Lq, o = .returned rv ∧ Q1 Z b i q a k f h0 n0 rv U'.heap Lq ∧ FrameEnd U o U' Lq ({ frames := 0, cells := 0, slots := 0, locals := 0 } : Room).cells ({ frames := 0, cells := 0, slots := 0, locals := 0 } : Room).slots) := by
  refine MetFree.of_bodySF (plainFor_of_name pn_1) hisR ?_
  intro p e s m args below meth c s₁ Bd hml0 hP hK
  obtain ⟨rfl, hZ, hh⟩ := hP
  have hx := Bd.exec
  have hby := Bd.bytes
  have hml : c.maxLocals = 5 := hml0
  have hown : s.vm.findClass "com/example/harbourline/harbourline/messages/SevenBitNumber" = some m.cls := findClass_of_methodNamed Bd.named
  have hnm := (name_of_methodNamed Bd.named Bd.method).1
  have X0 : Stand p l e ({ frames := 0, cells := 0, slots := 0, locals := 0 } : Room) s m #[(.ref b), (.int i), (.int q)] below meth c s₁ [] 0 0 := Stand.of_body Bd
  have e0 : s₁.heap = h0 := by rw [← hh, Bd.state]; rfl
  have N0 := Fr.nil n0
  have pre0 : ∀ t, Steps p.tables e below (s₁.setTop (mkF m 0 #[.val (.ref b), .val (.int i), .val (.int q), .unset, .unset] [])) t → Steps p.tables e below (s₁.setTop (entryFrame m #[(.ref b), (.int i), (.int q)] 5)) t := fun t k => castTop (ef_1 m b i q) k
  obtain ⟨TL, hL, locsL, vL, XL, eL, NL, KL, VL, stL⟩ := loop1 b i q n0 g_b hx hZ hw hby hown k a q f s₁ [] h0 X0 e0 N0 V0 hak hc
  obtain ⟨fs, hr, hrun, hended, hW, hsame⟩ := XL.leave (v := some (.int (Int32.ofNat (a + k + 1)))) (fun h => by rw [Bd.returns] at h; cases h)
  refine ⟨_, _, pre0 _ ?_, hrun, hended, _, _, rfl, ?_, ⟨_, rfl⟩, hW, hsame.mono (by decide) (by decide)⟩
  · show Steps p.tables e below (s₁.setTop (mkF m 0 #[.val (.ref b), .val (.int i), .val (.int q), .unset, .unset] [])) _
    refine XS.iloadN X0.here hx rfl (hb hby d1_0) rfl ?_
    show Steps p.tables e below (s₁.setTop (mkF m 1 #[.val (.ref b), .val (.int i), .val (.int q), .unset, .unset] [(.int i)])) _
    refine XS.istoreN X0.here hx rfl (hb hby d1_1) rfl (l' := #[.val (.ref b), .val (.int i), .val (.int q), .val (.int i), .unset]) rfl ?_
    show Steps p.tables e below (s₁.setTop (mkF m 2 #[.val (.ref b), .val (.int i), .val (.int q), .val (.int i), .unset] [])) _
    refine XS.iloadN X0.here hx rfl (hb hby d1_2) rfl ?_
    show Steps p.tables e below (s₁.setTop (mkF m 3 #[.val (.ref b), .val (.int i), .val (.int q), .val (.int i), .unset] [(.int q)])) _
    refine XS.istore X0.here hx rfl (hb hby d1_3) rfl (l' := #[.val (.ref b), .val (.int i), .val (.int q), .val (.int i), .val (.int q)]) rfl ?_
    show Steps p.tables e below (s₁.setTop (mkF m 5 #[.val (.ref b), .val (.int i), .val (.int q), .val (.int i), .val (.int q)] [])) _
    have hst : ∀ z : Int32, z = Int32.ofNat a → Steps p.tables e below (s₁.setTop (mkF m 5 #[.val (.ref b), .val (.int i), .val (.int q), .val (.int z), .val (.int q)] [])) (TL.setFrames fs) := fun z hz => by
      subst hz
      refine stL _ ?_
      show Steps p.tables e below (TL.setTop (mkF m 48 #[.val (.ref b), .val (.int i), .val (.int q), .val (.int (Int32.ofNat (a + k + 1))), .val (.int vL)] [])) _
      refine XS.iloadN XL.here hx rfl (hb hby d1_48) rfl ?_
      show Steps p.tables e below (TL.setTop (mkF m 49 #[.val (.ref b), .val (.int i), .val (.int q), .val (.int (Int32.ofNat (a + k + 1))), .val (.int vL)] [(.int (Int32.ofNat (a + k + 1)))])) _
      exact retI XL hx Bd.returns (hb hby d1_49) hr
    exact hst i hi
  · show Q1 Z b i q a k f h0 n0 _ TL.heap _
    rw [eL]
    exact ⟨rfl, NL, KL, VL⟩
theorem ef_2 (m : MethodId) (x0 : Addr) (x1 : Int32) (x2 : Int32) (x3 : Int32) (x4 : Int32) (x5 : Int32) : entryFrame m #[(.ref x0), (.int x1), (.int x2), (.int x3), (.int x4), (.int x5)] 8 = mkF m 0 #[.val (.ref x0), .val (.int x1), .val (.int x2), .val (.int x3), .val (.int x4), .val (.int x5), .unset, .unset] [] := by first | (simp [entryFrame, mkF, argsToLocals, Value.category]; done) | rfl
theorem pn_2 : plainName "com/example/harbourline/harbourline/messages/SevenBitNumberPutPinLaw" = true := by first | (simp [plainName, overriddenIn]; done) | decide +kernel
def Q2 (Z : State) (b : Addr) (j : Int32) (a : Int32) (n : Int32) (v : Int32) (fl : Int32) (f : Nat → Value) (h0 : Heap) (n0 : Nat) (rv : Option Value) (h : Heap) (Lq : List Loc) : Prop := rv = some (.int (1 : Int32)) ∧ Fr n0 Lq ∧ h = h0
set_option maxRecDepth 65536 in
set_option maxHeartbeats 40000000 in
theorem rm2 (l : Launch) (Z : State) (a0 : Array Value) (hw : ∀ d ∈ tables_1, d.before a0 Z = true) (ws : List Jvm.Cond) (b : Addr) (j : Int32) (a : Int32) (n : Int32) (v : Int32) (fl : Int32) (f : Nat → Value) (h0 : Heap) (n0 : Nat) (Z0 : n0 ≤ h0.size) (V0 : own_A Z h0 b .byte 7 f) (hj0 : ¬ j < 0) (hj1 : j.toNatClampNeg < 7) (hat : f j.toNatClampNeg = .int (own_want j a n v fl)) :
    MetFree l (⟨"com/example/harbourline/harbourline/messages/SevenBitNumberPutPinLaw", "check", "([BIIIIB)Z"⟩ : MethodName) (head1 (Jvm.Cond.code (⟨"com/example/harbourline/harbourline/messages/SevenBitNumberPutPinLaw", "check", "([BIIIIB)Z"⟩ : MethodName) method_3_code 8 (some .boolean) :: ws) ({ frames := 0, cells := 0, slots := 0, locals := 0 } : Room)) (fun xx U => xx = #[(.ref b), (.int j), (.int a), (.int n), (.int v), (.int fl)] ∧ Z.Warmed39 U.vm ∧ U.heap = h0) (fun _ _ _ _ _ => True) (fun _ U o U' => ∃ rv Lq, o = .returned rv ∧ Q2 Z b j a n v fl f h0 n0 rv U'.heap Lq ∧ FrameEnd U o U' Lq ({ frames := 0, cells := 0, slots := 0, locals := 0 } : Room).cells ({ frames := 0, cells := 0, slots := 0, locals := 0 } : Room).slots) := by
  refine MetFree.of_bodySF (plainFor_of_name pn_2) hisR ?_
  intro p e s m args below meth c s₁ Bd hml0 hP hK
  obtain ⟨rfl, hZ, hh⟩ := hP
  have hx := Bd.exec
  have hby := Bd.bytes
  have hml : c.maxLocals = 8 := hml0
  have hown : s.vm.findClass "com/example/harbourline/harbourline/messages/SevenBitNumberPutPinLaw" = some m.cls := findClass_of_methodNamed Bd.named
  have hnm := (name_of_methodNamed Bd.named Bd.method).1
  have X0 : Stand p l e ({ frames := 0, cells := 0, slots := 0, locals := 0 } : Room) s m #[(.ref b), (.int j), (.int a), (.int n), (.int v), (.int fl)] below meth c s₁ [] 0 0 := Stand.of_body Bd
  have e0 : s₁.heap = h0 := by rw [← hh, Bd.state]; rfl
  have N0 := Fr.nil n0
  have pre0 : ∀ t, Steps p.tables e below (s₁.setTop (mkF m 0 #[.val (.ref b), .val (.int j), .val (.int a), .val (.int n), .val (.int v), .val (.int fl), .unset, .unset] [])) t → Steps p.tables e below (s₁.setTop (entryFrame m #[(.ref b), (.int j), (.int a), (.int n), (.int v), (.int fl)] 8)) t := fun t k => castTop (ef_2 m b j a n v fl) k
  obtain ⟨cl, Ar, Sz, Hs⟩ := V0
  by_cases h1 : (j - a) < (0 : Int32)
  · have hv : own_want j a n v fl = fl := by unfold own_want; rw [if_pos h1]
    obtain ⟨fs, hr, hrun, hended, hW, hsame⟩ := X0.leave (v := some (.int (1 : Int32))) (fun h => by rw [Bd.returns] at h; cases h)
    refine ⟨_, _, pre0 _ ?_, hrun, hended, _, _, rfl, ?_, ⟨_, rfl⟩, hW, hsame.mono (by decide) (by decide)⟩
    · show Steps p.tables e below (s₁.setTop (mkF m 0 #[.val (.ref b), .val (.int j), .val (.int a), .val (.int n), .val (.int v), .val (.int fl), .unset, .unset] [])) _
      refine XS.iloadN X0.here hx rfl (hb hby d2_0) rfl ?_
      show Steps p.tables e below (s₁.setTop (mkF m 1 #[.val (.ref b), .val (.int j), .val (.int a), .val (.int n), .val (.int v), .val (.int fl), .unset, .unset] [(.int j)])) _
      refine XS.iloadN X0.here hx rfl (hb hby d2_1) rfl ?_
      show Steps p.tables e below (s₁.setTop (mkF m 2 #[.val (.ref b), .val (.int j), .val (.int a), .val (.int n), .val (.int v), .val (.int fl), .unset, .unset] [(.int a), (.int j)])) _
      refine XS.isub X0.here hx rfl (hb hby d2_2) rfl ?_
      show Steps p.tables e below (s₁.setTop (mkF m 3 #[.val (.ref b), .val (.int j), .val (.int a), .val (.int n), .val (.int v), .val (.int fl), .unset, .unset] [(.int (j - a))])) _
      refine XS.istore X0.here hx rfl (hb hby d2_3) rfl (l' := #[.val (.ref b), .val (.int j), .val (.int a), .val (.int n), .val (.int v), .val (.int fl), .val (.int (j - a)), .unset]) rfl ?_
      show Steps p.tables e below (s₁.setTop (mkF m 5 #[.val (.ref b), .val (.int j), .val (.int a), .val (.int n), .val (.int v), .val (.int fl), .val (.int (j - a)), .unset] [])) _
      refine XS.iload X0.here hx rfl (hb hby d2_5) rfl ?_
      show Steps p.tables e below (s₁.setTop (mkF m 7 #[.val (.ref b), .val (.int j), .val (.int a), .val (.int n), .val (.int v), .val (.int fl), .val (.int (j - a)), .unset] [(.int (j - a))])) _
      refine XS.ifYes X0.here hx rfl (pc0 := 7) (pc' := 16) rfl (hb hby d2_7) rfl ((if0 _ _).trans (tlt (h1 : (j - a) < (0 : Int32))).1) (by decide) (by decide) ?_
      show Steps p.tables e below (s₁.setTop (mkF m 16 #[.val (.ref b), .val (.int j), .val (.int a), .val (.int n), .val (.int v), .val (.int fl), .val (.int (j - a)), .unset] [])) _
      refine XS.iload X0.here hx rfl (hb hby d2_16) rfl ?_
      show Steps p.tables e below (s₁.setTop (mkF m 18 #[.val (.ref b), .val (.int j), .val (.int a), .val (.int n), .val (.int v), .val (.int fl), .val (.int (j - a)), .unset] [(.int fl)])) _
      refine XS.istore X0.here hx rfl (hb hby d2_18) rfl (l' := #[.val (.ref b), .val (.int j), .val (.int a), .val (.int n), .val (.int v), .val (.int fl), .val (.int (j - a)), .val (.int fl)]) rfl ?_
      show Steps p.tables e below (s₁.setTop (mkF m 20 #[.val (.ref b), .val (.int j), .val (.int a), .val (.int n), .val (.int v), .val (.int fl), .val (.int (j - a)), .val (.int fl)] [])) _
      refine XS.goto X0.here hx rfl (pc0 := 20) (pc' := 63) rfl (hb hby d2_20) (by decide) (by decide) ?_
      show Steps p.tables e below (s₁.setTop (mkF m 63 #[.val (.ref b), .val (.int j), .val (.int a), .val (.int n), .val (.int v), .val (.int fl), .val (.int (j - a)), .val (.int fl)] [])) _
      refine XS.aloadN X0.here hx rfl (hb hby d2_63) rfl rfl ?_
      show Steps p.tables e below (s₁.setTop (mkF m 64 #[.val (.ref b), .val (.int j), .val (.int a), .val (.int n), .val (.int v), .val (.int fl), .val (.int (j - a)), .val (.int fl)] [(.ref b)])) _
      refine XS.iloadN X0.here hx rfl (hb hby d2_64) rfl ?_
      show Steps p.tables e below (s₁.setTop (mkF m 65 #[.val (.ref b), .val (.int j), .val (.int a), .val (.int n), .val (.int v), .val (.int fl), .val (.int (j - a)), .val (.int fl)] [(.int j), (.ref b)])) _
      refine X0.baloadBytes hx (j := j) (v := (.int fl)) (by rw [e0]; exact Ar.1) (State.isArrayOf_alike hZ.alike Ar.2.1) Ar.2.2 (own_in Sz hj0 rfl hj1) ((Hs _ hj1).trans (congrArg some (hat.trans (congrArg Value.int hv)))) (g := (mkF m 65 #[.val (.ref b), .val (.int j), .val (.int a), .val (.int n), .val (.int v), .val (.int fl), .val (.int (j - a)), .val (.int fl)] [(.int j), (.ref b)])) rfl rfl (hb hby d2_65) _ ?_
      show Steps p.tables e below (s₁.setTop (mkF m 66 #[.val (.ref b), .val (.int j), .val (.int a), .val (.int n), .val (.int v), .val (.int fl), .val (.int (j - a)), .val (.int fl)] [(.int fl)])) _
      refine XS.iload X0.here hx rfl (hb hby d2_66) rfl ?_
      show Steps p.tables e below (s₁.setTop (mkF m 68 #[.val (.ref b), .val (.int j), .val (.int a), .val (.int n), .val (.int v), .val (.int fl), .val (.int (j - a)), .val (.int fl)] [(.int fl), (.int fl)])) _
      refine XS.icmpNo X0.here hx rfl (hb hby d2_68) rfl (teq (rfl : fl = fl)).2 ?_
      show Steps p.tables e below (s₁.setTop (mkF m 71 #[.val (.ref b), .val (.int j), .val (.int a), .val (.int n), .val (.int v), .val (.int fl), .val (.int (j - a)), .val (.int fl)] [])) _
      refine XS.iconst X0.here hx rfl (hb hby d2_71) ?_
      show Steps p.tables e below (s₁.setTop (mkF m 72 #[.val (.ref b), .val (.int j), .val (.int a), .val (.int n), .val (.int v), .val (.int fl), .val (.int (j - a)), .val (.int fl)] [(.int (1 : Int32))])) _
      refine XS.goto X0.here hx rfl (pc0 := 72) (pc' := 76) rfl (hb hby d2_72) (by decide) (by decide) ?_
      show Steps p.tables e below (s₁.setTop (mkF m 76 #[.val (.ref b), .val (.int j), .val (.int a), .val (.int n), .val (.int v), .val (.int fl), .val (.int (j - a)), .val (.int fl)] [(.int (1 : Int32))])) _
      exact retN X0 hx (t := .boolean) Bd.returns (by simp) (hb hby d2_76) hr
    · show Q2 Z b j a n v fl f h0 n0 _ s₁.heap _
      rw [e0]
      exact ⟨rfl, N0, rfl⟩
  · by_cases h2 : (j - a) < n
    · by_cases h3 : (j - a) < (n - (1 : Int32))
      · have hv : own_want j a n v fl = (((((v.toUInt32 >>> (((7 : Int32) * (j - a)) &&& 31).toUInt32).toInt32) &&& (127 : Int32)) ||| (128 : Int32)).toInt8.toInt32) := by unfold own_want; rw [if_neg h1, if_pos h2, if_pos h3]
        obtain ⟨fs, hr, hrun, hended, hW, hsame⟩ := X0.leave (v := some (.int (1 : Int32))) (fun h => by rw [Bd.returns] at h; cases h)
        refine ⟨_, _, pre0 _ ?_, hrun, hended, _, _, rfl, ?_, ⟨_, rfl⟩, hW, hsame.mono (by decide) (by decide)⟩
        · show Steps p.tables e below (s₁.setTop (mkF m 0 #[.val (.ref b), .val (.int j), .val (.int a), .val (.int n), .val (.int v), .val (.int fl), .unset, .unset] [])) _
          refine XS.iloadN X0.here hx rfl (hb hby d2_0) rfl ?_
          show Steps p.tables e below (s₁.setTop (mkF m 1 #[.val (.ref b), .val (.int j), .val (.int a), .val (.int n), .val (.int v), .val (.int fl), .unset, .unset] [(.int j)])) _
          refine XS.iloadN X0.here hx rfl (hb hby d2_1) rfl ?_
          show Steps p.tables e below (s₁.setTop (mkF m 2 #[.val (.ref b), .val (.int j), .val (.int a), .val (.int n), .val (.int v), .val (.int fl), .unset, .unset] [(.int a), (.int j)])) _
          refine XS.isub X0.here hx rfl (hb hby d2_2) rfl ?_
          show Steps p.tables e below (s₁.setTop (mkF m 3 #[.val (.ref b), .val (.int j), .val (.int a), .val (.int n), .val (.int v), .val (.int fl), .unset, .unset] [(.int (j - a))])) _
          refine XS.istore X0.here hx rfl (hb hby d2_3) rfl (l' := #[.val (.ref b), .val (.int j), .val (.int a), .val (.int n), .val (.int v), .val (.int fl), .val (.int (j - a)), .unset]) rfl ?_
          show Steps p.tables e below (s₁.setTop (mkF m 5 #[.val (.ref b), .val (.int j), .val (.int a), .val (.int n), .val (.int v), .val (.int fl), .val (.int (j - a)), .unset] [])) _
          refine XS.iload X0.here hx rfl (hb hby d2_5) rfl ?_
          show Steps p.tables e below (s₁.setTop (mkF m 7 #[.val (.ref b), .val (.int j), .val (.int a), .val (.int n), .val (.int v), .val (.int fl), .val (.int (j - a)), .unset] [(.int (j - a))])) _
          refine XS.ifNo X0.here hx rfl (hb hby d2_7) rfl ((if0 _ _).trans (flt (h1 : ¬ ((j - a) < (0 : Int32)))).1) ?_
          show Steps p.tables e below (s₁.setTop (mkF m 10 #[.val (.ref b), .val (.int j), .val (.int a), .val (.int n), .val (.int v), .val (.int fl), .val (.int (j - a)), .unset] [])) _
          refine XS.iload X0.here hx rfl (hb hby d2_10) rfl ?_
          show Steps p.tables e below (s₁.setTop (mkF m 12 #[.val (.ref b), .val (.int j), .val (.int a), .val (.int n), .val (.int v), .val (.int fl), .val (.int (j - a)), .unset] [(.int (j - a))])) _
          refine XS.iloadN X0.here hx rfl (hb hby d2_12) rfl ?_
          show Steps p.tables e below (s₁.setTop (mkF m 13 #[.val (.ref b), .val (.int j), .val (.int a), .val (.int n), .val (.int v), .val (.int fl), .val (.int (j - a)), .unset] [(.int n), (.int (j - a))])) _
          refine XS.icmpYes X0.here hx rfl (pc0 := 13) (pc' := 23) rfl (hb hby d2_13) rfl (tlt (h2 : (j - a) < n)).1 (by decide) (by decide) ?_
          show Steps p.tables e below (s₁.setTop (mkF m 23 #[.val (.ref b), .val (.int j), .val (.int a), .val (.int n), .val (.int v), .val (.int fl), .val (.int (j - a)), .unset] [])) _
          refine XS.iload X0.here hx rfl (hb hby d2_23) rfl ?_
          show Steps p.tables e below (s₁.setTop (mkF m 25 #[.val (.ref b), .val (.int j), .val (.int a), .val (.int n), .val (.int v), .val (.int fl), .val (.int (j - a)), .unset] [(.int (j - a))])) _
          refine XS.iloadN X0.here hx rfl (hb hby d2_25) rfl ?_
          show Steps p.tables e below (s₁.setTop (mkF m 26 #[.val (.ref b), .val (.int j), .val (.int a), .val (.int n), .val (.int v), .val (.int fl), .val (.int (j - a)), .unset] [(.int n), (.int (j - a))])) _
          refine XS.iconst X0.here hx rfl (hb hby d2_26) ?_
          show Steps p.tables e below (s₁.setTop (mkF m 27 #[.val (.ref b), .val (.int j), .val (.int a), .val (.int n), .val (.int v), .val (.int fl), .val (.int (j - a)), .unset] [(.int (1 : Int32)), (.int n), (.int (j - a))])) _
          refine XS.isub X0.here hx rfl (hb hby d2_27) rfl ?_
          show Steps p.tables e below (s₁.setTop (mkF m 28 #[.val (.ref b), .val (.int j), .val (.int a), .val (.int n), .val (.int v), .val (.int fl), .val (.int (j - a)), .unset] [(.int (n - (1 : Int32))), (.int (j - a))])) _
          refine XS.icmpNo X0.here hx rfl (hb hby d2_28) rfl (tlt (h3 : (j - a) < (n - (1 : Int32)))).2.1 ?_
          show Steps p.tables e below (s₁.setTop (mkF m 31 #[.val (.ref b), .val (.int j), .val (.int a), .val (.int n), .val (.int v), .val (.int fl), .val (.int (j - a)), .unset] [])) _
          refine XS.iload X0.here hx rfl (hb hby d2_31) rfl ?_
          show Steps p.tables e below (s₁.setTop (mkF m 33 #[.val (.ref b), .val (.int j), .val (.int a), .val (.int n), .val (.int v), .val (.int fl), .val (.int (j - a)), .unset] [(.int v)])) _
          refine XS.bipush X0.here hx rfl (hb hby d2_33) ?_
          show Steps p.tables e below (s₁.setTop (mkF m 35 #[.val (.ref b), .val (.int j), .val (.int a), .val (.int n), .val (.int v), .val (.int fl), .val (.int (j - a)), .unset] [(.int (7 : Int32)), (.int v)])) _
          refine XS.iload X0.here hx rfl (hb hby d2_35) rfl ?_
          show Steps p.tables e below (s₁.setTop (mkF m 37 #[.val (.ref b), .val (.int j), .val (.int a), .val (.int n), .val (.int v), .val (.int fl), .val (.int (j - a)), .unset] [(.int (j - a)), (.int (7 : Int32)), (.int v)])) _
          refine XS.imul X0.here hx rfl (hb hby d2_37) rfl ?_
          show Steps p.tables e below (s₁.setTop (mkF m 38 #[.val (.ref b), .val (.int j), .val (.int a), .val (.int n), .val (.int v), .val (.int fl), .val (.int (j - a)), .unset] [(.int ((7 : Int32) * (j - a))), (.int v)])) _
          refine XS.iushr X0.here hx rfl (hb hby d2_38) rfl ?_
          show Steps p.tables e below (s₁.setTop (mkF m 39 #[.val (.ref b), .val (.int j), .val (.int a), .val (.int n), .val (.int v), .val (.int fl), .val (.int (j - a)), .unset] [(.int ((v.toUInt32 >>> (((7 : Int32) * (j - a)) &&& 31).toUInt32).toInt32))])) _
          refine XS.bipush X0.here hx rfl (hb hby d2_39) ?_
          show Steps p.tables e below (s₁.setTop (mkF m 41 #[.val (.ref b), .val (.int j), .val (.int a), .val (.int n), .val (.int v), .val (.int fl), .val (.int (j - a)), .unset] [(.int (127 : Int32)), (.int ((v.toUInt32 >>> (((7 : Int32) * (j - a)) &&& 31).toUInt32).toInt32))])) _
          refine XS.iand X0.here hx rfl (hb hby d2_41) rfl ?_
          show Steps p.tables e below (s₁.setTop (mkF m 42 #[.val (.ref b), .val (.int j), .val (.int a), .val (.int n), .val (.int v), .val (.int fl), .val (.int (j - a)), .unset] [(.int (((v.toUInt32 >>> (((7 : Int32) * (j - a)) &&& 31).toUInt32).toInt32) &&& (127 : Int32)))])) _
          refine XS.sipush X0.here hx rfl (hb hby d2_42) ?_
          show Steps p.tables e below (s₁.setTop (mkF m 45 #[.val (.ref b), .val (.int j), .val (.int a), .val (.int n), .val (.int v), .val (.int fl), .val (.int (j - a)), .unset] [(.int (128 : Int32)), (.int (((v.toUInt32 >>> (((7 : Int32) * (j - a)) &&& 31).toUInt32).toInt32) &&& (127 : Int32)))])) _
          refine XS.ior X0.here hx rfl (hb hby d2_45) rfl ?_
          show Steps p.tables e below (s₁.setTop (mkF m 46 #[.val (.ref b), .val (.int j), .val (.int a), .val (.int n), .val (.int v), .val (.int fl), .val (.int (j - a)), .unset] [(.int ((((v.toUInt32 >>> (((7 : Int32) * (j - a)) &&& 31).toUInt32).toInt32) &&& (127 : Int32)) ||| (128 : Int32)))])) _
          refine XS.i2b X0.here hx rfl (hb hby d2_46) rfl ?_
          show Steps p.tables e below (s₁.setTop (mkF m 47 #[.val (.ref b), .val (.int j), .val (.int a), .val (.int n), .val (.int v), .val (.int fl), .val (.int (j - a)), .unset] [(.int (((((v.toUInt32 >>> (((7 : Int32) * (j - a)) &&& 31).toUInt32).toInt32) &&& (127 : Int32)) ||| (128 : Int32)).toInt8.toInt32))])) _
          refine XS.istore X0.here hx rfl (hb hby d2_47) rfl (l' := #[.val (.ref b), .val (.int j), .val (.int a), .val (.int n), .val (.int v), .val (.int fl), .val (.int (j - a)), .val (.int (((((v.toUInt32 >>> (((7 : Int32) * (j - a)) &&& 31).toUInt32).toInt32) &&& (127 : Int32)) ||| (128 : Int32)).toInt8.toInt32))]) rfl ?_
          show Steps p.tables e below (s₁.setTop (mkF m 49 #[.val (.ref b), .val (.int j), .val (.int a), .val (.int n), .val (.int v), .val (.int fl), .val (.int (j - a)), .val (.int (((((v.toUInt32 >>> (((7 : Int32) * (j - a)) &&& 31).toUInt32).toInt32) &&& (127 : Int32)) ||| (128 : Int32)).toInt8.toInt32))] [])) _
          refine XS.goto X0.here hx rfl (pc0 := 49) (pc' := 63) rfl (hb hby d2_49) (by decide) (by decide) ?_
          show Steps p.tables e below (s₁.setTop (mkF m 63 #[.val (.ref b), .val (.int j), .val (.int a), .val (.int n), .val (.int v), .val (.int fl), .val (.int (j - a)), .val (.int (((((v.toUInt32 >>> (((7 : Int32) * (j - a)) &&& 31).toUInt32).toInt32) &&& (127 : Int32)) ||| (128 : Int32)).toInt8.toInt32))] [])) _
          refine XS.aloadN X0.here hx rfl (hb hby d2_63) rfl rfl ?_
          show Steps p.tables e below (s₁.setTop (mkF m 64 #[.val (.ref b), .val (.int j), .val (.int a), .val (.int n), .val (.int v), .val (.int fl), .val (.int (j - a)), .val (.int (((((v.toUInt32 >>> (((7 : Int32) * (j - a)) &&& 31).toUInt32).toInt32) &&& (127 : Int32)) ||| (128 : Int32)).toInt8.toInt32))] [(.ref b)])) _
          refine XS.iloadN X0.here hx rfl (hb hby d2_64) rfl ?_
          show Steps p.tables e below (s₁.setTop (mkF m 65 #[.val (.ref b), .val (.int j), .val (.int a), .val (.int n), .val (.int v), .val (.int fl), .val (.int (j - a)), .val (.int (((((v.toUInt32 >>> (((7 : Int32) * (j - a)) &&& 31).toUInt32).toInt32) &&& (127 : Int32)) ||| (128 : Int32)).toInt8.toInt32))] [(.int j), (.ref b)])) _
          refine X0.baloadBytes hx (j := j) (v := (.int (((((v.toUInt32 >>> (((7 : Int32) * (j - a)) &&& 31).toUInt32).toInt32) &&& (127 : Int32)) ||| (128 : Int32)).toInt8.toInt32))) (by rw [e0]; exact Ar.1) (State.isArrayOf_alike hZ.alike Ar.2.1) Ar.2.2 (own_in Sz hj0 rfl hj1) ((Hs _ hj1).trans (congrArg some (hat.trans (congrArg Value.int hv)))) (g := (mkF m 65 #[.val (.ref b), .val (.int j), .val (.int a), .val (.int n), .val (.int v), .val (.int fl), .val (.int (j - a)), .val (.int (((((v.toUInt32 >>> (((7 : Int32) * (j - a)) &&& 31).toUInt32).toInt32) &&& (127 : Int32)) ||| (128 : Int32)).toInt8.toInt32))] [(.int j), (.ref b)])) rfl rfl (hb hby d2_65) _ ?_
          show Steps p.tables e below (s₁.setTop (mkF m 66 #[.val (.ref b), .val (.int j), .val (.int a), .val (.int n), .val (.int v), .val (.int fl), .val (.int (j - a)), .val (.int (((((v.toUInt32 >>> (((7 : Int32) * (j - a)) &&& 31).toUInt32).toInt32) &&& (127 : Int32)) ||| (128 : Int32)).toInt8.toInt32))] [(.int (((((v.toUInt32 >>> (((7 : Int32) * (j - a)) &&& 31).toUInt32).toInt32) &&& (127 : Int32)) ||| (128 : Int32)).toInt8.toInt32))])) _
          refine XS.iload X0.here hx rfl (hb hby d2_66) rfl ?_
          show Steps p.tables e below (s₁.setTop (mkF m 68 #[.val (.ref b), .val (.int j), .val (.int a), .val (.int n), .val (.int v), .val (.int fl), .val (.int (j - a)), .val (.int (((((v.toUInt32 >>> (((7 : Int32) * (j - a)) &&& 31).toUInt32).toInt32) &&& (127 : Int32)) ||| (128 : Int32)).toInt8.toInt32))] [(.int (((((v.toUInt32 >>> (((7 : Int32) * (j - a)) &&& 31).toUInt32).toInt32) &&& (127 : Int32)) ||| (128 : Int32)).toInt8.toInt32)), (.int (((((v.toUInt32 >>> (((7 : Int32) * (j - a)) &&& 31).toUInt32).toInt32) &&& (127 : Int32)) ||| (128 : Int32)).toInt8.toInt32))])) _
          refine XS.icmpNo X0.here hx rfl (hb hby d2_68) rfl (teq (rfl : (((((v.toUInt32 >>> (((7 : Int32) * (j - a)) &&& 31).toUInt32).toInt32) &&& (127 : Int32)) ||| (128 : Int32)).toInt8.toInt32) = (((((v.toUInt32 >>> (((7 : Int32) * (j - a)) &&& 31).toUInt32).toInt32) &&& (127 : Int32)) ||| (128 : Int32)).toInt8.toInt32))).2 ?_
          show Steps p.tables e below (s₁.setTop (mkF m 71 #[.val (.ref b), .val (.int j), .val (.int a), .val (.int n), .val (.int v), .val (.int fl), .val (.int (j - a)), .val (.int (((((v.toUInt32 >>> (((7 : Int32) * (j - a)) &&& 31).toUInt32).toInt32) &&& (127 : Int32)) ||| (128 : Int32)).toInt8.toInt32))] [])) _
          refine XS.iconst X0.here hx rfl (hb hby d2_71) ?_
          show Steps p.tables e below (s₁.setTop (mkF m 72 #[.val (.ref b), .val (.int j), .val (.int a), .val (.int n), .val (.int v), .val (.int fl), .val (.int (j - a)), .val (.int (((((v.toUInt32 >>> (((7 : Int32) * (j - a)) &&& 31).toUInt32).toInt32) &&& (127 : Int32)) ||| (128 : Int32)).toInt8.toInt32))] [(.int (1 : Int32))])) _
          refine XS.goto X0.here hx rfl (pc0 := 72) (pc' := 76) rfl (hb hby d2_72) (by decide) (by decide) ?_
          show Steps p.tables e below (s₁.setTop (mkF m 76 #[.val (.ref b), .val (.int j), .val (.int a), .val (.int n), .val (.int v), .val (.int fl), .val (.int (j - a)), .val (.int (((((v.toUInt32 >>> (((7 : Int32) * (j - a)) &&& 31).toUInt32).toInt32) &&& (127 : Int32)) ||| (128 : Int32)).toInt8.toInt32))] [(.int (1 : Int32))])) _
          exact retN X0 hx (t := .boolean) Bd.returns (by simp) (hb hby d2_76) hr
        · show Q2 Z b j a n v fl f h0 n0 _ s₁.heap _
          rw [e0]
          exact ⟨rfl, N0, rfl⟩
      · have hv : own_want j a n v fl = (((v.toUInt32 >>> (((7 : Int32) * (j - a)) &&& 31).toUInt32).toInt32).toInt8.toInt32) := by unfold own_want; rw [if_neg h1, if_pos h2, if_neg h3]
        obtain ⟨fs, hr, hrun, hended, hW, hsame⟩ := X0.leave (v := some (.int (1 : Int32))) (fun h => by rw [Bd.returns] at h; cases h)
        refine ⟨_, _, pre0 _ ?_, hrun, hended, _, _, rfl, ?_, ⟨_, rfl⟩, hW, hsame.mono (by decide) (by decide)⟩
        · show Steps p.tables e below (s₁.setTop (mkF m 0 #[.val (.ref b), .val (.int j), .val (.int a), .val (.int n), .val (.int v), .val (.int fl), .unset, .unset] [])) _
          refine XS.iloadN X0.here hx rfl (hb hby d2_0) rfl ?_
          show Steps p.tables e below (s₁.setTop (mkF m 1 #[.val (.ref b), .val (.int j), .val (.int a), .val (.int n), .val (.int v), .val (.int fl), .unset, .unset] [(.int j)])) _
          refine XS.iloadN X0.here hx rfl (hb hby d2_1) rfl ?_
          show Steps p.tables e below (s₁.setTop (mkF m 2 #[.val (.ref b), .val (.int j), .val (.int a), .val (.int n), .val (.int v), .val (.int fl), .unset, .unset] [(.int a), (.int j)])) _
          refine XS.isub X0.here hx rfl (hb hby d2_2) rfl ?_
          show Steps p.tables e below (s₁.setTop (mkF m 3 #[.val (.ref b), .val (.int j), .val (.int a), .val (.int n), .val (.int v), .val (.int fl), .unset, .unset] [(.int (j - a))])) _
          refine XS.istore X0.here hx rfl (hb hby d2_3) rfl (l' := #[.val (.ref b), .val (.int j), .val (.int a), .val (.int n), .val (.int v), .val (.int fl), .val (.int (j - a)), .unset]) rfl ?_
          show Steps p.tables e below (s₁.setTop (mkF m 5 #[.val (.ref b), .val (.int j), .val (.int a), .val (.int n), .val (.int v), .val (.int fl), .val (.int (j - a)), .unset] [])) _
          refine XS.iload X0.here hx rfl (hb hby d2_5) rfl ?_
          show Steps p.tables e below (s₁.setTop (mkF m 7 #[.val (.ref b), .val (.int j), .val (.int a), .val (.int n), .val (.int v), .val (.int fl), .val (.int (j - a)), .unset] [(.int (j - a))])) _
          refine XS.ifNo X0.here hx rfl (hb hby d2_7) rfl ((if0 _ _).trans (flt (h1 : ¬ ((j - a) < (0 : Int32)))).1) ?_
          show Steps p.tables e below (s₁.setTop (mkF m 10 #[.val (.ref b), .val (.int j), .val (.int a), .val (.int n), .val (.int v), .val (.int fl), .val (.int (j - a)), .unset] [])) _
          refine XS.iload X0.here hx rfl (hb hby d2_10) rfl ?_
          show Steps p.tables e below (s₁.setTop (mkF m 12 #[.val (.ref b), .val (.int j), .val (.int a), .val (.int n), .val (.int v), .val (.int fl), .val (.int (j - a)), .unset] [(.int (j - a))])) _
          refine XS.iloadN X0.here hx rfl (hb hby d2_12) rfl ?_
          show Steps p.tables e below (s₁.setTop (mkF m 13 #[.val (.ref b), .val (.int j), .val (.int a), .val (.int n), .val (.int v), .val (.int fl), .val (.int (j - a)), .unset] [(.int n), (.int (j - a))])) _
          refine XS.icmpYes X0.here hx rfl (pc0 := 13) (pc' := 23) rfl (hb hby d2_13) rfl (tlt (h2 : (j - a) < n)).1 (by decide) (by decide) ?_
          show Steps p.tables e below (s₁.setTop (mkF m 23 #[.val (.ref b), .val (.int j), .val (.int a), .val (.int n), .val (.int v), .val (.int fl), .val (.int (j - a)), .unset] [])) _
          refine XS.iload X0.here hx rfl (hb hby d2_23) rfl ?_
          show Steps p.tables e below (s₁.setTop (mkF m 25 #[.val (.ref b), .val (.int j), .val (.int a), .val (.int n), .val (.int v), .val (.int fl), .val (.int (j - a)), .unset] [(.int (j - a))])) _
          refine XS.iloadN X0.here hx rfl (hb hby d2_25) rfl ?_
          show Steps p.tables e below (s₁.setTop (mkF m 26 #[.val (.ref b), .val (.int j), .val (.int a), .val (.int n), .val (.int v), .val (.int fl), .val (.int (j - a)), .unset] [(.int n), (.int (j - a))])) _
          refine XS.iconst X0.here hx rfl (hb hby d2_26) ?_
          show Steps p.tables e below (s₁.setTop (mkF m 27 #[.val (.ref b), .val (.int j), .val (.int a), .val (.int n), .val (.int v), .val (.int fl), .val (.int (j - a)), .unset] [(.int (1 : Int32)), (.int n), (.int (j - a))])) _
          refine XS.isub X0.here hx rfl (hb hby d2_27) rfl ?_
          show Steps p.tables e below (s₁.setTop (mkF m 28 #[.val (.ref b), .val (.int j), .val (.int a), .val (.int n), .val (.int v), .val (.int fl), .val (.int (j - a)), .unset] [(.int (n - (1 : Int32))), (.int (j - a))])) _
          refine XS.icmpYes X0.here hx rfl (pc0 := 28) (pc' := 52) rfl (hb hby d2_28) rfl (flt (h3 : ¬ ((j - a) < (n - (1 : Int32))))).2.1 (by decide) (by decide) ?_
          show Steps p.tables e below (s₁.setTop (mkF m 52 #[.val (.ref b), .val (.int j), .val (.int a), .val (.int n), .val (.int v), .val (.int fl), .val (.int (j - a)), .unset] [])) _
          refine XS.iload X0.here hx rfl (hb hby d2_52) rfl ?_
          show Steps p.tables e below (s₁.setTop (mkF m 54 #[.val (.ref b), .val (.int j), .val (.int a), .val (.int n), .val (.int v), .val (.int fl), .val (.int (j - a)), .unset] [(.int v)])) _
          refine XS.bipush X0.here hx rfl (hb hby d2_54) ?_
          show Steps p.tables e below (s₁.setTop (mkF m 56 #[.val (.ref b), .val (.int j), .val (.int a), .val (.int n), .val (.int v), .val (.int fl), .val (.int (j - a)), .unset] [(.int (7 : Int32)), (.int v)])) _
          refine XS.iload X0.here hx rfl (hb hby d2_56) rfl ?_
          show Steps p.tables e below (s₁.setTop (mkF m 58 #[.val (.ref b), .val (.int j), .val (.int a), .val (.int n), .val (.int v), .val (.int fl), .val (.int (j - a)), .unset] [(.int (j - a)), (.int (7 : Int32)), (.int v)])) _
          refine XS.imul X0.here hx rfl (hb hby d2_58) rfl ?_
          show Steps p.tables e below (s₁.setTop (mkF m 59 #[.val (.ref b), .val (.int j), .val (.int a), .val (.int n), .val (.int v), .val (.int fl), .val (.int (j - a)), .unset] [(.int ((7 : Int32) * (j - a))), (.int v)])) _
          refine XS.iushr X0.here hx rfl (hb hby d2_59) rfl ?_
          show Steps p.tables e below (s₁.setTop (mkF m 60 #[.val (.ref b), .val (.int j), .val (.int a), .val (.int n), .val (.int v), .val (.int fl), .val (.int (j - a)), .unset] [(.int ((v.toUInt32 >>> (((7 : Int32) * (j - a)) &&& 31).toUInt32).toInt32))])) _
          refine XS.i2b X0.here hx rfl (hb hby d2_60) rfl ?_
          show Steps p.tables e below (s₁.setTop (mkF m 61 #[.val (.ref b), .val (.int j), .val (.int a), .val (.int n), .val (.int v), .val (.int fl), .val (.int (j - a)), .unset] [(.int (((v.toUInt32 >>> (((7 : Int32) * (j - a)) &&& 31).toUInt32).toInt32).toInt8.toInt32))])) _
          refine XS.istore X0.here hx rfl (hb hby d2_61) rfl (l' := #[.val (.ref b), .val (.int j), .val (.int a), .val (.int n), .val (.int v), .val (.int fl), .val (.int (j - a)), .val (.int (((v.toUInt32 >>> (((7 : Int32) * (j - a)) &&& 31).toUInt32).toInt32).toInt8.toInt32))]) rfl ?_
          show Steps p.tables e below (s₁.setTop (mkF m 63 #[.val (.ref b), .val (.int j), .val (.int a), .val (.int n), .val (.int v), .val (.int fl), .val (.int (j - a)), .val (.int (((v.toUInt32 >>> (((7 : Int32) * (j - a)) &&& 31).toUInt32).toInt32).toInt8.toInt32))] [])) _
          refine XS.aloadN X0.here hx rfl (hb hby d2_63) rfl rfl ?_
          show Steps p.tables e below (s₁.setTop (mkF m 64 #[.val (.ref b), .val (.int j), .val (.int a), .val (.int n), .val (.int v), .val (.int fl), .val (.int (j - a)), .val (.int (((v.toUInt32 >>> (((7 : Int32) * (j - a)) &&& 31).toUInt32).toInt32).toInt8.toInt32))] [(.ref b)])) _
          refine XS.iloadN X0.here hx rfl (hb hby d2_64) rfl ?_
          show Steps p.tables e below (s₁.setTop (mkF m 65 #[.val (.ref b), .val (.int j), .val (.int a), .val (.int n), .val (.int v), .val (.int fl), .val (.int (j - a)), .val (.int (((v.toUInt32 >>> (((7 : Int32) * (j - a)) &&& 31).toUInt32).toInt32).toInt8.toInt32))] [(.int j), (.ref b)])) _
          refine X0.baloadBytes hx (j := j) (v := (.int (((v.toUInt32 >>> (((7 : Int32) * (j - a)) &&& 31).toUInt32).toInt32).toInt8.toInt32))) (by rw [e0]; exact Ar.1) (State.isArrayOf_alike hZ.alike Ar.2.1) Ar.2.2 (own_in Sz hj0 rfl hj1) ((Hs _ hj1).trans (congrArg some (hat.trans (congrArg Value.int hv)))) (g := (mkF m 65 #[.val (.ref b), .val (.int j), .val (.int a), .val (.int n), .val (.int v), .val (.int fl), .val (.int (j - a)), .val (.int (((v.toUInt32 >>> (((7 : Int32) * (j - a)) &&& 31).toUInt32).toInt32).toInt8.toInt32))] [(.int j), (.ref b)])) rfl rfl (hb hby d2_65) _ ?_
          show Steps p.tables e below (s₁.setTop (mkF m 66 #[.val (.ref b), .val (.int j), .val (.int a), .val (.int n), .val (.int v), .val (.int fl), .val (.int (j - a)), .val (.int (((v.toUInt32 >>> (((7 : Int32) * (j - a)) &&& 31).toUInt32).toInt32).toInt8.toInt32))] [(.int (((v.toUInt32 >>> (((7 : Int32) * (j - a)) &&& 31).toUInt32).toInt32).toInt8.toInt32))])) _
          refine XS.iload X0.here hx rfl (hb hby d2_66) rfl ?_
          show Steps p.tables e below (s₁.setTop (mkF m 68 #[.val (.ref b), .val (.int j), .val (.int a), .val (.int n), .val (.int v), .val (.int fl), .val (.int (j - a)), .val (.int (((v.toUInt32 >>> (((7 : Int32) * (j - a)) &&& 31).toUInt32).toInt32).toInt8.toInt32))] [(.int (((v.toUInt32 >>> (((7 : Int32) * (j - a)) &&& 31).toUInt32).toInt32).toInt8.toInt32)), (.int (((v.toUInt32 >>> (((7 : Int32) * (j - a)) &&& 31).toUInt32).toInt32).toInt8.toInt32))])) _
          refine XS.icmpNo X0.here hx rfl (hb hby d2_68) rfl (teq (rfl : (((v.toUInt32 >>> (((7 : Int32) * (j - a)) &&& 31).toUInt32).toInt32).toInt8.toInt32) = (((v.toUInt32 >>> (((7 : Int32) * (j - a)) &&& 31).toUInt32).toInt32).toInt8.toInt32))).2 ?_
          show Steps p.tables e below (s₁.setTop (mkF m 71 #[.val (.ref b), .val (.int j), .val (.int a), .val (.int n), .val (.int v), .val (.int fl), .val (.int (j - a)), .val (.int (((v.toUInt32 >>> (((7 : Int32) * (j - a)) &&& 31).toUInt32).toInt32).toInt8.toInt32))] [])) _
          refine XS.iconst X0.here hx rfl (hb hby d2_71) ?_
          show Steps p.tables e below (s₁.setTop (mkF m 72 #[.val (.ref b), .val (.int j), .val (.int a), .val (.int n), .val (.int v), .val (.int fl), .val (.int (j - a)), .val (.int (((v.toUInt32 >>> (((7 : Int32) * (j - a)) &&& 31).toUInt32).toInt32).toInt8.toInt32))] [(.int (1 : Int32))])) _
          refine XS.goto X0.here hx rfl (pc0 := 72) (pc' := 76) rfl (hb hby d2_72) (by decide) (by decide) ?_
          show Steps p.tables e below (s₁.setTop (mkF m 76 #[.val (.ref b), .val (.int j), .val (.int a), .val (.int n), .val (.int v), .val (.int fl), .val (.int (j - a)), .val (.int (((v.toUInt32 >>> (((7 : Int32) * (j - a)) &&& 31).toUInt32).toInt32).toInt8.toInt32))] [(.int (1 : Int32))])) _
          exact retN X0 hx (t := .boolean) Bd.returns (by simp) (hb hby d2_76) hr
        · show Q2 Z b j a n v fl f h0 n0 _ s₁.heap _
          rw [e0]
          exact ⟨rfl, N0, rfl⟩
    · have hv : own_want j a n v fl = fl := by unfold own_want; rw [if_neg h1, if_neg h2]
      obtain ⟨fs, hr, hrun, hended, hW, hsame⟩ := X0.leave (v := some (.int (1 : Int32))) (fun h => by rw [Bd.returns] at h; cases h)
      refine ⟨_, _, pre0 _ ?_, hrun, hended, _, _, rfl, ?_, ⟨_, rfl⟩, hW, hsame.mono (by decide) (by decide)⟩
      · show Steps p.tables e below (s₁.setTop (mkF m 0 #[.val (.ref b), .val (.int j), .val (.int a), .val (.int n), .val (.int v), .val (.int fl), .unset, .unset] [])) _
        refine XS.iloadN X0.here hx rfl (hb hby d2_0) rfl ?_
        show Steps p.tables e below (s₁.setTop (mkF m 1 #[.val (.ref b), .val (.int j), .val (.int a), .val (.int n), .val (.int v), .val (.int fl), .unset, .unset] [(.int j)])) _
        refine XS.iloadN X0.here hx rfl (hb hby d2_1) rfl ?_
        show Steps p.tables e below (s₁.setTop (mkF m 2 #[.val (.ref b), .val (.int j), .val (.int a), .val (.int n), .val (.int v), .val (.int fl), .unset, .unset] [(.int a), (.int j)])) _
        refine XS.isub X0.here hx rfl (hb hby d2_2) rfl ?_
        show Steps p.tables e below (s₁.setTop (mkF m 3 #[.val (.ref b), .val (.int j), .val (.int a), .val (.int n), .val (.int v), .val (.int fl), .unset, .unset] [(.int (j - a))])) _
        refine XS.istore X0.here hx rfl (hb hby d2_3) rfl (l' := #[.val (.ref b), .val (.int j), .val (.int a), .val (.int n), .val (.int v), .val (.int fl), .val (.int (j - a)), .unset]) rfl ?_
        show Steps p.tables e below (s₁.setTop (mkF m 5 #[.val (.ref b), .val (.int j), .val (.int a), .val (.int n), .val (.int v), .val (.int fl), .val (.int (j - a)), .unset] [])) _
        refine XS.iload X0.here hx rfl (hb hby d2_5) rfl ?_
        show Steps p.tables e below (s₁.setTop (mkF m 7 #[.val (.ref b), .val (.int j), .val (.int a), .val (.int n), .val (.int v), .val (.int fl), .val (.int (j - a)), .unset] [(.int (j - a))])) _
        refine XS.ifNo X0.here hx rfl (hb hby d2_7) rfl ((if0 _ _).trans (flt (h1 : ¬ ((j - a) < (0 : Int32)))).1) ?_
        show Steps p.tables e below (s₁.setTop (mkF m 10 #[.val (.ref b), .val (.int j), .val (.int a), .val (.int n), .val (.int v), .val (.int fl), .val (.int (j - a)), .unset] [])) _
        refine XS.iload X0.here hx rfl (hb hby d2_10) rfl ?_
        show Steps p.tables e below (s₁.setTop (mkF m 12 #[.val (.ref b), .val (.int j), .val (.int a), .val (.int n), .val (.int v), .val (.int fl), .val (.int (j - a)), .unset] [(.int (j - a))])) _
        refine XS.iloadN X0.here hx rfl (hb hby d2_12) rfl ?_
        show Steps p.tables e below (s₁.setTop (mkF m 13 #[.val (.ref b), .val (.int j), .val (.int a), .val (.int n), .val (.int v), .val (.int fl), .val (.int (j - a)), .unset] [(.int n), (.int (j - a))])) _
        refine XS.icmpNo X0.here hx rfl (hb hby d2_13) rfl (flt (h2 : ¬ ((j - a) < n))).1 ?_
        show Steps p.tables e below (s₁.setTop (mkF m 16 #[.val (.ref b), .val (.int j), .val (.int a), .val (.int n), .val (.int v), .val (.int fl), .val (.int (j - a)), .unset] [])) _
        refine XS.iload X0.here hx rfl (hb hby d2_16) rfl ?_
        show Steps p.tables e below (s₁.setTop (mkF m 18 #[.val (.ref b), .val (.int j), .val (.int a), .val (.int n), .val (.int v), .val (.int fl), .val (.int (j - a)), .unset] [(.int fl)])) _
        refine XS.istore X0.here hx rfl (hb hby d2_18) rfl (l' := #[.val (.ref b), .val (.int j), .val (.int a), .val (.int n), .val (.int v), .val (.int fl), .val (.int (j - a)), .val (.int fl)]) rfl ?_
        show Steps p.tables e below (s₁.setTop (mkF m 20 #[.val (.ref b), .val (.int j), .val (.int a), .val (.int n), .val (.int v), .val (.int fl), .val (.int (j - a)), .val (.int fl)] [])) _
        refine XS.goto X0.here hx rfl (pc0 := 20) (pc' := 63) rfl (hb hby d2_20) (by decide) (by decide) ?_
        show Steps p.tables e below (s₁.setTop (mkF m 63 #[.val (.ref b), .val (.int j), .val (.int a), .val (.int n), .val (.int v), .val (.int fl), .val (.int (j - a)), .val (.int fl)] [])) _
        refine XS.aloadN X0.here hx rfl (hb hby d2_63) rfl rfl ?_
        show Steps p.tables e below (s₁.setTop (mkF m 64 #[.val (.ref b), .val (.int j), .val (.int a), .val (.int n), .val (.int v), .val (.int fl), .val (.int (j - a)), .val (.int fl)] [(.ref b)])) _
        refine XS.iloadN X0.here hx rfl (hb hby d2_64) rfl ?_
        show Steps p.tables e below (s₁.setTop (mkF m 65 #[.val (.ref b), .val (.int j), .val (.int a), .val (.int n), .val (.int v), .val (.int fl), .val (.int (j - a)), .val (.int fl)] [(.int j), (.ref b)])) _
        refine X0.baloadBytes hx (j := j) (v := (.int fl)) (by rw [e0]; exact Ar.1) (State.isArrayOf_alike hZ.alike Ar.2.1) Ar.2.2 (own_in Sz hj0 rfl hj1) ((Hs _ hj1).trans (congrArg some (hat.trans (congrArg Value.int hv)))) (g := (mkF m 65 #[.val (.ref b), .val (.int j), .val (.int a), .val (.int n), .val (.int v), .val (.int fl), .val (.int (j - a)), .val (.int fl)] [(.int j), (.ref b)])) rfl rfl (hb hby d2_65) _ ?_
        show Steps p.tables e below (s₁.setTop (mkF m 66 #[.val (.ref b), .val (.int j), .val (.int a), .val (.int n), .val (.int v), .val (.int fl), .val (.int (j - a)), .val (.int fl)] [(.int fl)])) _
        refine XS.iload X0.here hx rfl (hb hby d2_66) rfl ?_
        show Steps p.tables e below (s₁.setTop (mkF m 68 #[.val (.ref b), .val (.int j), .val (.int a), .val (.int n), .val (.int v), .val (.int fl), .val (.int (j - a)), .val (.int fl)] [(.int fl), (.int fl)])) _
        refine XS.icmpNo X0.here hx rfl (hb hby d2_68) rfl (teq (rfl : fl = fl)).2 ?_
        show Steps p.tables e below (s₁.setTop (mkF m 71 #[.val (.ref b), .val (.int j), .val (.int a), .val (.int n), .val (.int v), .val (.int fl), .val (.int (j - a)), .val (.int fl)] [])) _
        refine XS.iconst X0.here hx rfl (hb hby d2_71) ?_
        show Steps p.tables e below (s₁.setTop (mkF m 72 #[.val (.ref b), .val (.int j), .val (.int a), .val (.int n), .val (.int v), .val (.int fl), .val (.int (j - a)), .val (.int fl)] [(.int (1 : Int32))])) _
        refine XS.goto X0.here hx rfl (pc0 := 72) (pc' := 76) rfl (hb hby d2_72) (by decide) (by decide) ?_
        show Steps p.tables e below (s₁.setTop (mkF m 76 #[.val (.ref b), .val (.int j), .val (.int a), .val (.int n), .val (.int v), .val (.int fl), .val (.int (j - a)), .val (.int fl)] [(.int (1 : Int32))])) _
        exact retN X0 hx (t := .boolean) Bd.returns (by simp) (hb hby d2_76) hr
      · show Q2 Z b j a n v fl f h0 n0 _ s₁.heap _
        rw [e0]
        exact ⟨rfl, N0, rfl⟩
set_option maxRecDepth 65536 in
set_option maxHeartbeats 40000000 in
theorem sg_72_129 {p : Program} {l : Launch} {e : Env} {R : Room} {s : State} {m : MethodId} {args : Array Value} {below : List Frame} {meth : Method} {c : Code} {T0 : State} {locs : List Loc} {cells slots : Nat} {Z : State} {a0 : Array Value} (p1 p2 p3 p4 n i5 i6 : Int32) (b : Addr) (X0 : Stand p l e R s m args below meth c T0 locs cells slots) (hx : p.tables.exec = Jvm.exec) (hZ : Z.Warmed39 s.vm) (hw : ∀ d ∈ tables_1, d.before a0 Z = true) (hby : c.code = code) (hown : s.vm.findClass "com/example/harbourline/harbourline/messages/SevenBitNumberPutPinLaw" = some m.cls) :
    ∀ target, Steps p.tables e below (T0.setTop (mkF m 129 #[.val (.int p1), .val (.int p2), .val (.int p3), .val (.int p4), .val (.int n), .val (.int i5), .val (.int i6), .val (.ref b), .val (.int (own_len n)), .unset] [])) target → Steps p.tables e below (T0.setTop (mkF m 72 #[.val (.int p1), .val (.int p2), .val (.int p3), .val (.int p4), .val (.int n), .val (.int i5), .val (.int i6), .val (.ref b), .unset, .unset] [])) target := by
  intro target kt
  have kt : ∀ u : Int32, own_len n = u → Steps p.tables e below (T0.setTop (mkF m 129 #[.val (.int p1), .val (.int p2), .val (.int p3), .val (.int p4), .val (.int n), .val (.int i5), .val (.int i6), .val (.ref b), .val (.int u), .unset] [])) target := fun u hu => hu ▸ kt
  by_cases g0 : n < (128 : Int32)
  · show Steps p.tables e below (T0.setTop (mkF m 72 #[.val (.int p1), .val (.int p2), .val (.int p3), .val (.int p4), .val (.int n), .val (.int i5), .val (.int i6), .val (.ref b), .unset, .unset] [])) _
    refine XS.iload X0.here hx rfl (hb hby at_72) rfl ?_
    show Steps p.tables e below (T0.setTop (mkF m 74 #[.val (.int p1), .val (.int p2), .val (.int p3), .val (.int p4), .val (.int n), .val (.int i5), .val (.int i6), .val (.ref b), .unset, .unset] [(.int n)])) _
    refine XS.sipush X0.here hx rfl (hb hby at_74) ?_
    show Steps p.tables e below (T0.setTop (mkF m 77 #[.val (.int p1), .val (.int p2), .val (.int p3), .val (.int p4), .val (.int n), .val (.int i5), .val (.int i6), .val (.ref b), .unset, .unset] [(.int (128 : Int32)), (.int n)])) _
    refine XS.icmpNo X0.here hx rfl (hb hby at_77) rfl (tlt (g0 : n < (128 : Int32))).2.1 ?_
    show Steps p.tables e below (T0.setTop (mkF m 80 #[.val (.int p1), .val (.int p2), .val (.int p3), .val (.int p4), .val (.int n), .val (.int i5), .val (.int i6), .val (.ref b), .unset, .unset] [])) _
    refine XS.iconst X0.here hx rfl (hb hby at_80) ?_
    show Steps p.tables e below (T0.setTop (mkF m 81 #[.val (.int p1), .val (.int p2), .val (.int p3), .val (.int p4), .val (.int n), .val (.int i5), .val (.int i6), .val (.ref b), .unset, .unset] [(.int (1 : Int32))])) _
    refine XS.istore X0.here hx rfl (hb hby at_81) rfl (l' := #[.val (.int p1), .val (.int p2), .val (.int p3), .val (.int p4), .val (.int n), .val (.int i5), .val (.int i6), .val (.ref b), .val (.int (1 : Int32)), .unset]) rfl ?_
    show Steps p.tables e below (T0.setTop (mkF m 83 #[.val (.int p1), .val (.int p2), .val (.int p3), .val (.int p4), .val (.int n), .val (.int i5), .val (.int i6), .val (.ref b), .val (.int (1 : Int32)), .unset] [])) _
    refine XS.goto X0.here hx rfl (pc0 := 83) (pc' := 129) rfl (hb hby at_83) (by decide) (by decide) ?_
    show Steps p.tables e below (T0.setTop (mkF m 129 #[.val (.int p1), .val (.int p2), .val (.int p3), .val (.int p4), .val (.int n), .val (.int i5), .val (.int i6), .val (.ref b), .val (.int (1 : Int32)), .unset] [])) _
    exact kt _ (by unfold own_len own_k; rw [if_pos g0]; rfl)
  · by_cases g1 : n < (16384 : Int32)
    · show Steps p.tables e below (T0.setTop (mkF m 72 #[.val (.int p1), .val (.int p2), .val (.int p3), .val (.int p4), .val (.int n), .val (.int i5), .val (.int i6), .val (.ref b), .unset, .unset] [])) _
      refine XS.iload X0.here hx rfl (hb hby at_72) rfl ?_
      show Steps p.tables e below (T0.setTop (mkF m 74 #[.val (.int p1), .val (.int p2), .val (.int p3), .val (.int p4), .val (.int n), .val (.int i5), .val (.int i6), .val (.ref b), .unset, .unset] [(.int n)])) _
      refine XS.sipush X0.here hx rfl (hb hby at_74) ?_
      show Steps p.tables e below (T0.setTop (mkF m 77 #[.val (.int p1), .val (.int p2), .val (.int p3), .val (.int p4), .val (.int n), .val (.int i5), .val (.int i6), .val (.ref b), .unset, .unset] [(.int (128 : Int32)), (.int n)])) _
      refine XS.icmpYes X0.here hx rfl (pc0 := 77) (pc' := 86) rfl (hb hby at_77) rfl (flt (g0 : ¬ (n < (128 : Int32)))).2.1 (by decide) (by decide) ?_
      show Steps p.tables e below (T0.setTop (mkF m 86 #[.val (.int p1), .val (.int p2), .val (.int p3), .val (.int p4), .val (.int n), .val (.int i5), .val (.int i6), .val (.ref b), .unset, .unset] [])) _
      refine XS.iload X0.here hx rfl (hb hby at_86) rfl ?_
      show Steps p.tables e below (T0.setTop (mkF m 88 #[.val (.int p1), .val (.int p2), .val (.int p3), .val (.int p4), .val (.int n), .val (.int i5), .val (.int i6), .val (.ref b), .unset, .unset] [(.int n)])) _
      refine XS.sipush X0.here hx rfl (hb hby at_88) ?_
      show Steps p.tables e below (T0.setTop (mkF m 91 #[.val (.int p1), .val (.int p2), .val (.int p3), .val (.int p4), .val (.int n), .val (.int i5), .val (.int i6), .val (.ref b), .unset, .unset] [(.int (16384 : Int32)), (.int n)])) _
      refine XS.icmpNo X0.here hx rfl (hb hby at_91) rfl (tlt (g1 : n < (16384 : Int32))).2.1 ?_
      show Steps p.tables e below (T0.setTop (mkF m 94 #[.val (.int p1), .val (.int p2), .val (.int p3), .val (.int p4), .val (.int n), .val (.int i5), .val (.int i6), .val (.ref b), .unset, .unset] [])) _
      refine XS.iconst X0.here hx rfl (hb hby at_94) ?_
      show Steps p.tables e below (T0.setTop (mkF m 95 #[.val (.int p1), .val (.int p2), .val (.int p3), .val (.int p4), .val (.int n), .val (.int i5), .val (.int i6), .val (.ref b), .unset, .unset] [(.int (2 : Int32))])) _
      refine XS.istore X0.here hx rfl (hb hby at_95) rfl (l' := #[.val (.int p1), .val (.int p2), .val (.int p3), .val (.int p4), .val (.int n), .val (.int i5), .val (.int i6), .val (.ref b), .val (.int (2 : Int32)), .unset]) rfl ?_
      show Steps p.tables e below (T0.setTop (mkF m 97 #[.val (.int p1), .val (.int p2), .val (.int p3), .val (.int p4), .val (.int n), .val (.int i5), .val (.int i6), .val (.ref b), .val (.int (2 : Int32)), .unset] [])) _
      refine XS.goto X0.here hx rfl (pc0 := 97) (pc' := 129) rfl (hb hby at_97) (by decide) (by decide) ?_
      show Steps p.tables e below (T0.setTop (mkF m 129 #[.val (.int p1), .val (.int p2), .val (.int p3), .val (.int p4), .val (.int n), .val (.int i5), .val (.int i6), .val (.ref b), .val (.int (2 : Int32)), .unset] [])) _
      exact kt _ (by unfold own_len own_k; rw [if_neg g0, if_pos g1]; rfl)
    · by_cases g2 : n < (2097152 : Int32)
      · show Steps p.tables e below (T0.setTop (mkF m 72 #[.val (.int p1), .val (.int p2), .val (.int p3), .val (.int p4), .val (.int n), .val (.int i5), .val (.int i6), .val (.ref b), .unset, .unset] [])) _
        refine XS.iload X0.here hx rfl (hb hby at_72) rfl ?_
        show Steps p.tables e below (T0.setTop (mkF m 74 #[.val (.int p1), .val (.int p2), .val (.int p3), .val (.int p4), .val (.int n), .val (.int i5), .val (.int i6), .val (.ref b), .unset, .unset] [(.int n)])) _
        refine XS.sipush X0.here hx rfl (hb hby at_74) ?_
        show Steps p.tables e below (T0.setTop (mkF m 77 #[.val (.int p1), .val (.int p2), .val (.int p3), .val (.int p4), .val (.int n), .val (.int i5), .val (.int i6), .val (.ref b), .unset, .unset] [(.int (128 : Int32)), (.int n)])) _
        refine XS.icmpYes X0.here hx rfl (pc0 := 77) (pc' := 86) rfl (hb hby at_77) rfl (flt (g0 : ¬ (n < (128 : Int32)))).2.1 (by decide) (by decide) ?_
        show Steps p.tables e below (T0.setTop (mkF m 86 #[.val (.int p1), .val (.int p2), .val (.int p3), .val (.int p4), .val (.int n), .val (.int i5), .val (.int i6), .val (.ref b), .unset, .unset] [])) _
        refine XS.iload X0.here hx rfl (hb hby at_86) rfl ?_
        show Steps p.tables e below (T0.setTop (mkF m 88 #[.val (.int p1), .val (.int p2), .val (.int p3), .val (.int p4), .val (.int n), .val (.int i5), .val (.int i6), .val (.ref b), .unset, .unset] [(.int n)])) _
        refine XS.sipush X0.here hx rfl (hb hby at_88) ?_
        show Steps p.tables e below (T0.setTop (mkF m 91 #[.val (.int p1), .val (.int p2), .val (.int p3), .val (.int p4), .val (.int n), .val (.int i5), .val (.int i6), .val (.ref b), .unset, .unset] [(.int (16384 : Int32)), (.int n)])) _
        refine XS.icmpYes X0.here hx rfl (pc0 := 91) (pc' := 100) rfl (hb hby at_91) rfl (flt (g1 : ¬ (n < (16384 : Int32)))).2.1 (by decide) (by decide) ?_
        show Steps p.tables e below (T0.setTop (mkF m 100 #[.val (.int p1), .val (.int p2), .val (.int p3), .val (.int p4), .val (.int n), .val (.int i5), .val (.int i6), .val (.ref b), .unset, .unset] [])) _
        refine XS.iload X0.here hx rfl (hb hby at_100) rfl ?_
        show Steps p.tables e below (T0.setTop (mkF m 102 #[.val (.int p1), .val (.int p2), .val (.int p3), .val (.int p4), .val (.int n), .val (.int i5), .val (.int i6), .val (.ref b), .unset, .unset] [(.int n)])) _
        refine X0.ldcInt hx hown (mvT hZ (hw _ (List.mem_of_getElem? (i := 10) rfl))) (g := (mkF m 102 #[.val (.int p1), .val (.int p2), .val (.int p3), .val (.int p4), .val (.int n), .val (.int i5), .val (.int i6), .val (.ref b), .unset, .unset] [(.int n)])) rfl (hb hby at_102) _ ?_
        show Steps p.tables e below (T0.setTop (mkF m 104 #[.val (.int p1), .val (.int p2), .val (.int p3), .val (.int p4), .val (.int n), .val (.int i5), .val (.int i6), .val (.ref b), .unset, .unset] [(.int (2097152 : Int32)), (.int n)])) _
        refine XS.icmpNo X0.here hx rfl (hb hby at_104) rfl (tlt (g2 : n < (2097152 : Int32))).2.1 ?_
        show Steps p.tables e below (T0.setTop (mkF m 107 #[.val (.int p1), .val (.int p2), .val (.int p3), .val (.int p4), .val (.int n), .val (.int i5), .val (.int i6), .val (.ref b), .unset, .unset] [])) _
        refine XS.iconst X0.here hx rfl (hb hby at_107) ?_
        show Steps p.tables e below (T0.setTop (mkF m 108 #[.val (.int p1), .val (.int p2), .val (.int p3), .val (.int p4), .val (.int n), .val (.int i5), .val (.int i6), .val (.ref b), .unset, .unset] [(.int (3 : Int32))])) _
        refine XS.istore X0.here hx rfl (hb hby at_108) rfl (l' := #[.val (.int p1), .val (.int p2), .val (.int p3), .val (.int p4), .val (.int n), .val (.int i5), .val (.int i6), .val (.ref b), .val (.int (3 : Int32)), .unset]) rfl ?_
        show Steps p.tables e below (T0.setTop (mkF m 110 #[.val (.int p1), .val (.int p2), .val (.int p3), .val (.int p4), .val (.int n), .val (.int i5), .val (.int i6), .val (.ref b), .val (.int (3 : Int32)), .unset] [])) _
        refine XS.goto X0.here hx rfl (pc0 := 110) (pc' := 129) rfl (hb hby at_110) (by decide) (by decide) ?_
        show Steps p.tables e below (T0.setTop (mkF m 129 #[.val (.int p1), .val (.int p2), .val (.int p3), .val (.int p4), .val (.int n), .val (.int i5), .val (.int i6), .val (.ref b), .val (.int (3 : Int32)), .unset] [])) _
        exact kt _ (by unfold own_len own_k; rw [if_neg g0, if_neg g1, if_pos g2]; rfl)
      · by_cases g3 : n < (268435456 : Int32)
        · show Steps p.tables e below (T0.setTop (mkF m 72 #[.val (.int p1), .val (.int p2), .val (.int p3), .val (.int p4), .val (.int n), .val (.int i5), .val (.int i6), .val (.ref b), .unset, .unset] [])) _
          refine XS.iload X0.here hx rfl (hb hby at_72) rfl ?_
          show Steps p.tables e below (T0.setTop (mkF m 74 #[.val (.int p1), .val (.int p2), .val (.int p3), .val (.int p4), .val (.int n), .val (.int i5), .val (.int i6), .val (.ref b), .unset, .unset] [(.int n)])) _
          refine XS.sipush X0.here hx rfl (hb hby at_74) ?_
          show Steps p.tables e below (T0.setTop (mkF m 77 #[.val (.int p1), .val (.int p2), .val (.int p3), .val (.int p4), .val (.int n), .val (.int i5), .val (.int i6), .val (.ref b), .unset, .unset] [(.int (128 : Int32)), (.int n)])) _
          refine XS.icmpYes X0.here hx rfl (pc0 := 77) (pc' := 86) rfl (hb hby at_77) rfl (flt (g0 : ¬ (n < (128 : Int32)))).2.1 (by decide) (by decide) ?_
          show Steps p.tables e below (T0.setTop (mkF m 86 #[.val (.int p1), .val (.int p2), .val (.int p3), .val (.int p4), .val (.int n), .val (.int i5), .val (.int i6), .val (.ref b), .unset, .unset] [])) _
          refine XS.iload X0.here hx rfl (hb hby at_86) rfl ?_
          show Steps p.tables e below (T0.setTop (mkF m 88 #[.val (.int p1), .val (.int p2), .val (.int p3), .val (.int p4), .val (.int n), .val (.int i5), .val (.int i6), .val (.ref b), .unset, .unset] [(.int n)])) _
          refine XS.sipush X0.here hx rfl (hb hby at_88) ?_
          show Steps p.tables e below (T0.setTop (mkF m 91 #[.val (.int p1), .val (.int p2), .val (.int p3), .val (.int p4), .val (.int n), .val (.int i5), .val (.int i6), .val (.ref b), .unset, .unset] [(.int (16384 : Int32)), (.int n)])) _
          refine XS.icmpYes X0.here hx rfl (pc0 := 91) (pc' := 100) rfl (hb hby at_91) rfl (flt (g1 : ¬ (n < (16384 : Int32)))).2.1 (by decide) (by decide) ?_
          show Steps p.tables e below (T0.setTop (mkF m 100 #[.val (.int p1), .val (.int p2), .val (.int p3), .val (.int p4), .val (.int n), .val (.int i5), .val (.int i6), .val (.ref b), .unset, .unset] [])) _
          refine XS.iload X0.here hx rfl (hb hby at_100) rfl ?_
          show Steps p.tables e below (T0.setTop (mkF m 102 #[.val (.int p1), .val (.int p2), .val (.int p3), .val (.int p4), .val (.int n), .val (.int i5), .val (.int i6), .val (.ref b), .unset, .unset] [(.int n)])) _
          refine X0.ldcInt hx hown (mvT hZ (hw _ (List.mem_of_getElem? (i := 10) rfl))) (g := (mkF m 102 #[.val (.int p1), .val (.int p2), .val (.int p3), .val (.int p4), .val (.int n), .val (.int i5), .val (.int i6), .val (.ref b), .unset, .unset] [(.int n)])) rfl (hb hby at_102) _ ?_
          show Steps p.tables e below (T0.setTop (mkF m 104 #[.val (.int p1), .val (.int p2), .val (.int p3), .val (.int p4), .val (.int n), .val (.int i5), .val (.int i6), .val (.ref b), .unset, .unset] [(.int (2097152 : Int32)), (.int n)])) _
          refine XS.icmpYes X0.here hx rfl (pc0 := 104) (pc' := 113) rfl (hb hby at_104) rfl (flt (g2 : ¬ (n < (2097152 : Int32)))).2.1 (by decide) (by decide) ?_
          show Steps p.tables e below (T0.setTop (mkF m 113 #[.val (.int p1), .val (.int p2), .val (.int p3), .val (.int p4), .val (.int n), .val (.int i5), .val (.int i6), .val (.ref b), .unset, .unset] [])) _
          refine XS.iload X0.here hx rfl (hb hby at_113) rfl ?_
          show Steps p.tables e below (T0.setTop (mkF m 115 #[.val (.int p1), .val (.int p2), .val (.int p3), .val (.int p4), .val (.int n), .val (.int i5), .val (.int i6), .val (.ref b), .unset, .unset] [(.int n)])) _
          refine X0.ldcInt hx hown (mvT hZ (hw _ (List.mem_of_getElem? (i := 11) rfl))) (g := (mkF m 115 #[.val (.int p1), .val (.int p2), .val (.int p3), .val (.int p4), .val (.int n), .val (.int i5), .val (.int i6), .val (.ref b), .unset, .unset] [(.int n)])) rfl (hb hby at_115) _ ?_
          show Steps p.tables e below (T0.setTop (mkF m 117 #[.val (.int p1), .val (.int p2), .val (.int p3), .val (.int p4), .val (.int n), .val (.int i5), .val (.int i6), .val (.ref b), .unset, .unset] [(.int (268435456 : Int32)), (.int n)])) _
          refine XS.icmpNo X0.here hx rfl (hb hby at_117) rfl (tlt (g3 : n < (268435456 : Int32))).2.1 ?_
          show Steps p.tables e below (T0.setTop (mkF m 120 #[.val (.int p1), .val (.int p2), .val (.int p3), .val (.int p4), .val (.int n), .val (.int i5), .val (.int i6), .val (.ref b), .unset, .unset] [])) _
          refine XS.iconst X0.here hx rfl (hb hby at_120) ?_
          show Steps p.tables e below (T0.setTop (mkF m 121 #[.val (.int p1), .val (.int p2), .val (.int p3), .val (.int p4), .val (.int n), .val (.int i5), .val (.int i6), .val (.ref b), .unset, .unset] [(.int (4 : Int32))])) _
          refine XS.istore X0.here hx rfl (hb hby at_121) rfl (l' := #[.val (.int p1), .val (.int p2), .val (.int p3), .val (.int p4), .val (.int n), .val (.int i5), .val (.int i6), .val (.ref b), .val (.int (4 : Int32)), .unset]) rfl ?_
          show Steps p.tables e below (T0.setTop (mkF m 123 #[.val (.int p1), .val (.int p2), .val (.int p3), .val (.int p4), .val (.int n), .val (.int i5), .val (.int i6), .val (.ref b), .val (.int (4 : Int32)), .unset] [])) _
          refine XS.goto X0.here hx rfl (pc0 := 123) (pc' := 129) rfl (hb hby at_123) (by decide) (by decide) ?_
          show Steps p.tables e below (T0.setTop (mkF m 129 #[.val (.int p1), .val (.int p2), .val (.int p3), .val (.int p4), .val (.int n), .val (.int i5), .val (.int i6), .val (.ref b), .val (.int (4 : Int32)), .unset] [])) _
          exact kt _ (by unfold own_len own_k; rw [if_neg g0, if_neg g1, if_neg g2, if_pos g3]; rfl)
        · show Steps p.tables e below (T0.setTop (mkF m 72 #[.val (.int p1), .val (.int p2), .val (.int p3), .val (.int p4), .val (.int n), .val (.int i5), .val (.int i6), .val (.ref b), .unset, .unset] [])) _
          refine XS.iload X0.here hx rfl (hb hby at_72) rfl ?_
          show Steps p.tables e below (T0.setTop (mkF m 74 #[.val (.int p1), .val (.int p2), .val (.int p3), .val (.int p4), .val (.int n), .val (.int i5), .val (.int i6), .val (.ref b), .unset, .unset] [(.int n)])) _
          refine XS.sipush X0.here hx rfl (hb hby at_74) ?_
          show Steps p.tables e below (T0.setTop (mkF m 77 #[.val (.int p1), .val (.int p2), .val (.int p3), .val (.int p4), .val (.int n), .val (.int i5), .val (.int i6), .val (.ref b), .unset, .unset] [(.int (128 : Int32)), (.int n)])) _
          refine XS.icmpYes X0.here hx rfl (pc0 := 77) (pc' := 86) rfl (hb hby at_77) rfl (flt (g0 : ¬ (n < (128 : Int32)))).2.1 (by decide) (by decide) ?_
          show Steps p.tables e below (T0.setTop (mkF m 86 #[.val (.int p1), .val (.int p2), .val (.int p3), .val (.int p4), .val (.int n), .val (.int i5), .val (.int i6), .val (.ref b), .unset, .unset] [])) _
          refine XS.iload X0.here hx rfl (hb hby at_86) rfl ?_
          show Steps p.tables e below (T0.setTop (mkF m 88 #[.val (.int p1), .val (.int p2), .val (.int p3), .val (.int p4), .val (.int n), .val (.int i5), .val (.int i6), .val (.ref b), .unset, .unset] [(.int n)])) _
          refine XS.sipush X0.here hx rfl (hb hby at_88) ?_
          show Steps p.tables e below (T0.setTop (mkF m 91 #[.val (.int p1), .val (.int p2), .val (.int p3), .val (.int p4), .val (.int n), .val (.int i5), .val (.int i6), .val (.ref b), .unset, .unset] [(.int (16384 : Int32)), (.int n)])) _
          refine XS.icmpYes X0.here hx rfl (pc0 := 91) (pc' := 100) rfl (hb hby at_91) rfl (flt (g1 : ¬ (n < (16384 : Int32)))).2.1 (by decide) (by decide) ?_
          show Steps p.tables e below (T0.setTop (mkF m 100 #[.val (.int p1), .val (.int p2), .val (.int p3), .val (.int p4), .val (.int n), .val (.int i5), .val (.int i6), .val (.ref b), .unset, .unset] [])) _
          refine XS.iload X0.here hx rfl (hb hby at_100) rfl ?_
          show Steps p.tables e below (T0.setTop (mkF m 102 #[.val (.int p1), .val (.int p2), .val (.int p3), .val (.int p4), .val (.int n), .val (.int i5), .val (.int i6), .val (.ref b), .unset, .unset] [(.int n)])) _
          refine X0.ldcInt hx hown (mvT hZ (hw _ (List.mem_of_getElem? (i := 10) rfl))) (g := (mkF m 102 #[.val (.int p1), .val (.int p2), .val (.int p3), .val (.int p4), .val (.int n), .val (.int i5), .val (.int i6), .val (.ref b), .unset, .unset] [(.int n)])) rfl (hb hby at_102) _ ?_
          show Steps p.tables e below (T0.setTop (mkF m 104 #[.val (.int p1), .val (.int p2), .val (.int p3), .val (.int p4), .val (.int n), .val (.int i5), .val (.int i6), .val (.ref b), .unset, .unset] [(.int (2097152 : Int32)), (.int n)])) _
          refine XS.icmpYes X0.here hx rfl (pc0 := 104) (pc' := 113) rfl (hb hby at_104) rfl (flt (g2 : ¬ (n < (2097152 : Int32)))).2.1 (by decide) (by decide) ?_
          show Steps p.tables e below (T0.setTop (mkF m 113 #[.val (.int p1), .val (.int p2), .val (.int p3), .val (.int p4), .val (.int n), .val (.int i5), .val (.int i6), .val (.ref b), .unset, .unset] [])) _
          refine XS.iload X0.here hx rfl (hb hby at_113) rfl ?_
          show Steps p.tables e below (T0.setTop (mkF m 115 #[.val (.int p1), .val (.int p2), .val (.int p3), .val (.int p4), .val (.int n), .val (.int i5), .val (.int i6), .val (.ref b), .unset, .unset] [(.int n)])) _
          refine X0.ldcInt hx hown (mvT hZ (hw _ (List.mem_of_getElem? (i := 11) rfl))) (g := (mkF m 115 #[.val (.int p1), .val (.int p2), .val (.int p3), .val (.int p4), .val (.int n), .val (.int i5), .val (.int i6), .val (.ref b), .unset, .unset] [(.int n)])) rfl (hb hby at_115) _ ?_
          show Steps p.tables e below (T0.setTop (mkF m 117 #[.val (.int p1), .val (.int p2), .val (.int p3), .val (.int p4), .val (.int n), .val (.int i5), .val (.int i6), .val (.ref b), .unset, .unset] [(.int (268435456 : Int32)), (.int n)])) _
          refine XS.icmpYes X0.here hx rfl (pc0 := 117) (pc' := 126) rfl (hb hby at_117) rfl (flt (g3 : ¬ (n < (268435456 : Int32)))).2.1 (by decide) (by decide) ?_
          show Steps p.tables e below (T0.setTop (mkF m 126 #[.val (.int p1), .val (.int p2), .val (.int p3), .val (.int p4), .val (.int n), .val (.int i5), .val (.int i6), .val (.ref b), .unset, .unset] [])) _
          refine XS.iconst X0.here hx rfl (hb hby at_126) ?_
          show Steps p.tables e below (T0.setTop (mkF m 127 #[.val (.int p1), .val (.int p2), .val (.int p3), .val (.int p4), .val (.int n), .val (.int i5), .val (.int i6), .val (.ref b), .unset, .unset] [(.int (5 : Int32))])) _
          refine XS.istore X0.here hx rfl (hb hby at_127) rfl (l' := #[.val (.int p1), .val (.int p2), .val (.int p3), .val (.int p4), .val (.int n), .val (.int i5), .val (.int i6), .val (.ref b), .val (.int (5 : Int32)), .unset]) rfl ?_
          show Steps p.tables e below (T0.setTop (mkF m 129 #[.val (.int p1), .val (.int p2), .val (.int p3), .val (.int p4), .val (.int n), .val (.int i5), .val (.int i6), .val (.ref b), .val (.int (5 : Int32)), .unset] [])) _
          exact kt _ (by unfold own_len own_k; rw [if_neg g0, if_neg g1, if_neg g2, if_neg g3]; rfl)
theorem ef_0 (m : MethodId) (x0 : Int32) (x1 : Int32) (x2 : Int32) (x3 : Int32) : entryFrame m #[(.int x0), (.int x1), (.int x2), (.int x3)] maxLocals = mkF m 0 #[.val (.int x0), .val (.int x1), .val (.int x2), .val (.int x3), .unset, .unset, .unset, .unset, .unset, .unset] [] := by first | (simp [entryFrame, mkF, argsToLocals, Value.category, maxLocals]; done) | rfl
theorem pn_0 : plainName "com/example/harbourline/harbourline/messages/SevenBitNumberPutPinLaw" = true := by first | (simp [plainName, overriddenIn]; done) | decide +kernel
def Q0 (Z : State) (p1 : Int32) (p2 : Int32) (p3 : Int32) (p4 : Int32) (h0 : Heap) (n0 : Nat) (rv : Option Value) (h : Heap) (Lq : List Loc) : Prop := rv = some (.int (1 : Int32)) ∧ Fr n0 Lq
set_option maxRecDepth 65536 in
set_option maxHeartbeats 40000000 in
theorem rm0 (l : Launch) (Z : State) (a0 : Array Value) (hw : ∀ d ∈ tables_1, d.before a0 Z = true) (ws : List Jvm.Cond) (p1 : Int32) (p2 : Int32) (p3 : Int32) (p4 : Int32) (h0 : Heap) (n0 : Nat) (Z0 : n0 ≤ h0.size) :
    MetFree l x (head1 (Jvm.Cond.code x code maxLocals ret :: ws) room_1) (fun xx U => xx = #[(.int p1), (.int p2), (.int p3), (.int p4)] ∧ Z.Warmed39 U.vm ∧ U.heap = h0) (fun _ _ _ _ _ => True) (fun _ U o U' => ∃ rv Lq, o = .returned rv ∧ Q0 Z p1 p2 p3 p4 h0 n0 rv U'.heap Lq ∧ FrameEnd U o U' Lq room_1.cells room_1.slots) := by
  refine MetFree.of_bodySF (plainFor_of_name pn_0) hisR ?_
  intro p e s m args below meth c s₁ Bd hml0 hP hK
  obtain ⟨rfl, hZ, hh⟩ := hP
  have hx := Bd.exec
  have hby := Bd.bytes
  have hml : c.maxLocals = 10 := hml0
  have hown : s.vm.findClass "com/example/harbourline/harbourline/messages/SevenBitNumberPutPinLaw" = some m.cls := findClass_of_methodNamed Bd.named
  have hnm := (name_of_methodNamed Bd.named Bd.method).1
  have X0 : Stand p l e room_1 s m #[(.int p1), (.int p2), (.int p3), (.int p4)] below meth c s₁ [] 0 0 := Stand.of_body Bd
  have e0 : s₁.heap = h0 := by rw [← hh, Bd.state]; rfl
  have N0 := Fr.nil n0
  have pre0 : ∀ t, Steps p.tables e below (s₁.setTop (mkF m 0 #[.val (.int p1), .val (.int p2), .val (.int p3), .val (.int p4), .unset, .unset, .unset, .unset, .unset, .unset] [])) t → Steps p.tables e below (s₁.setTop (entryFrame m #[(.int p1), (.int p2), (.int p3), (.int p4)] maxLocals)) t := fun t k => castTop (ef_0 m p1 p2 p3 p4) k
  obtain ⟨a, ha, hat⟩ := own_ax p3
  have hc := own_ck (own_n p1 p2) (own_n0 p1 p2)
  have hk := own_k_lt (own_n p1 p2)
  have hlen : own_len (own_n p1 p2) = Int32.ofNat (own_k (own_n p1 p2) + 1) := rfl
  have hfl : nar .byte (own_fl p4) = (own_fl p4) := own_nar p4
  have sg0 : ∀ target, Steps p.tables e below (s₁.setTop (mkF m 23 #[.val (.int p1), .val (.int p2), .val (.int p3), .val (.int p4), .val (.int (own_n p1 p2)), .val (.int (own_a p3)), .val (.int (own_fl p4)), .unset, .unset, .unset] [])) target → Steps p.tables e below (s₁.setTop (mkF m 0 #[.val (.int p1), .val (.int p2), .val (.int p3), .val (.int p4), .unset, .unset, .unset, .unset, .unset, .unset] [])) target := by
    intro target kt
    show Steps p.tables e below (s₁.setTop (mkF m 0 #[.val (.int p1), .val (.int p2), .val (.int p3), .val (.int p4), .unset, .unset, .unset, .unset, .unset, .unset] [])) _
    refine XS.iloadN X0.here hx rfl (hb hby at_0) rfl ?_
    show Steps p.tables e below (s₁.setTop (mkF m 1 #[.val (.int p1), .val (.int p2), .val (.int p3), .val (.int p4), .unset, .unset, .unset, .unset, .unset, .unset] [(.int p1)])) _
    refine X0.ldcInt hx hown (mvT hZ (hw _ (List.mem_of_getElem? (i := 0) rfl))) (g := (mkF m 1 #[.val (.int p1), .val (.int p2), .val (.int p3), .val (.int p4), .unset, .unset, .unset, .unset, .unset, .unset] [(.int p1)])) rfl (hb hby at_1) _ ?_
    show Steps p.tables e below (s₁.setTop (mkF m 3 #[.val (.int p1), .val (.int p2), .val (.int p3), .val (.int p4), .unset, .unset, .unset, .unset, .unset, .unset] [(.int (2147483647 : Int32)), (.int p1)])) _
    refine XS.iand X0.here hx rfl (hb hby at_3) rfl ?_
    show Steps p.tables e below (s₁.setTop (mkF m 4 #[.val (.int p1), .val (.int p2), .val (.int p3), .val (.int p4), .unset, .unset, .unset, .unset, .unset, .unset] [(.int (p1 &&& (2147483647 : Int32)))])) _
    refine XS.iloadN X0.here hx rfl (hb hby at_4) rfl ?_
    show Steps p.tables e below (s₁.setTop (mkF m 5 #[.val (.int p1), .val (.int p2), .val (.int p3), .val (.int p4), .unset, .unset, .unset, .unset, .unset, .unset] [(.int p2), (.int (p1 &&& (2147483647 : Int32)))])) _
    refine XS.bipush X0.here hx rfl (hb hby at_5) ?_
    show Steps p.tables e below (s₁.setTop (mkF m 7 #[.val (.int p1), .val (.int p2), .val (.int p3), .val (.int p4), .unset, .unset, .unset, .unset, .unset, .unset] [(.int (31 : Int32)), (.int p2), (.int (p1 &&& (2147483647 : Int32)))])) _
    refine XS.iand X0.here hx rfl (hb hby at_7) rfl ?_
    show Steps p.tables e below (s₁.setTop (mkF m 8 #[.val (.int p1), .val (.int p2), .val (.int p3), .val (.int p4), .unset, .unset, .unset, .unset, .unset, .unset] [(.int (p2 &&& (31 : Int32))), (.int (p1 &&& (2147483647 : Int32)))])) _
    refine XS.iushr X0.here hx rfl (hb hby at_8) rfl ?_
    show Steps p.tables e below (s₁.setTop (mkF m 9 #[.val (.int p1), .val (.int p2), .val (.int p3), .val (.int p4), .unset, .unset, .unset, .unset, .unset, .unset] [(.int (((p1 &&& (2147483647 : Int32)).toUInt32 >>> ((p2 &&& (31 : Int32)) &&& 31).toUInt32).toInt32))])) _
    show Steps p.tables e below (s₁.setTop (mkF m 9 #[.val (.int p1), .val (.int p2), .val (.int p3), .val (.int p4), .unset, .unset, .unset, .unset, .unset, .unset] [(.int (own_n p1 p2))])) _
    refine XS.istore X0.here hx rfl (hb hby at_9) rfl (l' := #[.val (.int p1), .val (.int p2), .val (.int p3), .val (.int p4), .val (.int (own_n p1 p2)), .unset, .unset, .unset, .unset, .unset]) rfl ?_
    show Steps p.tables e below (s₁.setTop (mkF m 11 #[.val (.int p1), .val (.int p2), .val (.int p3), .val (.int p4), .val (.int (own_n p1 p2)), .unset, .unset, .unset, .unset, .unset] [])) _
    refine XS.iloadN X0.here hx rfl (hb hby at_11) rfl ?_
    show Steps p.tables e below (s₁.setTop (mkF m 12 #[.val (.int p1), .val (.int p2), .val (.int p3), .val (.int p4), .val (.int (own_n p1 p2)), .unset, .unset, .unset, .unset, .unset] [(.int p3)])) _
    refine X0.ldcInt hx hown (mvT hZ (hw _ (List.mem_of_getElem? (i := 0) rfl))) (g := (mkF m 12 #[.val (.int p1), .val (.int p2), .val (.int p3), .val (.int p4), .val (.int (own_n p1 p2)), .unset, .unset, .unset, .unset, .unset] [(.int p3)])) rfl (hb hby at_12) _ ?_
    show Steps p.tables e below (s₁.setTop (mkF m 14 #[.val (.int p1), .val (.int p2), .val (.int p3), .val (.int p4), .val (.int (own_n p1 p2)), .unset, .unset, .unset, .unset, .unset] [(.int (2147483647 : Int32)), (.int p3)])) _
    refine XS.iand X0.here hx rfl (hb hby at_14) rfl ?_
    show Steps p.tables e below (s₁.setTop (mkF m 15 #[.val (.int p1), .val (.int p2), .val (.int p3), .val (.int p4), .val (.int (own_n p1 p2)), .unset, .unset, .unset, .unset, .unset] [(.int (p3 &&& (2147483647 : Int32)))])) _
    refine XS.iconst X0.here hx rfl (hb hby at_15) ?_
    show Steps p.tables e below (s₁.setTop (mkF m 16 #[.val (.int p1), .val (.int p2), .val (.int p3), .val (.int p4), .val (.int (own_n p1 p2)), .unset, .unset, .unset, .unset, .unset] [(.int (3 : Int32)), (.int (p3 &&& (2147483647 : Int32)))])) _
    refine iremM (g := (mkF m 16 #[.val (.int p1), .val (.int p2), .val (.int p3), .val (.int p4), .val (.int (own_n p1 p2)), .unset, .unset, .unset, .unset, .unset] [(.int (3 : Int32)), (.int (p3 &&& (2147483647 : Int32)))])) X0 hx rfl (hb hby at_16) rfl (by decide) ?_
    show Steps p.tables e below (s₁.setTop (mkF m 17 #[.val (.int p1), .val (.int p2), .val (.int p3), .val (.int p4), .val (.int (own_n p1 p2)), .unset, .unset, .unset, .unset, .unset] [(.int ((p3 &&& (2147483647 : Int32)) % (3 : Int32)))])) _
    show Steps p.tables e below (s₁.setTop (mkF m 17 #[.val (.int p1), .val (.int p2), .val (.int p3), .val (.int p4), .val (.int (own_n p1 p2)), .unset, .unset, .unset, .unset, .unset] [(.int (own_a p3))])) _
    refine XS.istore X0.here hx rfl (hb hby at_17) rfl (l' := #[.val (.int p1), .val (.int p2), .val (.int p3), .val (.int p4), .val (.int (own_n p1 p2)), .val (.int (own_a p3)), .unset, .unset, .unset, .unset]) rfl ?_
    show Steps p.tables e below (s₁.setTop (mkF m 19 #[.val (.int p1), .val (.int p2), .val (.int p3), .val (.int p4), .val (.int (own_n p1 p2)), .val (.int (own_a p3)), .unset, .unset, .unset, .unset] [])) _
    refine XS.iloadN X0.here hx rfl (hb hby at_19) rfl ?_
    show Steps p.tables e below (s₁.setTop (mkF m 20 #[.val (.int p1), .val (.int p2), .val (.int p3), .val (.int p4), .val (.int (own_n p1 p2)), .val (.int (own_a p3)), .unset, .unset, .unset, .unset] [(.int p4)])) _
    refine XS.i2b X0.here hx rfl (hb hby at_20) rfl ?_
    show Steps p.tables e below (s₁.setTop (mkF m 21 #[.val (.int p1), .val (.int p2), .val (.int p3), .val (.int p4), .val (.int (own_n p1 p2)), .val (.int (own_a p3)), .unset, .unset, .unset, .unset] [(.int (p4.toInt8.toInt32))])) _
    show Steps p.tables e below (s₁.setTop (mkF m 21 #[.val (.int p1), .val (.int p2), .val (.int p3), .val (.int p4), .val (.int (own_n p1 p2)), .val (.int (own_a p3)), .unset, .unset, .unset, .unset] [(.int (own_fl p4))])) _
    refine XS.istore X0.here hx rfl (hb hby at_21) rfl (l' := #[.val (.int p1), .val (.int p2), .val (.int p3), .val (.int p4), .val (.int (own_n p1 p2)), .val (.int (own_a p3)), .val (.int (own_fl p4)), .unset, .unset, .unset]) rfl ?_
    show Steps p.tables e below (s₁.setTop (mkF m 23 #[.val (.int p1), .val (.int p2), .val (.int p3), .val (.int p4), .val (.int (own_n p1 p2)), .val (.int (own_a p3)), .val (.int (own_fl p4)), .unset, .unset, .unset] [])) _
    exact kt
  generalize own_k (own_n p1 p2) = k at hc hk hlen
  generalize own_n p1 p2 = n at hc hlen sg0
  generalize own_a p3 = i5 at hat sg0
  generalize own_fl p4 = fl at hfl sg0
  obtain ⟨T1, h1, k1, X1, e1, E1, A1, st1⟩ := newP X0 hx hZ (hw _ (List.mem_of_getElem? (i := 1) rfl)) e0 (g := (mkF m 25 #[.val (.int p1), .val (.int p2), .val (.int p3), .val (.int p4), .val (.int n), .val (.int i5), .val (.int fl), .unset, .unset, .unset] [(.int (7 : Int32))])) rfl (hb hby at_25) rfl (by decide) (cap := 7) (by decide) (by decide) (by decide) (by decide)
  obtain ⟨b, g1⟩ : ∃ z, z = h0.size := ⟨_, rfl⟩
  have g_b : n0 ≤ b := Nat.le_trans Z0 (Nat.le_of_eq g1.symm)
  rw [← g1] at A1 st1
  have V1 := own_A.new (n := 7) A1 (by decide)
  obtain ⟨cl0, Ar0, Sz0, Hs0⟩ := id V1
  obtain ⟨T2, h2, X2, e2, W2, st2⟩ := stB X1 hx hZ e1 Ar0 (j := (0 : Int32)) (own_in (k := 0) Sz0 (by decide) rfl (by decide)) (g := (mkF m 34 #[.val (.int p1), .val (.int p2), .val (.int p3), .val (.int p4), .val (.int n), .val (.int i5), .val (.int fl), .val (.ref b), .unset, .unset] [(.int fl), (.int (0 : Int32)), (.ref b)])) rfl rfl (hb hby at_34)
  have N2 := Fr.snoc X2 N0 g_b
  rw [hfl] at W2
  have U2 : Wr _ _ b 0 (.int fl) := W2
  have V2 := V1.set (k := 0) (by decide) U2
  obtain ⟨cl1, Ar1, Sz1, Hs1⟩ := id V2
  obtain ⟨T3, h3, X3, e3, W3, st3⟩ := stB X2 hx hZ e2 Ar1 (j := (1 : Int32)) (own_in (k := 1) Sz1 (by decide) rfl (by decide)) (g := (mkF m 40 #[.val (.int p1), .val (.int p2), .val (.int p3), .val (.int p4), .val (.int n), .val (.int i5), .val (.int fl), .val (.ref b), .unset, .unset] [(.int fl), (.int (1 : Int32)), (.ref b)])) rfl rfl (hb hby at_40)
  have N3 := Fr.snoc X3 N2 g_b
  rw [hfl] at W3
  have U3 : Wr _ _ b 1 (.int fl) := W3
  have V3 := V2.set (k := 1) (by decide) U3
  obtain ⟨cl2, Ar2, Sz2, Hs2⟩ := id V3
  obtain ⟨T4, h4, X4, e4, W4, st4⟩ := stB X3 hx hZ e3 Ar2 (j := (2 : Int32)) (own_in (k := 2) Sz2 (by decide) rfl (by decide)) (g := (mkF m 46 #[.val (.int p1), .val (.int p2), .val (.int p3), .val (.int p4), .val (.int n), .val (.int i5), .val (.int fl), .val (.ref b), .unset, .unset] [(.int fl), (.int (2 : Int32)), (.ref b)])) rfl rfl (hb hby at_46)
  have N4 := Fr.snoc X4 N3 g_b
  rw [hfl] at W4
  have U4 : Wr _ _ b 2 (.int fl) := W4
  have V4 := V3.set (k := 2) (by decide) U4
  obtain ⟨cl3, Ar3, Sz3, Hs3⟩ := id V4
  obtain ⟨T5, h5, X5, e5, W5, st5⟩ := stB X4 hx hZ e4 Ar3 (j := (3 : Int32)) (own_in (k := 3) Sz3 (by decide) rfl (by decide)) (g := (mkF m 52 #[.val (.int p1), .val (.int p2), .val (.int p3), .val (.int p4), .val (.int n), .val (.int i5), .val (.int fl), .val (.ref b), .unset, .unset] [(.int fl), (.int (3 : Int32)), (.ref b)])) rfl rfl (hb hby at_52)
  have N5 := Fr.snoc X5 N4 g_b
  rw [hfl] at W5
  have U5 : Wr _ _ b 3 (.int fl) := W5
  have V5 := V4.set (k := 3) (by decide) U5
  obtain ⟨cl4, Ar4, Sz4, Hs4⟩ := id V5
  obtain ⟨T6, h6, X6, e6, W6, st6⟩ := stB X5 hx hZ e5 Ar4 (j := (4 : Int32)) (own_in (k := 4) Sz4 (by decide) rfl (by decide)) (g := (mkF m 58 #[.val (.int p1), .val (.int p2), .val (.int p3), .val (.int p4), .val (.int n), .val (.int i5), .val (.int fl), .val (.ref b), .unset, .unset] [(.int fl), (.int (4 : Int32)), (.ref b)])) rfl rfl (hb hby at_58)
  have N6 := Fr.snoc X6 N5 g_b
  rw [hfl] at W6
  have U6 : Wr _ _ b 4 (.int fl) := W6
  have V6 := V5.set (k := 4) (by decide) U6
  obtain ⟨cl5, Ar5, Sz5, Hs5⟩ := id V6
  obtain ⟨T7, h7, X7, e7, W7, st7⟩ := stB X6 hx hZ e6 Ar5 (j := (5 : Int32)) (own_in (k := 5) Sz5 (by decide) rfl (by decide)) (g := (mkF m 64 #[.val (.int p1), .val (.int p2), .val (.int p3), .val (.int p4), .val (.int n), .val (.int i5), .val (.int fl), .val (.ref b), .unset, .unset] [(.int fl), (.int (5 : Int32)), (.ref b)])) rfl rfl (hb hby at_64)
  have N7 := Fr.snoc X7 N6 g_b
  rw [hfl] at W7
  have U7 : Wr _ _ b 5 (.int fl) := W7
  have V7 := V6.set (k := 5) (by decide) U7
  obtain ⟨cl6, Ar6, Sz6, Hs6⟩ := id V7
  obtain ⟨T8, h8, X8, e8, W8, st8⟩ := stB X7 hx hZ e7 Ar6 (j := (6 : Int32)) (own_in (k := 6) Sz6 (by decide) rfl (by decide)) (g := (mkF m 71 #[.val (.int p1), .val (.int p2), .val (.int p3), .val (.int p4), .val (.int n), .val (.int i5), .val (.int fl), .val (.ref b), .unset, .unset] [(.int fl), (.int (6 : Int32)), (.ref b)])) rfl rfl (hb hby at_71)
  have N8 := Fr.snoc X8 N7 g_b
  rw [hfl] at W8
  have U8 : Wr _ _ b 6 (.int fl) := W8
  have V8 := V7.set (k := 6) (by decide) U8
  have VF : own_A Z h8 b .byte 7 (fun _ => .int fl) := V8.alike (fun j hj => by
    have hj7 : j = 0 ∨ j = 1 ∨ j = 2 ∨ j = 3 ∨ j = 4 ∨ j = 5 ∨ j = 6 := by omega
    rcases hj7 with rfl | rfl | rfl | rfl | rfl | rfl | rfl <;> rfl)
  obtain ⟨_, _, ⟨T9, L9, k9, n9⟩, -, X9, ⟨Lc9, hQ9, l9, y9, z9⟩, st9⟩ := Jvm.LawKit.callS X8 hx (y := (⟨"com/example/harbourline/harbourline/messages/SevenBitNumber", "put", "([BII)I"⟩ : MethodName)) hown (mvT hZ (hw _ (List.mem_of_getElem? (i := 2) rfl))) (mvT hZ (hw _ (List.mem_of_getElem? (i := 3) rfl))) (mvT hZ (hw _ (List.mem_of_getElem? (i := 4) rfl))) (mvT hZ (hw _ (List.mem_of_getElem? (i := 5) rfl))) (by decide) (backOf (W := 0) (rm1 l Z a0 hw [] b i5 n a k _ h8 n0 (Nat.le_trans (Nat.le_trans (Nat.le_trans (Nat.le_trans (Nat.le_trans (Nat.le_trans (Nat.le_trans (Nat.le_trans Z0 E1.1) (Keep.of_wr W2).1) (Keep.of_wr W3).1) (Keep.of_wr W4).1) (Keep.of_wr W5).1) (Keep.of_wr W6).1) (Keep.of_wr W7).1) (Keep.of_wr W8).1) VF g_b hat (by omega) hc) hZ (hw _ (List.mem_of_getElem? (i := 5) rfl)) (hw _ (List.mem_of_getElem? (i := 4) rfl)) (by decide) (by decide)) (g := (mkF m 135 #[.val (.int p1), .val (.int p2), .val (.int p3), .val (.int p4), .val (.int n), .val (.int i5), .val (.int fl), .val (.ref b), .val (.int (own_len n)), .unset] [(.int n), (.int i5), (.ref b)])) rfl (by rw [hml]; rfl) (argsL := [(.ref b), (.int i5), (.int n)]) (rest := []) (lenOf pdx_0 rfl) rfl (by show 2 * 0 + _ ≤ _; exact Nat.le_of_eq rfl) (hb hby at_135) (fun _ _ => ⟨rfl, e8, (by decide : 1 + 0 ≤ _), (by decide : 7 + 0 ≤ _)⟩)
  dsimp only [Pt.U, Pt.locs, Pt.cells, Pt.slots] at X9 l9 y9 z9 st9 hQ9
  subst l9 y9 z9
  obtain ⟨rfl, N9q, K9, x9v⟩ := hQ9
  have N9 := Fr.app N8 N9q
  obtain ⟨_, _, ⟨T10, L10, k10, n10⟩, -, X10, ⟨Lc10, hQ10, l10, y10, z10⟩, st10⟩ := Jvm.LawKit.callS X9 hx (y := (⟨"com/example/harbourline/harbourline/messages/SevenBitNumberPutPinLaw", "check", "([BIIIIB)Z"⟩ : MethodName)) hown (mvT hZ (hw _ (List.mem_of_getElem? (i := 6) rfl))) (mvT hZ (hw _ (List.mem_of_getElem? (i := 7) rfl))) (mvT hZ (hw _ (List.mem_of_getElem? (i := 8) rfl))) (mvT hZ (hw _ (List.mem_of_getElem? (i := 9) rfl))) (by decide) (backOf (W := 0) (rm2 l Z a0 hw [] b (0 : Int32) i5 (own_len n) n fl _ T9.heap n0 (Nat.le_trans (Nat.le_trans (Nat.le_trans (Nat.le_trans (Nat.le_trans (Nat.le_trans (Nat.le_trans (Nat.le_trans (Nat.le_trans Z0 E1.1) (Keep.of_wr W2).1) (Keep.of_wr W3).1) (Keep.of_wr W4).1) (Keep.of_wr W5).1) (Keep.of_wr W6).1) (Keep.of_wr W7).1) (Keep.of_wr W8).1) K9.1) x9v (by decide) (by decide) (by rw [hat, hlen]; exact own_key n fl a k 0 ha hk (by decide))) hZ (hw _ (List.mem_of_getElem? (i := 9) rfl)) (hw _ (List.mem_of_getElem? (i := 8) rfl)) (by decide) (by decide)) (g := (mkF m 163 #[.val (.int p1), .val (.int p2), .val (.int p3), .val (.int p4), .val (.int n), .val (.int i5), .val (.int fl), .val (.ref b), .val (.int (own_len n)), .val (.int (Int32.ofNat (a + k + 1)))] [(.int fl), (.int n), (.int (own_len n)), (.int i5), (.int (0 : Int32)), (.ref b)])) rfl (by rw [hml]; rfl) (argsL := [(.ref b), (.int (0 : Int32)), (.int i5), (.int (own_len n)), (.int n), (.int fl)]) (rest := []) (lenOf pdx_1 rfl) rfl (by show 2 * 0 + _ ≤ _; exact Nat.le_of_eq rfl) (hb hby at_163) (fun _ _ => ⟨rfl, rfl, (by decide : 1 + 0 ≤ _), (by decide : 7 + 0 ≤ _)⟩)
  dsimp only [Pt.U, Pt.locs, Pt.cells, Pt.slots] at X10 l10 y10 z10 st10 hQ10
  subst l10 y10 z10
  obtain ⟨rfl, N10q, e10⟩ := hQ10
  have N10 := Fr.app N9 N10q
  obtain ⟨_, _, ⟨T11, L11, k11, n11⟩, -, X11, ⟨Lc11, hQ11, l11, y11, z11⟩, st11⟩ := Jvm.LawKit.callS X10 hx (y := (⟨"com/example/harbourline/harbourline/messages/SevenBitNumberPutPinLaw", "check", "([BIIIIB)Z"⟩ : MethodName)) hown (mvT hZ (hw _ (List.mem_of_getElem? (i := 6) rfl))) (mvT hZ (hw _ (List.mem_of_getElem? (i := 7) rfl))) (mvT hZ (hw _ (List.mem_of_getElem? (i := 8) rfl))) (mvT hZ (hw _ (List.mem_of_getElem? (i := 9) rfl))) (by decide) (backOf (W := 0) (rm2 l Z a0 hw [] b (1 : Int32) i5 (own_len n) n fl _ T9.heap n0 (Nat.le_trans (Nat.le_trans (Nat.le_trans (Nat.le_trans (Nat.le_trans (Nat.le_trans (Nat.le_trans (Nat.le_trans (Nat.le_trans Z0 E1.1) (Keep.of_wr W2).1) (Keep.of_wr W3).1) (Keep.of_wr W4).1) (Keep.of_wr W5).1) (Keep.of_wr W6).1) (Keep.of_wr W7).1) (Keep.of_wr W8).1) K9.1) x9v (by decide) (by decide) (by rw [hat, hlen]; exact own_key n fl a k 1 ha hk (by decide))) hZ (hw _ (List.mem_of_getElem? (i := 9) rfl)) (hw _ (List.mem_of_getElem? (i := 8) rfl)) (by decide) (by decide)) (g := (mkF m 180 #[.val (.int p1), .val (.int p2), .val (.int p3), .val (.int p4), .val (.int n), .val (.int i5), .val (.int fl), .val (.ref b), .val (.int (own_len n)), .val (.int (Int32.ofNat (a + k + 1)))] [(.int fl), (.int n), (.int (own_len n)), (.int i5), (.int (1 : Int32)), (.ref b)])) rfl (by rw [hml]; rfl) (argsL := [(.ref b), (.int (1 : Int32)), (.int i5), (.int (own_len n)), (.int n), (.int fl)]) (rest := []) (lenOf pdx_1 rfl) rfl (by show 2 * 0 + _ ≤ _; exact Nat.le_of_eq rfl) (hb hby at_180) (fun _ _ => ⟨rfl, e10, (by decide : 1 + 0 ≤ _), (by decide : 7 + 0 ≤ _)⟩)
  dsimp only [Pt.U, Pt.locs, Pt.cells, Pt.slots] at X11 l11 y11 z11 st11 hQ11
  subst l11 y11 z11
  obtain ⟨rfl, N11q, e11⟩ := hQ11
  have N11 := Fr.app N10 N11q
  obtain ⟨_, _, ⟨T12, L12, k12, n12⟩, -, X12, ⟨Lc12, hQ12, l12, y12, z12⟩, st12⟩ := Jvm.LawKit.callS X11 hx (y := (⟨"com/example/harbourline/harbourline/messages/SevenBitNumberPutPinLaw", "check", "([BIIIIB)Z"⟩ : MethodName)) hown (mvT hZ (hw _ (List.mem_of_getElem? (i := 6) rfl))) (mvT hZ (hw _ (List.mem_of_getElem? (i := 7) rfl))) (mvT hZ (hw _ (List.mem_of_getElem? (i := 8) rfl))) (mvT hZ (hw _ (List.mem_of_getElem? (i := 9) rfl))) (by decide) (backOf (W := 0) (rm2 l Z a0 hw [] b (2 : Int32) i5 (own_len n) n fl _ T9.heap n0 (Nat.le_trans (Nat.le_trans (Nat.le_trans (Nat.le_trans (Nat.le_trans (Nat.le_trans (Nat.le_trans (Nat.le_trans (Nat.le_trans Z0 E1.1) (Keep.of_wr W2).1) (Keep.of_wr W3).1) (Keep.of_wr W4).1) (Keep.of_wr W5).1) (Keep.of_wr W6).1) (Keep.of_wr W7).1) (Keep.of_wr W8).1) K9.1) x9v (by decide) (by decide) (by rw [hat, hlen]; exact own_key n fl a k 2 ha hk (by decide))) hZ (hw _ (List.mem_of_getElem? (i := 9) rfl)) (hw _ (List.mem_of_getElem? (i := 8) rfl)) (by decide) (by decide)) (g := (mkF m 197 #[.val (.int p1), .val (.int p2), .val (.int p3), .val (.int p4), .val (.int n), .val (.int i5), .val (.int fl), .val (.ref b), .val (.int (own_len n)), .val (.int (Int32.ofNat (a + k + 1)))] [(.int fl), (.int n), (.int (own_len n)), (.int i5), (.int (2 : Int32)), (.ref b)])) rfl (by rw [hml]; rfl) (argsL := [(.ref b), (.int (2 : Int32)), (.int i5), (.int (own_len n)), (.int n), (.int fl)]) (rest := []) (lenOf pdx_1 rfl) rfl (by show 2 * 0 + _ ≤ _; exact Nat.le_of_eq rfl) (hb hby at_197) (fun _ _ => ⟨rfl, e11, (by decide : 1 + 0 ≤ _), (by decide : 7 + 0 ≤ _)⟩)
  dsimp only [Pt.U, Pt.locs, Pt.cells, Pt.slots] at X12 l12 y12 z12 st12 hQ12
  subst l12 y12 z12
  obtain ⟨rfl, N12q, e12⟩ := hQ12
  have N12 := Fr.app N11 N12q
  obtain ⟨_, _, ⟨T13, L13, k13, n13⟩, -, X13, ⟨Lc13, hQ13, l13, y13, z13⟩, st13⟩ := Jvm.LawKit.callS X12 hx (y := (⟨"com/example/harbourline/harbourline/messages/SevenBitNumberPutPinLaw", "check", "([BIIIIB)Z"⟩ : MethodName)) hown (mvT hZ (hw _ (List.mem_of_getElem? (i := 6) rfl))) (mvT hZ (hw _ (List.mem_of_getElem? (i := 7) rfl))) (mvT hZ (hw _ (List.mem_of_getElem? (i := 8) rfl))) (mvT hZ (hw _ (List.mem_of_getElem? (i := 9) rfl))) (by decide) (backOf (W := 0) (rm2 l Z a0 hw [] b (3 : Int32) i5 (own_len n) n fl _ T9.heap n0 (Nat.le_trans (Nat.le_trans (Nat.le_trans (Nat.le_trans (Nat.le_trans (Nat.le_trans (Nat.le_trans (Nat.le_trans (Nat.le_trans Z0 E1.1) (Keep.of_wr W2).1) (Keep.of_wr W3).1) (Keep.of_wr W4).1) (Keep.of_wr W5).1) (Keep.of_wr W6).1) (Keep.of_wr W7).1) (Keep.of_wr W8).1) K9.1) x9v (by decide) (by decide) (by rw [hat, hlen]; exact own_key n fl a k 3 ha hk (by decide))) hZ (hw _ (List.mem_of_getElem? (i := 9) rfl)) (hw _ (List.mem_of_getElem? (i := 8) rfl)) (by decide) (by decide)) (g := (mkF m 214 #[.val (.int p1), .val (.int p2), .val (.int p3), .val (.int p4), .val (.int n), .val (.int i5), .val (.int fl), .val (.ref b), .val (.int (own_len n)), .val (.int (Int32.ofNat (a + k + 1)))] [(.int fl), (.int n), (.int (own_len n)), (.int i5), (.int (3 : Int32)), (.ref b)])) rfl (by rw [hml]; rfl) (argsL := [(.ref b), (.int (3 : Int32)), (.int i5), (.int (own_len n)), (.int n), (.int fl)]) (rest := []) (lenOf pdx_1 rfl) rfl (by show 2 * 0 + _ ≤ _; exact Nat.le_of_eq rfl) (hb hby at_214) (fun _ _ => ⟨rfl, e12, (by decide : 1 + 0 ≤ _), (by decide : 7 + 0 ≤ _)⟩)
  dsimp only [Pt.U, Pt.locs, Pt.cells, Pt.slots] at X13 l13 y13 z13 st13 hQ13
  subst l13 y13 z13
  obtain ⟨rfl, N13q, e13⟩ := hQ13
  have N13 := Fr.app N12 N13q
  obtain ⟨_, _, ⟨T14, L14, k14, n14⟩, -, X14, ⟨Lc14, hQ14, l14, y14, z14⟩, st14⟩ := Jvm.LawKit.callS X13 hx (y := (⟨"com/example/harbourline/harbourline/messages/SevenBitNumberPutPinLaw", "check", "([BIIIIB)Z"⟩ : MethodName)) hown (mvT hZ (hw _ (List.mem_of_getElem? (i := 6) rfl))) (mvT hZ (hw _ (List.mem_of_getElem? (i := 7) rfl))) (mvT hZ (hw _ (List.mem_of_getElem? (i := 8) rfl))) (mvT hZ (hw _ (List.mem_of_getElem? (i := 9) rfl))) (by decide) (backOf (W := 0) (rm2 l Z a0 hw [] b (4 : Int32) i5 (own_len n) n fl _ T9.heap n0 (Nat.le_trans (Nat.le_trans (Nat.le_trans (Nat.le_trans (Nat.le_trans (Nat.le_trans (Nat.le_trans (Nat.le_trans (Nat.le_trans Z0 E1.1) (Keep.of_wr W2).1) (Keep.of_wr W3).1) (Keep.of_wr W4).1) (Keep.of_wr W5).1) (Keep.of_wr W6).1) (Keep.of_wr W7).1) (Keep.of_wr W8).1) K9.1) x9v (by decide) (by decide) (by rw [hat, hlen]; exact own_key n fl a k 4 ha hk (by decide))) hZ (hw _ (List.mem_of_getElem? (i := 9) rfl)) (hw _ (List.mem_of_getElem? (i := 8) rfl)) (by decide) (by decide)) (g := (mkF m 231 #[.val (.int p1), .val (.int p2), .val (.int p3), .val (.int p4), .val (.int n), .val (.int i5), .val (.int fl), .val (.ref b), .val (.int (own_len n)), .val (.int (Int32.ofNat (a + k + 1)))] [(.int fl), (.int n), (.int (own_len n)), (.int i5), (.int (4 : Int32)), (.ref b)])) rfl (by rw [hml]; rfl) (argsL := [(.ref b), (.int (4 : Int32)), (.int i5), (.int (own_len n)), (.int n), (.int fl)]) (rest := []) (lenOf pdx_1 rfl) rfl (by show 2 * 0 + _ ≤ _; exact Nat.le_of_eq rfl) (hb hby at_231) (fun _ _ => ⟨rfl, e13, (by decide : 1 + 0 ≤ _), (by decide : 7 + 0 ≤ _)⟩)
  dsimp only [Pt.U, Pt.locs, Pt.cells, Pt.slots] at X14 l14 y14 z14 st14 hQ14
  subst l14 y14 z14
  obtain ⟨rfl, N14q, e14⟩ := hQ14
  have N14 := Fr.app N13 N14q
  obtain ⟨_, _, ⟨T15, L15, k15, n15⟩, -, X15, ⟨Lc15, hQ15, l15, y15, z15⟩, st15⟩ := Jvm.LawKit.callS X14 hx (y := (⟨"com/example/harbourline/harbourline/messages/SevenBitNumberPutPinLaw", "check", "([BIIIIB)Z"⟩ : MethodName)) hown (mvT hZ (hw _ (List.mem_of_getElem? (i := 6) rfl))) (mvT hZ (hw _ (List.mem_of_getElem? (i := 7) rfl))) (mvT hZ (hw _ (List.mem_of_getElem? (i := 8) rfl))) (mvT hZ (hw _ (List.mem_of_getElem? (i := 9) rfl))) (by decide) (backOf (W := 0) (rm2 l Z a0 hw [] b (5 : Int32) i5 (own_len n) n fl _ T9.heap n0 (Nat.le_trans (Nat.le_trans (Nat.le_trans (Nat.le_trans (Nat.le_trans (Nat.le_trans (Nat.le_trans (Nat.le_trans (Nat.le_trans Z0 E1.1) (Keep.of_wr W2).1) (Keep.of_wr W3).1) (Keep.of_wr W4).1) (Keep.of_wr W5).1) (Keep.of_wr W6).1) (Keep.of_wr W7).1) (Keep.of_wr W8).1) K9.1) x9v (by decide) (by decide) (by rw [hat, hlen]; exact own_key n fl a k 5 ha hk (by decide))) hZ (hw _ (List.mem_of_getElem? (i := 9) rfl)) (hw _ (List.mem_of_getElem? (i := 8) rfl)) (by decide) (by decide)) (g := (mkF m 248 #[.val (.int p1), .val (.int p2), .val (.int p3), .val (.int p4), .val (.int n), .val (.int i5), .val (.int fl), .val (.ref b), .val (.int (own_len n)), .val (.int (Int32.ofNat (a + k + 1)))] [(.int fl), (.int n), (.int (own_len n)), (.int i5), (.int (5 : Int32)), (.ref b)])) rfl (by rw [hml]; rfl) (argsL := [(.ref b), (.int (5 : Int32)), (.int i5), (.int (own_len n)), (.int n), (.int fl)]) (rest := []) (lenOf pdx_1 rfl) rfl (by show 2 * 0 + _ ≤ _; exact Nat.le_of_eq rfl) (hb hby at_248) (fun _ _ => ⟨rfl, e14, (by decide : 1 + 0 ≤ _), (by decide : 7 + 0 ≤ _)⟩)
  dsimp only [Pt.U, Pt.locs, Pt.cells, Pt.slots] at X15 l15 y15 z15 st15 hQ15
  subst l15 y15 z15
  obtain ⟨rfl, N15q, e15⟩ := hQ15
  have N15 := Fr.app N14 N15q
  obtain ⟨_, _, ⟨T16, L16, k16, n16⟩, -, X16, ⟨Lc16, hQ16, l16, y16, z16⟩, st16⟩ := Jvm.LawKit.callS X15 hx (y := (⟨"com/example/harbourline/harbourline/messages/SevenBitNumberPutPinLaw", "check", "([BIIIIB)Z"⟩ : MethodName)) hown (mvT hZ (hw _ (List.mem_of_getElem? (i := 6) rfl))) (mvT hZ (hw _ (List.mem_of_getElem? (i := 7) rfl))) (mvT hZ (hw _ (List.mem_of_getElem? (i := 8) rfl))) (mvT hZ (hw _ (List.mem_of_getElem? (i := 9) rfl))) (by decide) (backOf (W := 0) (rm2 l Z a0 hw [] b (6 : Int32) i5 (own_len n) n fl _ T9.heap n0 (Nat.le_trans (Nat.le_trans (Nat.le_trans (Nat.le_trans (Nat.le_trans (Nat.le_trans (Nat.le_trans (Nat.le_trans (Nat.le_trans Z0 E1.1) (Keep.of_wr W2).1) (Keep.of_wr W3).1) (Keep.of_wr W4).1) (Keep.of_wr W5).1) (Keep.of_wr W6).1) (Keep.of_wr W7).1) (Keep.of_wr W8).1) K9.1) x9v (by decide) (by decide) (by rw [hat, hlen]; exact own_key n fl a k 6 ha hk (by decide))) hZ (hw _ (List.mem_of_getElem? (i := 9) rfl)) (hw _ (List.mem_of_getElem? (i := 8) rfl)) (by decide) (by decide)) (g := (mkF m 266 #[.val (.int p1), .val (.int p2), .val (.int p3), .val (.int p4), .val (.int n), .val (.int i5), .val (.int fl), .val (.ref b), .val (.int (own_len n)), .val (.int (Int32.ofNat (a + k + 1)))] [(.int fl), (.int n), (.int (own_len n)), (.int i5), (.int (6 : Int32)), (.ref b)])) rfl (by rw [hml]; rfl) (argsL := [(.ref b), (.int (6 : Int32)), (.int i5), (.int (own_len n)), (.int n), (.int fl)]) (rest := []) (lenOf pdx_1 rfl) rfl (by show 2 * 0 + _ ≤ _; exact Nat.le_of_eq rfl) (hb hby at_266) (fun _ _ => ⟨rfl, e15, (by decide : 1 + 0 ≤ _), (by decide : 7 + 0 ≤ _)⟩)
  dsimp only [Pt.U, Pt.locs, Pt.cells, Pt.slots] at X16 l16 y16 z16 st16 hQ16
  subst l16 y16 z16
  obtain ⟨rfl, N16q, e16⟩ := hQ16
  have N16 := Fr.app N15 N16q
  obtain ⟨fs, hr, hrun, hended, hW, hsame⟩ := X16.leave (v := some (.int (1 : Int32))) (fun h => by rw [Bd.returns] at h; cases h)
  refine ⟨_, _, pre0 _ ?_, hrun, hended, _, _, rfl, ?_, ⟨_, rfl⟩, hW, hsame.mono (by decide) (by decide)⟩
  · show Steps p.tables e below (s₁.setTop (mkF m 0 #[.val (.int p1), .val (.int p2), .val (.int p3), .val (.int p4), .unset, .unset, .unset, .unset, .unset, .unset] [])) _
    refine sg0 _ ?_
    show Steps p.tables e below (s₁.setTop (mkF m 23 #[.val (.int p1), .val (.int p2), .val (.int p3), .val (.int p4), .val (.int n), .val (.int i5), .val (.int fl), .unset, .unset, .unset] [])) _
    refine XS.bipush X0.here hx rfl (hb hby at_23) ?_
    show Steps p.tables e below (s₁.setTop (mkF m 25 #[.val (.int p1), .val (.int p2), .val (.int p3), .val (.int p4), .val (.int n), .val (.int i5), .val (.int fl), .unset, .unset, .unset] [(.int (7 : Int32))])) _
    refine st1 _ ?_
    show Steps p.tables e below (T1.setTop (mkF m 27 #[.val (.int p1), .val (.int p2), .val (.int p3), .val (.int p4), .val (.int n), .val (.int i5), .val (.int fl), .unset, .unset, .unset] [(.ref b)])) _
    refine XS.astore X1.here hx rfl (hb hby at_27) rfl rfl (l' := #[.val (.int p1), .val (.int p2), .val (.int p3), .val (.int p4), .val (.int n), .val (.int i5), .val (.int fl), .val (.ref b), .unset, .unset]) rfl ?_
    show Steps p.tables e below (T1.setTop (mkF m 29 #[.val (.int p1), .val (.int p2), .val (.int p3), .val (.int p4), .val (.int n), .val (.int i5), .val (.int fl), .val (.ref b), .unset, .unset] [])) _
    refine XS.aload X1.here hx rfl (hb hby at_29) rfl rfl ?_
    show Steps p.tables e below (T1.setTop (mkF m 31 #[.val (.int p1), .val (.int p2), .val (.int p3), .val (.int p4), .val (.int n), .val (.int i5), .val (.int fl), .val (.ref b), .unset, .unset] [(.ref b)])) _
    refine XS.iconst X1.here hx rfl (hb hby at_31) ?_
    show Steps p.tables e below (T1.setTop (mkF m 32 #[.val (.int p1), .val (.int p2), .val (.int p3), .val (.int p4), .val (.int n), .val (.int i5), .val (.int fl), .val (.ref b), .unset, .unset] [(.int (0 : Int32)), (.ref b)])) _
    refine XS.iload X1.here hx rfl (hb hby at_32) rfl ?_
    show Steps p.tables e below (T1.setTop (mkF m 34 #[.val (.int p1), .val (.int p2), .val (.int p3), .val (.int p4), .val (.int n), .val (.int i5), .val (.int fl), .val (.ref b), .unset, .unset] [(.int fl), (.int (0 : Int32)), (.ref b)])) _
    refine st2 _ ?_
    show Steps p.tables e below (T2.setTop (mkF m 35 #[.val (.int p1), .val (.int p2), .val (.int p3), .val (.int p4), .val (.int n), .val (.int i5), .val (.int fl), .val (.ref b), .unset, .unset] [])) _
    refine XS.aload X2.here hx rfl (hb hby at_35) rfl rfl ?_
    show Steps p.tables e below (T2.setTop (mkF m 37 #[.val (.int p1), .val (.int p2), .val (.int p3), .val (.int p4), .val (.int n), .val (.int i5), .val (.int fl), .val (.ref b), .unset, .unset] [(.ref b)])) _
    refine XS.iconst X2.here hx rfl (hb hby at_37) ?_
    show Steps p.tables e below (T2.setTop (mkF m 38 #[.val (.int p1), .val (.int p2), .val (.int p3), .val (.int p4), .val (.int n), .val (.int i5), .val (.int fl), .val (.ref b), .unset, .unset] [(.int (1 : Int32)), (.ref b)])) _
    refine XS.iload X2.here hx rfl (hb hby at_38) rfl ?_
    show Steps p.tables e below (T2.setTop (mkF m 40 #[.val (.int p1), .val (.int p2), .val (.int p3), .val (.int p4), .val (.int n), .val (.int i5), .val (.int fl), .val (.ref b), .unset, .unset] [(.int fl), (.int (1 : Int32)), (.ref b)])) _
    refine st3 _ ?_
    show Steps p.tables e below (T3.setTop (mkF m 41 #[.val (.int p1), .val (.int p2), .val (.int p3), .val (.int p4), .val (.int n), .val (.int i5), .val (.int fl), .val (.ref b), .unset, .unset] [])) _
    refine XS.aload X3.here hx rfl (hb hby at_41) rfl rfl ?_
    show Steps p.tables e below (T3.setTop (mkF m 43 #[.val (.int p1), .val (.int p2), .val (.int p3), .val (.int p4), .val (.int n), .val (.int i5), .val (.int fl), .val (.ref b), .unset, .unset] [(.ref b)])) _
    refine XS.iconst X3.here hx rfl (hb hby at_43) ?_
    show Steps p.tables e below (T3.setTop (mkF m 44 #[.val (.int p1), .val (.int p2), .val (.int p3), .val (.int p4), .val (.int n), .val (.int i5), .val (.int fl), .val (.ref b), .unset, .unset] [(.int (2 : Int32)), (.ref b)])) _
    refine XS.iload X3.here hx rfl (hb hby at_44) rfl ?_
    show Steps p.tables e below (T3.setTop (mkF m 46 #[.val (.int p1), .val (.int p2), .val (.int p3), .val (.int p4), .val (.int n), .val (.int i5), .val (.int fl), .val (.ref b), .unset, .unset] [(.int fl), (.int (2 : Int32)), (.ref b)])) _
    refine st4 _ ?_
    show Steps p.tables e below (T4.setTop (mkF m 47 #[.val (.int p1), .val (.int p2), .val (.int p3), .val (.int p4), .val (.int n), .val (.int i5), .val (.int fl), .val (.ref b), .unset, .unset] [])) _
    refine XS.aload X4.here hx rfl (hb hby at_47) rfl rfl ?_
    show Steps p.tables e below (T4.setTop (mkF m 49 #[.val (.int p1), .val (.int p2), .val (.int p3), .val (.int p4), .val (.int n), .val (.int i5), .val (.int fl), .val (.ref b), .unset, .unset] [(.ref b)])) _
    refine XS.iconst X4.here hx rfl (hb hby at_49) ?_
    show Steps p.tables e below (T4.setTop (mkF m 50 #[.val (.int p1), .val (.int p2), .val (.int p3), .val (.int p4), .val (.int n), .val (.int i5), .val (.int fl), .val (.ref b), .unset, .unset] [(.int (3 : Int32)), (.ref b)])) _
    refine XS.iload X4.here hx rfl (hb hby at_50) rfl ?_
    show Steps p.tables e below (T4.setTop (mkF m 52 #[.val (.int p1), .val (.int p2), .val (.int p3), .val (.int p4), .val (.int n), .val (.int i5), .val (.int fl), .val (.ref b), .unset, .unset] [(.int fl), (.int (3 : Int32)), (.ref b)])) _
    refine st5 _ ?_
    show Steps p.tables e below (T5.setTop (mkF m 53 #[.val (.int p1), .val (.int p2), .val (.int p3), .val (.int p4), .val (.int n), .val (.int i5), .val (.int fl), .val (.ref b), .unset, .unset] [])) _
    refine XS.aload X5.here hx rfl (hb hby at_53) rfl rfl ?_
    show Steps p.tables e below (T5.setTop (mkF m 55 #[.val (.int p1), .val (.int p2), .val (.int p3), .val (.int p4), .val (.int n), .val (.int i5), .val (.int fl), .val (.ref b), .unset, .unset] [(.ref b)])) _
    refine XS.iconst X5.here hx rfl (hb hby at_55) ?_
    show Steps p.tables e below (T5.setTop (mkF m 56 #[.val (.int p1), .val (.int p2), .val (.int p3), .val (.int p4), .val (.int n), .val (.int i5), .val (.int fl), .val (.ref b), .unset, .unset] [(.int (4 : Int32)), (.ref b)])) _
    refine XS.iload X5.here hx rfl (hb hby at_56) rfl ?_
    show Steps p.tables e below (T5.setTop (mkF m 58 #[.val (.int p1), .val (.int p2), .val (.int p3), .val (.int p4), .val (.int n), .val (.int i5), .val (.int fl), .val (.ref b), .unset, .unset] [(.int fl), (.int (4 : Int32)), (.ref b)])) _
    refine st6 _ ?_
    show Steps p.tables e below (T6.setTop (mkF m 59 #[.val (.int p1), .val (.int p2), .val (.int p3), .val (.int p4), .val (.int n), .val (.int i5), .val (.int fl), .val (.ref b), .unset, .unset] [])) _
    refine XS.aload X6.here hx rfl (hb hby at_59) rfl rfl ?_
    show Steps p.tables e below (T6.setTop (mkF m 61 #[.val (.int p1), .val (.int p2), .val (.int p3), .val (.int p4), .val (.int n), .val (.int i5), .val (.int fl), .val (.ref b), .unset, .unset] [(.ref b)])) _
    refine XS.iconst X6.here hx rfl (hb hby at_61) ?_
    show Steps p.tables e below (T6.setTop (mkF m 62 #[.val (.int p1), .val (.int p2), .val (.int p3), .val (.int p4), .val (.int n), .val (.int i5), .val (.int fl), .val (.ref b), .unset, .unset] [(.int (5 : Int32)), (.ref b)])) _
    refine XS.iload X6.here hx rfl (hb hby at_62) rfl ?_
    show Steps p.tables e below (T6.setTop (mkF m 64 #[.val (.int p1), .val (.int p2), .val (.int p3), .val (.int p4), .val (.int n), .val (.int i5), .val (.int fl), .val (.ref b), .unset, .unset] [(.int fl), (.int (5 : Int32)), (.ref b)])) _
    refine st7 _ ?_
    show Steps p.tables e below (T7.setTop (mkF m 65 #[.val (.int p1), .val (.int p2), .val (.int p3), .val (.int p4), .val (.int n), .val (.int i5), .val (.int fl), .val (.ref b), .unset, .unset] [])) _
    refine XS.aload X7.here hx rfl (hb hby at_65) rfl rfl ?_
    show Steps p.tables e below (T7.setTop (mkF m 67 #[.val (.int p1), .val (.int p2), .val (.int p3), .val (.int p4), .val (.int n), .val (.int i5), .val (.int fl), .val (.ref b), .unset, .unset] [(.ref b)])) _
    refine XS.bipush X7.here hx rfl (hb hby at_67) ?_
    show Steps p.tables e below (T7.setTop (mkF m 69 #[.val (.int p1), .val (.int p2), .val (.int p3), .val (.int p4), .val (.int n), .val (.int i5), .val (.int fl), .val (.ref b), .unset, .unset] [(.int (6 : Int32)), (.ref b)])) _
    refine XS.iload X7.here hx rfl (hb hby at_69) rfl ?_
    show Steps p.tables e below (T7.setTop (mkF m 71 #[.val (.int p1), .val (.int p2), .val (.int p3), .val (.int p4), .val (.int n), .val (.int i5), .val (.int fl), .val (.ref b), .unset, .unset] [(.int fl), (.int (6 : Int32)), (.ref b)])) _
    refine st8 _ ?_
    show Steps p.tables e below (T8.setTop (mkF m 72 #[.val (.int p1), .val (.int p2), .val (.int p3), .val (.int p4), .val (.int n), .val (.int i5), .val (.int fl), .val (.ref b), .unset, .unset] [])) _
    refine sg_72_129 p1 p2 p3 p4 n i5 fl b X8 hx hZ hw hby hown _ ?_
    show Steps p.tables e below (T8.setTop (mkF m 129 #[.val (.int p1), .val (.int p2), .val (.int p3), .val (.int p4), .val (.int n), .val (.int i5), .val (.int fl), .val (.ref b), .val (.int (own_len n)), .unset] [])) _
    refine XS.aload X8.here hx rfl (hb hby at_129) rfl rfl ?_
    show Steps p.tables e below (T8.setTop (mkF m 131 #[.val (.int p1), .val (.int p2), .val (.int p3), .val (.int p4), .val (.int n), .val (.int i5), .val (.int fl), .val (.ref b), .val (.int (own_len n)), .unset] [(.ref b)])) _
    refine XS.iload X8.here hx rfl (hb hby at_131) rfl ?_
    show Steps p.tables e below (T8.setTop (mkF m 133 #[.val (.int p1), .val (.int p2), .val (.int p3), .val (.int p4), .val (.int n), .val (.int i5), .val (.int fl), .val (.ref b), .val (.int (own_len n)), .unset] [(.int i5), (.ref b)])) _
    refine XS.iload X8.here hx rfl (hb hby at_133) rfl ?_
    show Steps p.tables e below (T8.setTop (mkF m 135 #[.val (.int p1), .val (.int p2), .val (.int p3), .val (.int p4), .val (.int n), .val (.int i5), .val (.int fl), .val (.ref b), .val (.int (own_len n)), .unset] [(.int n), (.int i5), (.ref b)])) _
    refine st9 _ ?_
    show Steps p.tables e below (T9.setTop (mkF m 138 #[.val (.int p1), .val (.int p2), .val (.int p3), .val (.int p4), .val (.int n), .val (.int i5), .val (.int fl), .val (.ref b), .val (.int (own_len n)), .unset] [(.int (Int32.ofNat (a + k + 1)))])) _
    refine XS.istore X9.here hx rfl (hb hby at_138) rfl (l' := #[.val (.int p1), .val (.int p2), .val (.int p3), .val (.int p4), .val (.int n), .val (.int i5), .val (.int fl), .val (.ref b), .val (.int (own_len n)), .val (.int (Int32.ofNat (a + k + 1)))]) rfl ?_
    show Steps p.tables e below (T9.setTop (mkF m 140 #[.val (.int p1), .val (.int p2), .val (.int p3), .val (.int p4), .val (.int n), .val (.int i5), .val (.int fl), .val (.ref b), .val (.int (own_len n)), .val (.int (Int32.ofNat (a + k + 1)))] [])) _
    refine XS.iload X9.here hx rfl (hb hby at_140) rfl ?_
    show Steps p.tables e below (T9.setTop (mkF m 142 #[.val (.int p1), .val (.int p2), .val (.int p3), .val (.int p4), .val (.int n), .val (.int i5), .val (.int fl), .val (.ref b), .val (.int (own_len n)), .val (.int (Int32.ofNat (a + k + 1)))] [(.int (Int32.ofNat (a + k + 1)))])) _
    refine XS.iload X9.here hx rfl (hb hby at_142) rfl ?_
    show Steps p.tables e below (T9.setTop (mkF m 144 #[.val (.int p1), .val (.int p2), .val (.int p3), .val (.int p4), .val (.int n), .val (.int i5), .val (.int fl), .val (.ref b), .val (.int (own_len n)), .val (.int (Int32.ofNat (a + k + 1)))] [(.int i5), (.int (Int32.ofNat (a + k + 1)))])) _
    refine XS.iload X9.here hx rfl (hb hby at_144) rfl ?_
    show Steps p.tables e below (T9.setTop (mkF m 146 #[.val (.int p1), .val (.int p2), .val (.int p3), .val (.int p4), .val (.int n), .val (.int i5), .val (.int fl), .val (.ref b), .val (.int (own_len n)), .val (.int (Int32.ofNat (a + k + 1)))] [(.int (own_len n)), (.int i5), (.int (Int32.ofNat (a + k + 1)))])) _
    refine XS.iadd X9.here hx rfl (hb hby at_146) rfl ?_
    show Steps p.tables e below (T9.setTop (mkF m 147 #[.val (.int p1), .val (.int p2), .val (.int p3), .val (.int p4), .val (.int n), .val (.int i5), .val (.int fl), .val (.ref b), .val (.int (own_len n)), .val (.int (Int32.ofNat (a + k + 1)))] [(.int (i5 + (own_len n))), (.int (Int32.ofNat (a + k + 1)))])) _
    refine XS.icmpYes X9.here hx rfl (pc0 := 147) (pc' := 152) rfl (hb hby at_147) rfl (teq (by rw [hat, hlen, ← Int32.ofNat_add]; rfl : (Int32.ofNat (a + k + 1)) = (i5 + (own_len n)))).1 (by decide) (by decide) ?_
    show Steps p.tables e below (T9.setTop (mkF m 152 #[.val (.int p1), .val (.int p2), .val (.int p3), .val (.int p4), .val (.int n), .val (.int i5), .val (.int fl), .val (.ref b), .val (.int (own_len n)), .val (.int (Int32.ofNat (a + k + 1)))] [])) _
    refine XS.aload X9.here hx rfl (hb hby at_152) rfl rfl ?_
    show Steps p.tables e below (T9.setTop (mkF m 154 #[.val (.int p1), .val (.int p2), .val (.int p3), .val (.int p4), .val (.int n), .val (.int i5), .val (.int fl), .val (.ref b), .val (.int (own_len n)), .val (.int (Int32.ofNat (a + k + 1)))] [(.ref b)])) _
    refine XS.iconst X9.here hx rfl (hb hby at_154) ?_
    show Steps p.tables e below (T9.setTop (mkF m 155 #[.val (.int p1), .val (.int p2), .val (.int p3), .val (.int p4), .val (.int n), .val (.int i5), .val (.int fl), .val (.ref b), .val (.int (own_len n)), .val (.int (Int32.ofNat (a + k + 1)))] [(.int (0 : Int32)), (.ref b)])) _
    refine XS.iload X9.here hx rfl (hb hby at_155) rfl ?_
    show Steps p.tables e below (T9.setTop (mkF m 157 #[.val (.int p1), .val (.int p2), .val (.int p3), .val (.int p4), .val (.int n), .val (.int i5), .val (.int fl), .val (.ref b), .val (.int (own_len n)), .val (.int (Int32.ofNat (a + k + 1)))] [(.int i5), (.int (0 : Int32)), (.ref b)])) _
    refine XS.iload X9.here hx rfl (hb hby at_157) rfl ?_
    show Steps p.tables e below (T9.setTop (mkF m 159 #[.val (.int p1), .val (.int p2), .val (.int p3), .val (.int p4), .val (.int n), .val (.int i5), .val (.int fl), .val (.ref b), .val (.int (own_len n)), .val (.int (Int32.ofNat (a + k + 1)))] [(.int (own_len n)), (.int i5), (.int (0 : Int32)), (.ref b)])) _
    refine XS.iload X9.here hx rfl (hb hby at_159) rfl ?_
    show Steps p.tables e below (T9.setTop (mkF m 161 #[.val (.int p1), .val (.int p2), .val (.int p3), .val (.int p4), .val (.int n), .val (.int i5), .val (.int fl), .val (.ref b), .val (.int (own_len n)), .val (.int (Int32.ofNat (a + k + 1)))] [(.int n), (.int (own_len n)), (.int i5), (.int (0 : Int32)), (.ref b)])) _
    refine XS.iload X9.here hx rfl (hb hby at_161) rfl ?_
    show Steps p.tables e below (T9.setTop (mkF m 163 #[.val (.int p1), .val (.int p2), .val (.int p3), .val (.int p4), .val (.int n), .val (.int i5), .val (.int fl), .val (.ref b), .val (.int (own_len n)), .val (.int (Int32.ofNat (a + k + 1)))] [(.int fl), (.int n), (.int (own_len n)), (.int i5), (.int (0 : Int32)), (.ref b)])) _
    refine st10 _ ?_
    show Steps p.tables e below (T10.setTop (mkF m 166 #[.val (.int p1), .val (.int p2), .val (.int p3), .val (.int p4), .val (.int n), .val (.int i5), .val (.int fl), .val (.ref b), .val (.int (own_len n)), .val (.int (Int32.ofNat (a + k + 1)))] [(.int (1 : Int32))])) _
    refine XS.ifNo X10.here hx rfl (hb hby at_166) rfl ((if0 _ _).trans (feq (by decide : ¬ ((1 : Int32) = (0 : Int32)))).1) ?_
    show Steps p.tables e below (T10.setTop (mkF m 169 #[.val (.int p1), .val (.int p2), .val (.int p3), .val (.int p4), .val (.int n), .val (.int i5), .val (.int fl), .val (.ref b), .val (.int (own_len n)), .val (.int (Int32.ofNat (a + k + 1)))] [])) _
    refine XS.aload X10.here hx rfl (hb hby at_169) rfl rfl ?_
    show Steps p.tables e below (T10.setTop (mkF m 171 #[.val (.int p1), .val (.int p2), .val (.int p3), .val (.int p4), .val (.int n), .val (.int i5), .val (.int fl), .val (.ref b), .val (.int (own_len n)), .val (.int (Int32.ofNat (a + k + 1)))] [(.ref b)])) _
    refine XS.iconst X10.here hx rfl (hb hby at_171) ?_
    show Steps p.tables e below (T10.setTop (mkF m 172 #[.val (.int p1), .val (.int p2), .val (.int p3), .val (.int p4), .val (.int n), .val (.int i5), .val (.int fl), .val (.ref b), .val (.int (own_len n)), .val (.int (Int32.ofNat (a + k + 1)))] [(.int (1 : Int32)), (.ref b)])) _
    refine XS.iload X10.here hx rfl (hb hby at_172) rfl ?_
    show Steps p.tables e below (T10.setTop (mkF m 174 #[.val (.int p1), .val (.int p2), .val (.int p3), .val (.int p4), .val (.int n), .val (.int i5), .val (.int fl), .val (.ref b), .val (.int (own_len n)), .val (.int (Int32.ofNat (a + k + 1)))] [(.int i5), (.int (1 : Int32)), (.ref b)])) _
    refine XS.iload X10.here hx rfl (hb hby at_174) rfl ?_
    show Steps p.tables e below (T10.setTop (mkF m 176 #[.val (.int p1), .val (.int p2), .val (.int p3), .val (.int p4), .val (.int n), .val (.int i5), .val (.int fl), .val (.ref b), .val (.int (own_len n)), .val (.int (Int32.ofNat (a + k + 1)))] [(.int (own_len n)), (.int i5), (.int (1 : Int32)), (.ref b)])) _
    refine XS.iload X10.here hx rfl (hb hby at_176) rfl ?_
    show Steps p.tables e below (T10.setTop (mkF m 178 #[.val (.int p1), .val (.int p2), .val (.int p3), .val (.int p4), .val (.int n), .val (.int i5), .val (.int fl), .val (.ref b), .val (.int (own_len n)), .val (.int (Int32.ofNat (a + k + 1)))] [(.int n), (.int (own_len n)), (.int i5), (.int (1 : Int32)), (.ref b)])) _
    refine XS.iload X10.here hx rfl (hb hby at_178) rfl ?_
    show Steps p.tables e below (T10.setTop (mkF m 180 #[.val (.int p1), .val (.int p2), .val (.int p3), .val (.int p4), .val (.int n), .val (.int i5), .val (.int fl), .val (.ref b), .val (.int (own_len n)), .val (.int (Int32.ofNat (a + k + 1)))] [(.int fl), (.int n), (.int (own_len n)), (.int i5), (.int (1 : Int32)), (.ref b)])) _
    refine st11 _ ?_
    show Steps p.tables e below (T11.setTop (mkF m 183 #[.val (.int p1), .val (.int p2), .val (.int p3), .val (.int p4), .val (.int n), .val (.int i5), .val (.int fl), .val (.ref b), .val (.int (own_len n)), .val (.int (Int32.ofNat (a + k + 1)))] [(.int (1 : Int32))])) _
    refine XS.ifNo X11.here hx rfl (hb hby at_183) rfl ((if0 _ _).trans (feq (by decide : ¬ ((1 : Int32) = (0 : Int32)))).1) ?_
    show Steps p.tables e below (T11.setTop (mkF m 186 #[.val (.int p1), .val (.int p2), .val (.int p3), .val (.int p4), .val (.int n), .val (.int i5), .val (.int fl), .val (.ref b), .val (.int (own_len n)), .val (.int (Int32.ofNat (a + k + 1)))] [])) _
    refine XS.aload X11.here hx rfl (hb hby at_186) rfl rfl ?_
    show Steps p.tables e below (T11.setTop (mkF m 188 #[.val (.int p1), .val (.int p2), .val (.int p3), .val (.int p4), .val (.int n), .val (.int i5), .val (.int fl), .val (.ref b), .val (.int (own_len n)), .val (.int (Int32.ofNat (a + k + 1)))] [(.ref b)])) _
    refine XS.iconst X11.here hx rfl (hb hby at_188) ?_
    show Steps p.tables e below (T11.setTop (mkF m 189 #[.val (.int p1), .val (.int p2), .val (.int p3), .val (.int p4), .val (.int n), .val (.int i5), .val (.int fl), .val (.ref b), .val (.int (own_len n)), .val (.int (Int32.ofNat (a + k + 1)))] [(.int (2 : Int32)), (.ref b)])) _
    refine XS.iload X11.here hx rfl (hb hby at_189) rfl ?_
    show Steps p.tables e below (T11.setTop (mkF m 191 #[.val (.int p1), .val (.int p2), .val (.int p3), .val (.int p4), .val (.int n), .val (.int i5), .val (.int fl), .val (.ref b), .val (.int (own_len n)), .val (.int (Int32.ofNat (a + k + 1)))] [(.int i5), (.int (2 : Int32)), (.ref b)])) _
    refine XS.iload X11.here hx rfl (hb hby at_191) rfl ?_
    show Steps p.tables e below (T11.setTop (mkF m 193 #[.val (.int p1), .val (.int p2), .val (.int p3), .val (.int p4), .val (.int n), .val (.int i5), .val (.int fl), .val (.ref b), .val (.int (own_len n)), .val (.int (Int32.ofNat (a + k + 1)))] [(.int (own_len n)), (.int i5), (.int (2 : Int32)), (.ref b)])) _
    refine XS.iload X11.here hx rfl (hb hby at_193) rfl ?_
    show Steps p.tables e below (T11.setTop (mkF m 195 #[.val (.int p1), .val (.int p2), .val (.int p3), .val (.int p4), .val (.int n), .val (.int i5), .val (.int fl), .val (.ref b), .val (.int (own_len n)), .val (.int (Int32.ofNat (a + k + 1)))] [(.int n), (.int (own_len n)), (.int i5), (.int (2 : Int32)), (.ref b)])) _
    refine XS.iload X11.here hx rfl (hb hby at_195) rfl ?_
    show Steps p.tables e below (T11.setTop (mkF m 197 #[.val (.int p1), .val (.int p2), .val (.int p3), .val (.int p4), .val (.int n), .val (.int i5), .val (.int fl), .val (.ref b), .val (.int (own_len n)), .val (.int (Int32.ofNat (a + k + 1)))] [(.int fl), (.int n), (.int (own_len n)), (.int i5), (.int (2 : Int32)), (.ref b)])) _
    refine st12 _ ?_
    show Steps p.tables e below (T12.setTop (mkF m 200 #[.val (.int p1), .val (.int p2), .val (.int p3), .val (.int p4), .val (.int n), .val (.int i5), .val (.int fl), .val (.ref b), .val (.int (own_len n)), .val (.int (Int32.ofNat (a + k + 1)))] [(.int (1 : Int32))])) _
    refine XS.ifNo X12.here hx rfl (hb hby at_200) rfl ((if0 _ _).trans (feq (by decide : ¬ ((1 : Int32) = (0 : Int32)))).1) ?_
    show Steps p.tables e below (T12.setTop (mkF m 203 #[.val (.int p1), .val (.int p2), .val (.int p3), .val (.int p4), .val (.int n), .val (.int i5), .val (.int fl), .val (.ref b), .val (.int (own_len n)), .val (.int (Int32.ofNat (a + k + 1)))] [])) _
    refine XS.aload X12.here hx rfl (hb hby at_203) rfl rfl ?_
    show Steps p.tables e below (T12.setTop (mkF m 205 #[.val (.int p1), .val (.int p2), .val (.int p3), .val (.int p4), .val (.int n), .val (.int i5), .val (.int fl), .val (.ref b), .val (.int (own_len n)), .val (.int (Int32.ofNat (a + k + 1)))] [(.ref b)])) _
    refine XS.iconst X12.here hx rfl (hb hby at_205) ?_
    show Steps p.tables e below (T12.setTop (mkF m 206 #[.val (.int p1), .val (.int p2), .val (.int p3), .val (.int p4), .val (.int n), .val (.int i5), .val (.int fl), .val (.ref b), .val (.int (own_len n)), .val (.int (Int32.ofNat (a + k + 1)))] [(.int (3 : Int32)), (.ref b)])) _
    refine XS.iload X12.here hx rfl (hb hby at_206) rfl ?_
    show Steps p.tables e below (T12.setTop (mkF m 208 #[.val (.int p1), .val (.int p2), .val (.int p3), .val (.int p4), .val (.int n), .val (.int i5), .val (.int fl), .val (.ref b), .val (.int (own_len n)), .val (.int (Int32.ofNat (a + k + 1)))] [(.int i5), (.int (3 : Int32)), (.ref b)])) _
    refine XS.iload X12.here hx rfl (hb hby at_208) rfl ?_
    show Steps p.tables e below (T12.setTop (mkF m 210 #[.val (.int p1), .val (.int p2), .val (.int p3), .val (.int p4), .val (.int n), .val (.int i5), .val (.int fl), .val (.ref b), .val (.int (own_len n)), .val (.int (Int32.ofNat (a + k + 1)))] [(.int (own_len n)), (.int i5), (.int (3 : Int32)), (.ref b)])) _
    refine XS.iload X12.here hx rfl (hb hby at_210) rfl ?_
    show Steps p.tables e below (T12.setTop (mkF m 212 #[.val (.int p1), .val (.int p2), .val (.int p3), .val (.int p4), .val (.int n), .val (.int i5), .val (.int fl), .val (.ref b), .val (.int (own_len n)), .val (.int (Int32.ofNat (a + k + 1)))] [(.int n), (.int (own_len n)), (.int i5), (.int (3 : Int32)), (.ref b)])) _
    refine XS.iload X12.here hx rfl (hb hby at_212) rfl ?_
    show Steps p.tables e below (T12.setTop (mkF m 214 #[.val (.int p1), .val (.int p2), .val (.int p3), .val (.int p4), .val (.int n), .val (.int i5), .val (.int fl), .val (.ref b), .val (.int (own_len n)), .val (.int (Int32.ofNat (a + k + 1)))] [(.int fl), (.int n), (.int (own_len n)), (.int i5), (.int (3 : Int32)), (.ref b)])) _
    refine st13 _ ?_
    show Steps p.tables e below (T13.setTop (mkF m 217 #[.val (.int p1), .val (.int p2), .val (.int p3), .val (.int p4), .val (.int n), .val (.int i5), .val (.int fl), .val (.ref b), .val (.int (own_len n)), .val (.int (Int32.ofNat (a + k + 1)))] [(.int (1 : Int32))])) _
    refine XS.ifNo X13.here hx rfl (hb hby at_217) rfl ((if0 _ _).trans (feq (by decide : ¬ ((1 : Int32) = (0 : Int32)))).1) ?_
    show Steps p.tables e below (T13.setTop (mkF m 220 #[.val (.int p1), .val (.int p2), .val (.int p3), .val (.int p4), .val (.int n), .val (.int i5), .val (.int fl), .val (.ref b), .val (.int (own_len n)), .val (.int (Int32.ofNat (a + k + 1)))] [])) _
    refine XS.aload X13.here hx rfl (hb hby at_220) rfl rfl ?_
    show Steps p.tables e below (T13.setTop (mkF m 222 #[.val (.int p1), .val (.int p2), .val (.int p3), .val (.int p4), .val (.int n), .val (.int i5), .val (.int fl), .val (.ref b), .val (.int (own_len n)), .val (.int (Int32.ofNat (a + k + 1)))] [(.ref b)])) _
    refine XS.iconst X13.here hx rfl (hb hby at_222) ?_
    show Steps p.tables e below (T13.setTop (mkF m 223 #[.val (.int p1), .val (.int p2), .val (.int p3), .val (.int p4), .val (.int n), .val (.int i5), .val (.int fl), .val (.ref b), .val (.int (own_len n)), .val (.int (Int32.ofNat (a + k + 1)))] [(.int (4 : Int32)), (.ref b)])) _
    refine XS.iload X13.here hx rfl (hb hby at_223) rfl ?_
    show Steps p.tables e below (T13.setTop (mkF m 225 #[.val (.int p1), .val (.int p2), .val (.int p3), .val (.int p4), .val (.int n), .val (.int i5), .val (.int fl), .val (.ref b), .val (.int (own_len n)), .val (.int (Int32.ofNat (a + k + 1)))] [(.int i5), (.int (4 : Int32)), (.ref b)])) _
    refine XS.iload X13.here hx rfl (hb hby at_225) rfl ?_
    show Steps p.tables e below (T13.setTop (mkF m 227 #[.val (.int p1), .val (.int p2), .val (.int p3), .val (.int p4), .val (.int n), .val (.int i5), .val (.int fl), .val (.ref b), .val (.int (own_len n)), .val (.int (Int32.ofNat (a + k + 1)))] [(.int (own_len n)), (.int i5), (.int (4 : Int32)), (.ref b)])) _
    refine XS.iload X13.here hx rfl (hb hby at_227) rfl ?_
    show Steps p.tables e below (T13.setTop (mkF m 229 #[.val (.int p1), .val (.int p2), .val (.int p3), .val (.int p4), .val (.int n), .val (.int i5), .val (.int fl), .val (.ref b), .val (.int (own_len n)), .val (.int (Int32.ofNat (a + k + 1)))] [(.int n), (.int (own_len n)), (.int i5), (.int (4 : Int32)), (.ref b)])) _
    refine XS.iload X13.here hx rfl (hb hby at_229) rfl ?_
    show Steps p.tables e below (T13.setTop (mkF m 231 #[.val (.int p1), .val (.int p2), .val (.int p3), .val (.int p4), .val (.int n), .val (.int i5), .val (.int fl), .val (.ref b), .val (.int (own_len n)), .val (.int (Int32.ofNat (a + k + 1)))] [(.int fl), (.int n), (.int (own_len n)), (.int i5), (.int (4 : Int32)), (.ref b)])) _
    refine st14 _ ?_
    show Steps p.tables e below (T14.setTop (mkF m 234 #[.val (.int p1), .val (.int p2), .val (.int p3), .val (.int p4), .val (.int n), .val (.int i5), .val (.int fl), .val (.ref b), .val (.int (own_len n)), .val (.int (Int32.ofNat (a + k + 1)))] [(.int (1 : Int32))])) _
    refine XS.ifNo X14.here hx rfl (hb hby at_234) rfl ((if0 _ _).trans (feq (by decide : ¬ ((1 : Int32) = (0 : Int32)))).1) ?_
    show Steps p.tables e below (T14.setTop (mkF m 237 #[.val (.int p1), .val (.int p2), .val (.int p3), .val (.int p4), .val (.int n), .val (.int i5), .val (.int fl), .val (.ref b), .val (.int (own_len n)), .val (.int (Int32.ofNat (a + k + 1)))] [])) _
    refine XS.aload X14.here hx rfl (hb hby at_237) rfl rfl ?_
    show Steps p.tables e below (T14.setTop (mkF m 239 #[.val (.int p1), .val (.int p2), .val (.int p3), .val (.int p4), .val (.int n), .val (.int i5), .val (.int fl), .val (.ref b), .val (.int (own_len n)), .val (.int (Int32.ofNat (a + k + 1)))] [(.ref b)])) _
    refine XS.iconst X14.here hx rfl (hb hby at_239) ?_
    show Steps p.tables e below (T14.setTop (mkF m 240 #[.val (.int p1), .val (.int p2), .val (.int p3), .val (.int p4), .val (.int n), .val (.int i5), .val (.int fl), .val (.ref b), .val (.int (own_len n)), .val (.int (Int32.ofNat (a + k + 1)))] [(.int (5 : Int32)), (.ref b)])) _
    refine XS.iload X14.here hx rfl (hb hby at_240) rfl ?_
    show Steps p.tables e below (T14.setTop (mkF m 242 #[.val (.int p1), .val (.int p2), .val (.int p3), .val (.int p4), .val (.int n), .val (.int i5), .val (.int fl), .val (.ref b), .val (.int (own_len n)), .val (.int (Int32.ofNat (a + k + 1)))] [(.int i5), (.int (5 : Int32)), (.ref b)])) _
    refine XS.iload X14.here hx rfl (hb hby at_242) rfl ?_
    show Steps p.tables e below (T14.setTop (mkF m 244 #[.val (.int p1), .val (.int p2), .val (.int p3), .val (.int p4), .val (.int n), .val (.int i5), .val (.int fl), .val (.ref b), .val (.int (own_len n)), .val (.int (Int32.ofNat (a + k + 1)))] [(.int (own_len n)), (.int i5), (.int (5 : Int32)), (.ref b)])) _
    refine XS.iload X14.here hx rfl (hb hby at_244) rfl ?_
    show Steps p.tables e below (T14.setTop (mkF m 246 #[.val (.int p1), .val (.int p2), .val (.int p3), .val (.int p4), .val (.int n), .val (.int i5), .val (.int fl), .val (.ref b), .val (.int (own_len n)), .val (.int (Int32.ofNat (a + k + 1)))] [(.int n), (.int (own_len n)), (.int i5), (.int (5 : Int32)), (.ref b)])) _
    refine XS.iload X14.here hx rfl (hb hby at_246) rfl ?_
    show Steps p.tables e below (T14.setTop (mkF m 248 #[.val (.int p1), .val (.int p2), .val (.int p3), .val (.int p4), .val (.int n), .val (.int i5), .val (.int fl), .val (.ref b), .val (.int (own_len n)), .val (.int (Int32.ofNat (a + k + 1)))] [(.int fl), (.int n), (.int (own_len n)), (.int i5), (.int (5 : Int32)), (.ref b)])) _
    refine st15 _ ?_
    show Steps p.tables e below (T15.setTop (mkF m 251 #[.val (.int p1), .val (.int p2), .val (.int p3), .val (.int p4), .val (.int n), .val (.int i5), .val (.int fl), .val (.ref b), .val (.int (own_len n)), .val (.int (Int32.ofNat (a + k + 1)))] [(.int (1 : Int32))])) _
    refine XS.ifNo X15.here hx rfl (hb hby at_251) rfl ((if0 _ _).trans (feq (by decide : ¬ ((1 : Int32) = (0 : Int32)))).1) ?_
    show Steps p.tables e below (T15.setTop (mkF m 254 #[.val (.int p1), .val (.int p2), .val (.int p3), .val (.int p4), .val (.int n), .val (.int i5), .val (.int fl), .val (.ref b), .val (.int (own_len n)), .val (.int (Int32.ofNat (a + k + 1)))] [])) _
    refine XS.aload X15.here hx rfl (hb hby at_254) rfl rfl ?_
    show Steps p.tables e below (T15.setTop (mkF m 256 #[.val (.int p1), .val (.int p2), .val (.int p3), .val (.int p4), .val (.int n), .val (.int i5), .val (.int fl), .val (.ref b), .val (.int (own_len n)), .val (.int (Int32.ofNat (a + k + 1)))] [(.ref b)])) _
    refine XS.bipush X15.here hx rfl (hb hby at_256) ?_
    show Steps p.tables e below (T15.setTop (mkF m 258 #[.val (.int p1), .val (.int p2), .val (.int p3), .val (.int p4), .val (.int n), .val (.int i5), .val (.int fl), .val (.ref b), .val (.int (own_len n)), .val (.int (Int32.ofNat (a + k + 1)))] [(.int (6 : Int32)), (.ref b)])) _
    refine XS.iload X15.here hx rfl (hb hby at_258) rfl ?_
    show Steps p.tables e below (T15.setTop (mkF m 260 #[.val (.int p1), .val (.int p2), .val (.int p3), .val (.int p4), .val (.int n), .val (.int i5), .val (.int fl), .val (.ref b), .val (.int (own_len n)), .val (.int (Int32.ofNat (a + k + 1)))] [(.int i5), (.int (6 : Int32)), (.ref b)])) _
    refine XS.iload X15.here hx rfl (hb hby at_260) rfl ?_
    show Steps p.tables e below (T15.setTop (mkF m 262 #[.val (.int p1), .val (.int p2), .val (.int p3), .val (.int p4), .val (.int n), .val (.int i5), .val (.int fl), .val (.ref b), .val (.int (own_len n)), .val (.int (Int32.ofNat (a + k + 1)))] [(.int (own_len n)), (.int i5), (.int (6 : Int32)), (.ref b)])) _
    refine XS.iload X15.here hx rfl (hb hby at_262) rfl ?_
    show Steps p.tables e below (T15.setTop (mkF m 264 #[.val (.int p1), .val (.int p2), .val (.int p3), .val (.int p4), .val (.int n), .val (.int i5), .val (.int fl), .val (.ref b), .val (.int (own_len n)), .val (.int (Int32.ofNat (a + k + 1)))] [(.int n), (.int (own_len n)), (.int i5), (.int (6 : Int32)), (.ref b)])) _
    refine XS.iload X15.here hx rfl (hb hby at_264) rfl ?_
    show Steps p.tables e below (T15.setTop (mkF m 266 #[.val (.int p1), .val (.int p2), .val (.int p3), .val (.int p4), .val (.int n), .val (.int i5), .val (.int fl), .val (.ref b), .val (.int (own_len n)), .val (.int (Int32.ofNat (a + k + 1)))] [(.int fl), (.int n), (.int (own_len n)), (.int i5), (.int (6 : Int32)), (.ref b)])) _
    refine st16 _ ?_
    show Steps p.tables e below (T16.setTop (mkF m 269 #[.val (.int p1), .val (.int p2), .val (.int p3), .val (.int p4), .val (.int n), .val (.int i5), .val (.int fl), .val (.ref b), .val (.int (own_len n)), .val (.int (Int32.ofNat (a + k + 1)))] [(.int (1 : Int32))])) _
    refine XS.ifNo X16.here hx rfl (hb hby at_269) rfl ((if0 _ _).trans (feq (by decide : ¬ ((1 : Int32) = (0 : Int32)))).1) ?_
    show Steps p.tables e below (T16.setTop (mkF m 272 #[.val (.int p1), .val (.int p2), .val (.int p3), .val (.int p4), .val (.int n), .val (.int i5), .val (.int fl), .val (.ref b), .val (.int (own_len n)), .val (.int (Int32.ofNat (a + k + 1)))] [])) _
    refine XS.iconst X16.here hx rfl (hb hby at_272) ?_
    show Steps p.tables e below (T16.setTop (mkF m 273 #[.val (.int p1), .val (.int p2), .val (.int p3), .val (.int p4), .val (.int n), .val (.int i5), .val (.int fl), .val (.ref b), .val (.int (own_len n)), .val (.int (Int32.ofNat (a + k + 1)))] [(.int (1 : Int32))])) _
    refine XS.goto X16.here hx rfl (pc0 := 273) (pc' := 277) rfl (hb hby at_273) (by decide) (by decide) ?_
    show Steps p.tables e below (T16.setTop (mkF m 277 #[.val (.int p1), .val (.int p2), .val (.int p3), .val (.int p4), .val (.int n), .val (.int i5), .val (.int fl), .val (.ref b), .val (.int (own_len n)), .val (.int (Int32.ofNat (a + k + 1)))] [(.int (1 : Int32))])) _
    exact retN X16 hx (t := .boolean) Bd.returns (by simp) (hb hby at_277) hr
  · show Q0 Z p1 p2 p3 p4 h0 n0 _ T16.heap _
    rw [e16]
    exact ⟨rfl, N16⟩
set_option maxRecDepth 65536 in
set_option maxHeartbeats 40000000 in
theorem comes_1 {Post : Tables → Env → Array Value → State → Outcome → State → Prop} (hpost : ∀ tb e args s v u, (limb_1_1.after args s (.returned v) u = true ∧ limb_1_2.after args s (.returned v) u = true ∧ True) → FrameEnd s (.returned v) u (Jvm.fieldLocs frame_1_writes args s ++ Jvm.arrayLocs frame_1_arrays args s ++ Jvm.staticLocs frame_1_statics s) 16 128 → Post tb e args s (.returned v) u) :
    ArmFor flags0 classFile x code maxLocals ret World_1 tables_1 room_1 Calls_1 rest_1 Pre_1 Post := by
  intro l hfl _ _ p e ha hc hk s m args below hf hA hF happ hP
  obtain ⟨hcalls, hrest, hpre⟩ := hP
  obtain ⟨-, -, -, hnamed, -, -, -, hat⟩ := (Spec.applies_iff hf).mp happ
  obtain ⟨hg, hn⟩ := and_e (Cond.before_iff.mp (show (Jvm.Cond.and given_1 narrow_1).before args s = true from hpre))
  obtain ⟨gc, gr0⟩ := and_e hg
  obtain ⟨ga0, gr1⟩ := and_e gr0
  obtain ⟨ga1, gr2⟩ := and_e gr1
  obtain ⟨ga2, gr3⟩ := and_e gr2
  obtain ⟨w0, w1, w2, w3, rfl⟩ : ∃ w0 w1 w2 w3 : Value, args = #[w0, w1, w2, w3] := by
    have hs : args.size = 4 := by simpa [Cond.value, given_1] using gc
    obtain ⟨L⟩ := args
    match L, hs with
    | [w0, w1, w2, w3], _ => exact ⟨w0, w1, w2, w3, rfl⟩
  have hw := fun d (hd : d ∈ tables_1) => atoms_spec (ws := Jvm.Cond.code x code maxLocals ret :: tables_1) hat d (List.mem_cons_of_mem _ hd)
  obtain ⟨i0, ei0⟩ := is_v ga0
  obtain rfl : w0 = (.int i0) := Option.some.inj ei0
  obtain ⟨i1, ei1⟩ := is_v ga1
  obtain rfl : w1 = (.int i1) := Option.some.inj ei1
  obtain ⟨i2, ei2⟩ := is_v ga2
  obtain rfl : w2 = (.int i2) := Option.some.inj ei2
  obtain ⟨i3, ei3⟩ := is_v gr3
  obtain rfl : w3 = (.int i3) := Option.some.inj ei3
  obtain ⟨n, o, h1, h2, h3, _, L, rfl, ⟨rfl, N⟩, hq⟩ := rm0 l s _ hw tables_1 i0 i1 i2 i3 s.heap s.heap.size (Nat.le_refl _)  p e ha hc hk s m _ below hf ((Spec.applies_iff_loose hf).mp happ).1 ⟨rfl, State.Warmed39.refl s, rfl⟩ trivial
  refine ⟨n, _, h1, h2, h3, hpost _ _ _ _ _ _ ⟨Cond.after_iff.mpr rfl, Cond.after_iff.mpr (eq_i res_at (Term.int_eval (1)) rfl), trivial⟩ ⟨hq.1, hq.2.1, (hq.2.2.sift fun y hy => Or.inr (N y hy)).mono (by decide) (by decide)⟩⟩
theorem main_1_1 : Claimed_1_1 := comes_1 fun _ _ _ _ _ _ h hF => ⟨h.1, hF⟩
theorem main_1_2 : Claimed_1_2 := comes_1 fun _ _ _ _ _ _ h hF => ⟨h.2.1, hF⟩
end Jvm.Pilot.@@N@@
namespace Jvm.Pilot.@@N@@
open Jvm Jvm.ClassFile Sem Op Lib Jvm.Free Jvm.Stand Jvm.Pilot.@@N@@.Jvm.D
/-! MADE BY PROGRAM (witnessworld.py) out of the Statement's table words and the real class files: 9 classes; the members and pool entries that the words name. The judged class is class 1, her method 1. -/
namespace start1
open Jvm.ClassFile
def u (s : String) : CpInfo := .utf8 (stringToUtf16 s)
/-- a pool by its gaps: so many unusable entries, then the entry; so many at the end -/
def gap : Nat → List CpInfo → List CpInfo
  | 0, r => r
  | n + 1, r => .unusable :: gap n r
def poolList (es : List (Nat × CpInfo)) (last : Nat) : List CpInfo := es.foldr (fun e r => gap e.1 (e.2 :: r)) (gap last [])
def pool (es : List (Nat × CpInfo)) (last : Nat) : Array CpInfo := ⟨poolList es last⟩
def fileOf (pool : Array CpInfo) (this : Nat) (attrs : Array Attribute := #[]) (ms : Array MethodInfo := #[]) (fl : Nat := 33) (sup : Nat := 0) (ifs : Array Nat := #[]) (fds : Array FieldInfo := #[]) : ClassFile where
  minorVersion := 0
  majorVersion := 65
  constantPool := pool
  accessFlags := fl
  thisClass := this
  superClass := sup
  interfaces := ifs
  fields := fds
  methods := ms
  attributes := attrs
def plain (name : String) (sup : Option ClassId) : Class where
  name := name
  kind := .ordinary
  loader := none
  accessFlags := 33
  super := sup
  interfaces := #[]
  cf := none
  fields := #[]
  methods := #[]
  instanceTypes := #[]
  staticTypes := #[]
  resolved := #[]
  callSites := []
  init := .initialized
  statics := none
  mirror := none

def pool0 : Array CpInfo := pool [(5, u "<init>"), (0, u "()V"), (1, .class_ 10), (1, u "java/lang/Object")] 113

def k0m0 : Method := { name := "<init>", desc := "()V", sig := { parameters := [], returnType := none }, accessFlags := 1, code := none }
/-- java/lang/Object -/
def k0 : Class := { plain "java/lang/Object" none with
  accessFlags := 33
  interfaces := #[]
  cf := some (fileOf pool0 8 #[] #[{ accessFlags := 1, nameIndex := 5, descriptorIndex := 6, attributes := #[] }] 33 0 #[] #[])
  fields := #[]
  methods := #[k0m0]
  instanceTypes := #[]
  staticTypes := #[]
  resolved := Array.replicate 124 none
  statics := none }

def pool1 : Array CpInfo := pool [(2, .class_ 4), (1, u "java/lang/Object"), (0, u "<init>"), (0, u "()V"), (0, .integer 2147483647), (0, .integer 2097152), (0, .integer 268435456), (0, .methodref 11 12), (0, .class_ 13), (0, .nameAndType 14 15), (0, u "com/example/harbourline/harbourline/messages/SevenBitNumber"), (0, u "put"), (0, u "([BII)I"), (0, .methodref 17 18), (0, .class_ 19), (0, .nameAndType 20 21), (0, u "com/example/harbourline/harbourline/messages/SevenBitNumberPutPinLaw"), (0, u "check"), (0, u "([BIIIIB)Z"), (2, u "law"), (0, u "(IIII)Z")] 5

def k1m0 : Method := { name := "<init>", desc := "()V", sig := { parameters := [], returnType := none }, accessFlags := 2, code := none }
def k1c1 : Code := { maxStack := 6, maxLocals := 10, code := code, exceptionTable := #[], attributes := #[] }
def k1m1 : Method := { name := "law", desc := "(IIII)Z", sig := { parameters := [.int, .int, .int, .int], returnType := some .boolean }, accessFlags := 9, code := some k1c1 }
def k1c2 : Code := { maxStack := 3, maxLocals := 8, code := method_3_code, exceptionTable := #[], attributes := #[] }
def k1m2 : Method := { name := "check", desc := "([BIIIIB)Z", sig := { parameters := [(.array .byte), .int, .int, .int, .int, .byte], returnType := some .boolean }, accessFlags := 10, code := some k1c2 }
/-- com/example/harbourline/harbourline/messages/SevenBitNumberPutPinLaw -/
def k1 : Class := { plain "com/example/harbourline/harbourline/messages/SevenBitNumberPutPinLaw" (some 0) with
  accessFlags := 49
  interfaces := #[]
  cf := some (fileOf pool1 17 #[] #[{ accessFlags := 2, nameIndex := 5, descriptorIndex := 6, attributes := #[] }, { accessFlags := 9, nameIndex := 24, descriptorIndex := 25, attributes := #[] }, { accessFlags := 10, nameIndex := 20, descriptorIndex := 21, attributes := #[] }] 49 2 #[] #[])
  fields := #[]
  methods := #[k1m0, k1m1, k1m2]
  instanceTypes := #[]
  staticTypes := #[]
  resolved := Array.replicate 31 none
  statics := none }

def pool2 : Array CpInfo := pool [(2, .class_ 4), (1, u "java/lang/Object"), (0, u "<init>"), (0, u "()V"), (0, .class_ 8), (0, u "com/example/harbourline/harbourline/messages/SevenBitNumber"), (6, u "LONGEST"), (0, u "I"), (2, u "SEVEN_BITS"), (1, u "MORE"), (3, u "put"), (0, u "([BII)I")] 4

def k2m0 : Method := { name := "<init>", desc := "()V", sig := { parameters := [], returnType := none }, accessFlags := 2, code := none }
def k2c1 : Code := { maxStack := 4, maxLocals := 5, code := prog_179_method_2_code, exceptionTable := #[], attributes := #[] }
def k2m1 : Method := { name := "put", desc := "([BII)I", sig := { parameters := [(.array .byte), .int, .int], returnType := some .int }, accessFlags := 8, code := some k2c1 }
/-- com/example/harbourline/harbourline/messages/SevenBitNumber -/
def k2 : Class := { plain "com/example/harbourline/harbourline/messages/SevenBitNumber" (some 0) with
  accessFlags := 48
  interfaces := #[]
  cf := some (fileOf pool2 7 #[] #[{ accessFlags := 2, nameIndex := 5, descriptorIndex := 6, attributes := #[] }, { accessFlags := 8, nameIndex := 25, descriptorIndex := 26, attributes := #[] }] 48 2 #[] #[{ accessFlags := 24, nameIndex := 15, descriptorIndex := 16, attributes := #[] }, { accessFlags := 26, nameIndex := 19, descriptorIndex := 16, attributes := #[] }, { accessFlags := 26, nameIndex := 21, descriptorIndex := 16, attributes := #[] }])
  fields := #[{ name := "LONGEST", type := .int, accessFlags := 24, slot := 0, constantValue := 0 }, { name := "SEVEN_BITS", type := .int, accessFlags := 26, slot := 1, constantValue := 0 }, { name := "MORE", type := .int, accessFlags := 26, slot := 2, constantValue := 0 }]
  methods := #[k2m0, k2m1]
  instanceTypes := #[]
  staticTypes := #[.int, .int, .int]
  resolved := Array.replicate 31 none
  statics := none }

def pool3 : Array CpInfo := pool [(1, u "java/lang/Cloneable"), (0, .class_ 1), (0, u "java/lang/Object"), (0, .class_ 3)] 3

/-- java/lang/Cloneable -/
def k3 : Class := { plain "java/lang/Cloneable" (some 0) with
  accessFlags := 1537
  interfaces := #[]
  cf := some (fileOf pool3 2 #[] #[] 1537 4 #[] #[])
  fields := #[]
  methods := #[]
  instanceTypes := #[]
  staticTypes := #[]
  resolved := Array.replicate 8 none
  statics := none }

def pool4 : Array CpInfo := pool [(1, u "java/io/Serializable"), (0, .class_ 1), (0, u "java/lang/Object"), (0, .class_ 3)] 3

/-- java/io/Serializable -/
def k4 : Class := { plain "java/io/Serializable" (some 0) with
  accessFlags := 1537
  interfaces := #[]
  cf := some (fileOf pool4 2 #[] #[] 1537 4 #[] #[])
  fields := #[]
  methods := #[]
  instanceTypes := #[]
  staticTypes := #[]
  resolved := Array.replicate 8 none
  statics := none }

/-- the primitive byte -/
def k5 : Class := { plain "byte" none with kind := .primitive 'B', accessFlags := 0x411 }
/-- [B -/
def k6 : Class := { plain "[B" (some 0) with kind := .array 5 .byte, interfaces := #[3, 4], accessFlags := 1041 }

/-- the primitive int -/
def k7 : Class := { plain "int" none with kind := .primitive 'I', accessFlags := 0x411 }
/-- [I -/
def k8 : Class := { plain "[I" (some 0) with kind := .array 7 .int, interfaces := #[3, 4], accessFlags := 1041 }

def heap : Heap := #[]
def classes : Array Class := #[k0, k1, k2, k3, k4, k5, k6, k7, k8]
def interned : List (Array UInt16 × Addr) := []
def slotsUsed : Nat := 0
def theMethod : MethodId := ⟨1, 1⟩
def args0 : Array Value := #[.int 5, .int 300, .int 7, .int 2]
def aboutOver (below : List Frame) : State where
  vm := { classes := classes, interned := interned.toArray }
  heap := heap
  slotsUsed := slotsUsed
  threads := #[{ frames := .invoking theMethod args0 :: below }]
def below0 : List Frame := [.native { method := ⟨0, 0⟩, args := #[] }]
def about1 : State := aboutOver below0
def p0 : Program := .bare "" "" ""
def e0 : Env := launch0.env 0 0 0
theorem w_frames : about1.frames = Frame.invoking theMethod args0 :: below0 := rfl
set_option maxRecDepth 65536 in
theorem w_args : argsFit about1.vm theMethod args0 = true := by decide +kernel
set_option maxRecDepth 65536 in
theorem w_heap : heapFits about1 = true := by decide +kernel
set_option maxRecDepth 65536 in
theorem w_runnable : about1.curStatus? = some .runnable := by decide +kernel
set_option maxRecDepth 65536 in
theorem w_alone : about1.alone = true := by decide +kernel
set_option maxRecDepth 65536 in
theorem w_named : about1.methodNamed? x = some theMethod := by decide +kernel
set_option maxRecDepth 65536 in
theorem w_hears : about1.hears theMethod below0 = true := by decide +kernel
set_option maxRecDepth 65536 in
theorem w_ripe : about1.ripe theMethod args0 below0 = true := by decide +kernel
theorem w_running : about1.status = .running := rfl
set_option maxRecDepth 65536 in
theorem w_room : about1.hasRoom e0.platform room_1 = true :=
  launch0.hasRoom_least _ room_1 (by decide +kernel) (by decide +kernel) (by decide +kernel) (by decide +kernel) (by decide +kernel) (by decide +kernel)
theorem allAtoms_all (ts : List Jvm.Cond) (a : Array Jvm.Value) (st : Jvm.State) : (allAtoms ts).before a st = ts.all (fun c => c.before a st) := by
  induction ts with
  | nil => rfl
  | cons c t ih =>
    show (Jvm.Cond.and c (allAtoms t)).before a st = _
    rw [Jvm.Cond.before_and, ih, List.all_cons]
def words1 : List Jvm.Cond := Jvm.Cond.code x code maxLocals ret :: tables_1
/-- a 'code' word, met by the world's own term for the bytes: nothing is compared byte by byte -/
theorem code_word {y : MethodName} {bytes : ByteArray} {mx : Nat} {rt : Option FieldType} {a : Array Value} {s : State} {m : MethodId} {meth : Method} {c : Code} (h1 : s.methodNamed? y = some m) (h2 : s.vm.method? m = some meth) (h3 : meth.code = some c) (h4 : c.code = bytes)
    (h5 : (c.maxLocals == mx && c.exceptionTable.isEmpty && decide (c.maxStack ≤ mostOperands) && decide (meth.sig.returnType = rt) && !meth.locks && decide (parseMethodDescriptor y.desc = some meth.sig)) = true) : (Jvm.Cond.code y bytes mx rt).before a s = true := by
  simp only [Bool.and_eq_true, beq_iff_eq, Bool.not_eq_true', decide_eq_true_eq] at h5
  obtain ⟨⟨⟨⟨⟨g1, g2⟩, g3⟩, g4⟩, g5⟩, g6⟩ := h5
  simp [Cond.before, Cond.holds, Cond.value, h1, h2, h3, h4, g1, g2, g3, g4, g5, g6]
def isCode : Jvm.Cond → Bool
  | .code _ _ _ _ => true
  | _ => false
theorem all_split {L : List Jvm.Cond} {P : Jvm.Cond → Bool} (h1 : L.all (fun c => isCode c || P c) = true) (h2 : ∀ c ∈ L.filter isCode, P c = true) : L.all P = true := by
  refine List.all_eq_true.mpr fun c hc => ?_
  have h := List.all_eq_true.mp h1 c hc
  rcases Bool.eq_false_or_eq_true (isCode c) with hi | hi
  · exact h2 c (List.mem_filter.mpr ⟨hc, hi⟩)
  · simpa [hi] using h
set_option maxRecDepth 65536 in
theorem w_c0 : (Jvm.Cond.code x code maxLocals ret).before args0 about1 = true := code_word (m := ⟨1, 1⟩) (meth := k1m1) (c := k1c1) (by decide +kernel) rfl rfl rfl (by decide +kernel)
set_option maxRecDepth 65536 in
theorem w_c1 : (Jvm.Cond.code ({ cls := "com/example/harbourline/harbourline/messages/SevenBitNumber", name := "put", desc := "([BII)I" } : Jvm.MethodName) prog_179_method_2_code (5 : Nat) (Option.some Jvm.ClassFile.FieldType.int)).before args0 about1 = true := code_word (m := ⟨2, 1⟩) (meth := k2m1) (c := k2c1) (by decide +kernel) rfl rfl rfl (by decide +kernel)
set_option maxRecDepth 65536 in
theorem w_c2 : (Jvm.Cond.code ({ cls := "com/example/harbourline/harbourline/messages/SevenBitNumberPutPinLaw", name := "check", desc := "([BIIIIB)Z" } : Jvm.MethodName) method_3_code (8 : Nat) (Option.some Jvm.ClassFile.FieldType.boolean)).before args0 about1 = true := code_word (m := ⟨1, 2⟩) (meth := k1m2) (c := k1c2) (by decide +kernel) rfl rfl rfl (by decide +kernel)
def codes1 : List Jvm.Cond := [Jvm.Cond.code x code maxLocals ret, Jvm.Cond.code ({ cls := "com/example/harbourline/harbourline/messages/SevenBitNumber", name := "put", desc := "([BII)I" } : Jvm.MethodName) prog_179_method_2_code (5 : Nat) (Option.some Jvm.ClassFile.FieldType.int), Jvm.Cond.code ({ cls := "com/example/harbourline/harbourline/messages/SevenBitNumberPutPinLaw", name := "check", desc := "([BIIIIB)Z" } : Jvm.MethodName) method_3_code (8 : Nat) (Option.some Jvm.ClassFile.FieldType.boolean)]
set_option maxRecDepth 65536 in
theorem codes_eq : words1.filter isCode = codes1 := rfl
theorem w_codes : ∀ c ∈ words1.filter isCode, c.before args0 about1 = true := by
  rw [codes_eq]
  intro c hc
  simp only [codes1, List.mem_cons, List.not_mem_nil, or_false] at hc
  rcases hc with rfl | rfl | rfl
  · exact w_c0
  · exact w_c1
  · exact w_c2
set_option maxRecDepth 65536 in
theorem w_t1 : words1.all (fun c => isCode c || c.before args0 about1) = true := by decide +kernel
theorem w_tables : (allAtoms (Jvm.Cond.code x code maxLocals ret :: tables_1)).before args0 about1 = true := by
  rw [allAtoms_all]
  show words1.all (fun c => c.before args0 about1) = true
  refine all_split ?_ w_codes
  rw [w_t1]
set_option maxRecDepth 65536 in
theorem w_case : (Jvm.Cond.and given_1 narrow_1).before args0 about1 = true := by decide +kernel
theorem w_applies : (headSpec (Jvm.Cond.code x code maxLocals ret :: tables_1) room_1).applies x e0.platform about1 = true :=
  (Spec.applies_iff w_frames).mpr ⟨w_running, w_runnable, w_alone, w_named, w_hears, w_ripe, w_room, w_tables⟩
theorem atStart : AtStart classFile x code maxLocals ret World_1 tables_1 room_1 Calls_1 rest_1 Pre_1 launch0 p0 e0 about1 theMethod args0 below0 :=
  ⟨lists_1, trivial, launch0.admits_env _ _ _, launch0.least_env, fairChoices_fair.cas, fairChoices_fair.clock, w_frames, w_args, w_heap, w_applies, trivial, trivial, w_case⟩
end start1
theorem witness_1 : WitnessClaimed_1 := ⟨start1.p0, start1.e0, start1.about1, start1.theMethod, start1.args0, start1.below0, start1.atStart⟩
end Jvm.Pilot.@@N@@
