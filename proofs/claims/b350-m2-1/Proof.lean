import JvmDerived
import JvmDerived.Pilot.@@N@@Statement
import JvmDerived.Pilot.@@N@@Code
set_option linter.unusedVariables false
set_option linter.unusedSimpArgs false
namespace Jvm.RoadKit
open Sem ClassFile Op Lib Jvm.Stand Jvm.Free Jvm.LawKit
section New
variable {p : Program} {l : Launch} {e : Env} {R : Room} {s : State} {m : MethodId} {args : Array Value} {below : List Frame} {meth : Method} {c : Code} {T : State} {locs : List Loc} {cells slots : Nat}
theorem retI (X : Stand p l e R s m args below meth c T locs cells slots) (hx : p.tables.exec = Jvm.exec) {pc : Nat} {Ls : Array Slot} {z : Int32} {rest : List Value} (hret : meth.sig.returnType = some .int) (hd : decode c.code pc = .ok (.ireturn, 1)) {fs : List Frame}
    (hl : ∀ (f : JFrame) (acts : List Action), f.method = m → f.locked = none → f.entered = [] → (doReturn e (T.setTop f) acts (some (.int z))).1 = T.setFrames fs) : Steps p.tables e below (T.setTop (mkF m pc Ls (.int z :: rest))) (T.setFrames fs) := by
  have hm' : T.vm.method? m = some meth := X.method'
  have hn : narrow .int (.int z) = .int z := rfl
  show Steps p.tables e below (T.setTop { method := m, pc := pc, locals := Ls, stack := _ :: rest, locked := none }) _
  jvm_step X.here [X.here.top, hx, hd, hm', hret, hn]
  first | (intro acts; rw [hl _ acts rfl rfl rfl]) | rw [hl _ _ rfl rfl rfl]
  exact Steps.refl _
end New
end Jvm.RoadKit
namespace Jvm.Pilot.@@N@@
open Jvm Jvm.ClassFile Sem Op Lib Jvm.Free Jvm.Stand Jvm.LawKit Jvm.RoadKit Bundle Jvm.Pilot.@@N@@.Jvm.D
def own_A (Z : State) (h : Heap) (a : Addr) (ty : FieldType) (n : Nat) (f : Nat → Value) : Prop := ∃ c : Cell, Arr Z h a c ty ∧ c.slots.size = n ∧ ∀ j, j < n → c.slots[j]? = some (f j)
section OwnA
variable {Z : State} {h h' : Heap} {a b : Addr} {ty : FieldType} {n : Nat} {f : Nat → Value} {sl : Nat} {v : Value} {ws : List Addr}
theorem own_A.lt (F : own_A Z h a ty n f) : a < h.size := by obtain ⟨c, A, -⟩ := F; exact A.lt
theorem own_A.ext (F : own_A Z h a ty n f) (E : Ext h h') : own_A Z h' a ty n f := by obtain ⟨c, A, r⟩ := F; exact ⟨c, A.ext E, r⟩
theorem own_A.other (F : own_A Z h b ty n f) (W : Wr h h' a sl v) (q : b ≠ a) : own_A Z h' b ty n f := by obtain ⟨c, A, r⟩ := F; exact ⟨c, A.other W q, r⟩
theorem own_A.keep (F : own_A Z h a ty n f) (K : Keep h h' ws) (q : a ∉ ws) : own_A Z h' a ty n f := by obtain ⟨c, A, r⟩ := F; exact ⟨c, ⟨K.2.1 a c A.1 q, A.2⟩, r⟩
theorem own_A.alike {g : Nat → Value} (F : own_A Z h a ty n f) (e : ∀ j, j < n → f j = g j) : own_A Z h a ty n g := by obtain ⟨c, A, s, r⟩ := F; exact ⟨c, A, s, fun j hj => by rw [r j hj, e j hj]⟩
theorem own_A.set (F : own_A Z h a ty n f) {k : Nat} (hk : k < n) (W : Wr h h' a k v) : own_A Z h' a ty n (fun j => if j = k then v else f j) := by
  obtain ⟨c, A, s, r⟩ := F
  refine ⟨c.setSlot k v, A.same W, by rw [sz_set, s], fun j hj => ?_⟩
  show (c.slots.setIfInBounds k v)[j]? = some (if j = k then v else f j)
  rw [Array.getElem?_setIfInBounds]
  by_cases e : k = j
  · subst e; rw [if_pos rfl, if_pos (by omega), if_pos rfl]
  · rw [if_neg e, if_neg (fun q : j = k => e q.symm), r j hj]
theorem own_A.new {k : ClassId} {z : Int32} (A : Arr Z h a (newA k ty z) ty) (e : z.toNatClampNeg = n) : own_A Z h a ty n (fun _ => defaultValue ty) := by
  refine ⟨_, A, by rw [sz_new, e], fun j hj => ?_⟩
  show (Array.replicate z.toNatClampNeg (defaultValue ty))[j]? = _
  rw [Array.getElem?_replicate, if_pos (by omega)]
end OwnA
theorem own_in {c : Cell} {j : Int32} {n k : Nat} (s : c.slots.size = n) (h0 : ¬ j < 0) (hk : j.toNatClampNeg = k) (h : k < n) : ¬ (j < 0 ∨ c.slots.size ≤ j.toNatClampNeg) := fun q => q.elim h0 fun q => by omega

def own_up (f : Nat → Value) (i : Nat) (v : Value) : Nat → Value := fun j => if j = i then v else f j
def own_B (v : Int64) : Value := .int (((v &&& (127 : Int64)) ||| (128 : Int64)).toInt32.toInt8.toInt32)
def own_E (v : Int64) : Value := .int (v.toInt32.toInt8.toInt32)
def own_r (v : Int64) : Int64 := ((v.toUInt64 >>> ((7 : Int32) &&& 0x3f).toInt64.toUInt64).toInt64)
def own_f : Nat → (Nat → Value) → Nat → Int64 → Nat → Value
  | 0, f, i, v => own_up f i (own_E v)
  | k + 1, f, i, v => own_f k (own_up f i (own_B v)) (i + 1) (own_r v)
def own_c : Nat → Int64 → Prop
  | 0, v => (v &&& (-128 : Int64)) = (0 : Int64)
  | k + 1, v => ¬ ((v &&& (-128 : Int64)) = (0 : Int64)) ∧ own_c k (own_r v)
def own_sh : Nat → Int64 → Int64
  | 0, v => v
  | n + 1, v => own_sh n (own_r v)
theorem own_closed : ∀ (k : Nat) (f : Nat → Value) (i : Nat) (v : Int64) (j : Nat), own_f k f i v j = if j < i then f j else if j < i + k then own_B (own_sh (j - i) v) else if j = i + k then own_E (own_sh (j - i) v) else f j := by
  intro k
  induction k with
  | zero =>
    intro f i v j
    show (if j = i then own_E v else f j) = _
    by_cases h1 : j < i
    · rw [if_neg (by omega), if_pos h1]
    · rw [if_neg h1, if_neg (by omega : ¬ j < i + 0)]
      by_cases h2 : j = i
      · subst h2; rw [if_pos rfl, if_pos (by omega), Nat.sub_self]; rfl
      · rw [if_neg h2, if_neg (by omega)]
  | succ k ih =>
    intro f i v j
    show own_f k (own_up f i (own_B v)) (i + 1) (own_r v) j = _
    rw [ih]
    by_cases h1 : j < i
    · rw [if_pos (by omega : j < i + 1), if_pos h1]; show (if j = i then _ else _) = _; rw [if_neg (by omega)]
    · rw [if_neg h1]
      by_cases h2 : j = i
      · subst h2
        rw [if_pos (by omega : j < j + 1), if_pos (by omega : j < j + (k + 1)), Nat.sub_self]; show (if j = j then _ else _) = _; rw [if_pos rfl]; rfl
      · rw [if_neg (by omega : ¬ j < i + 1)]
        have e : own_sh (j - i) v = own_sh (j - (i + 1)) (own_r v) := by
          rw [show j - i = (j - (i + 1)) + 1 by omega]; rfl
        have e2 : own_up f i (own_B v) j = f j := by show (if j = i then _ else _) = _; rw [if_neg h2]
        rw [e, e2]
        by_cases h3 : j < i + (k + 1)
        · rw [if_pos (by omega : j < i + 1 + k), if_pos h3]
        · rw [if_neg (by omega : ¬ j < i + 1 + k), if_neg h3]
          by_cases h4 : j = i + (k + 1)
          · rw [if_pos (by omega : j = i + 1 + k), if_pos h4]
          · rw [if_neg (by omega : ¬ j = i + 1 + k), if_neg h4]
theorem own_split (v : Int64) : (v &&& (127 : Int64)) + (v &&& (-128 : Int64)) = v := by
  refine Int64.toBitVec_inj.mp ?_
  have h : ∀ b : BitVec 64, (b &&& 127#64) + (b &&& (-128 : Int64).toBitVec) = b := fun b => by
    rw [BitVec.add_eq_or_of_and_eq_zero]
    · rw [← BitVec.and_or_distrib_left, show 127#64 ||| (-128 : Int64).toBitVec = BitVec.allOnes 64 by decide, BitVec.and_allOnes]
    · rw [BitVec.and_assoc, BitVec.and_comm b (-128 : Int64).toBitVec, ← BitVec.and_assoc 127#64, show 127#64 &&& (-128 : Int64).toBitVec = 0#64 by decide, BitVec.zero_and, BitVec.and_zero]
  exact h v.toBitVec
theorem own_m0 (v : Int64) (h : 0 ≤ v.toInt) : (v &&& (-128 : Int64)) = (0 : Int64) ↔ v.toInt < 128 := by
  have s := own_split v
  have e := c_maskL v (127 : Int64) 7 (by decide) (by decide)
  have r := rng64 v
  constructor
  · intro q; rw [q] at s
    have s2 := congrArg Int64.toInt s
    have a := c_ladd (v &&& (127 : Int64)) (0 : Int64)
    have z : (0 : Int64).toInt = 0 := rfl
    omega
  · intro q
    refine Int64.toInt_inj.mp ?_
    have s2 := congrArg Int64.toInt s
    have a := c_ladd (v &&& (127 : Int64)) (v &&& (-128 : Int64))
    have r2 := rng64 (v &&& (-128 : Int64))
    have z : (0 : Int64).toInt = 0 := rfl
    omega
theorem own_rt (v : Int64) (h : 0 ≤ v.toInt) : (own_r v).toInt = v.toInt / 128 := by
  have e := c_lushr v (7 : Int32) 7 (by decide) (by decide)
  have r := rng64 v
  show ((v.toUInt64 >>> ((7 : Int32) &&& 0x3f).toInt64.toUInt64).toInt64).toInt = _
  rw [e]; omega
def own_k (n : Int64) : Nat := if n < (128 : Int64) then 0 else if n < (16384 : Int64) then 1 else if n < (2097152 : Int64) then 2 else if n < (268435456 : Int64) then 3 else if n < (34359738368 : Int64) then 4 else if n < (4398046511104 : Int64) then 5 else if n < (562949953421312 : Int64) then 6 else if n < (72057594037927936 : Int64) then 7 else 8
theorem own_k_lt (n : Int64) : own_k n < 9 := by unfold own_k; repeat (first | decide | split)
theorem own_ck (n : Int64) (h : 0 ≤ n.toInt) : own_c (own_k n) n := by
  have r := rng64 n
  have v1 : (own_r n).toInt = n.toInt / 128 := by exact own_rt n h
  have v2 : (own_r (own_r n)).toInt = n.toInt / 16384 := by rw [own_rt _ (by omega)]; omega
  have v3 : (own_r (own_r (own_r n))).toInt = n.toInt / 2097152 := by rw [own_rt _ (by omega)]; omega
  have v4 : (own_r (own_r (own_r (own_r n)))).toInt = n.toInt / 268435456 := by rw [own_rt _ (by omega)]; omega
  have v5 : (own_r (own_r (own_r (own_r (own_r n))))).toInt = n.toInt / 34359738368 := by rw [own_rt _ (by omega)]; omega
  have v6 : (own_r (own_r (own_r (own_r (own_r (own_r n)))))).toInt = n.toInt / 4398046511104 := by rw [own_rt _ (by omega)]; omega
  have v7 : (own_r (own_r (own_r (own_r (own_r (own_r (own_r n))))))).toInt = n.toInt / 562949953421312 := by rw [own_rt _ (by omega)]; omega
  have v8 : (own_r (own_r (own_r (own_r (own_r (own_r (own_r (own_r n)))))))).toInt = n.toInt / 72057594037927936 := by rw [own_rt _ (by omega)]; omega
  unfold own_k
  by_cases g0 : n < (128 : Int64)
  · rw [if_pos g0]
    have w0 := g0; rw [Int64.lt_iff_toInt_lt, show (128 : Int64).toInt = 128 from rfl] at w0
    exact (own_m0 n (by omega)).mpr (by omega)
  · have gg0 := g0
    by_cases g1 : n < (16384 : Int64)
    · rw [if_neg g0, if_pos g1]
      have w0 := g0; rw [Int64.lt_iff_toInt_lt, show (128 : Int64).toInt = 128 from rfl] at w0
      have w1 := g1; rw [Int64.lt_iff_toInt_lt, show (16384 : Int64).toInt = 16384 from rfl] at w1
      exact ⟨fun q => by have := (own_m0 n (by omega)).mp q; omega, (own_m0 (own_r n) (by omega)).mpr (by omega)⟩
    · have gg1 := g1
      by_cases g2 : n < (2097152 : Int64)
      · rw [if_neg g0, if_neg g1, if_pos g2]
        have w0 := g0; rw [Int64.lt_iff_toInt_lt, show (128 : Int64).toInt = 128 from rfl] at w0
        have w1 := g1; rw [Int64.lt_iff_toInt_lt, show (16384 : Int64).toInt = 16384 from rfl] at w1
        have w2 := g2; rw [Int64.lt_iff_toInt_lt, show (2097152 : Int64).toInt = 2097152 from rfl] at w2
        exact ⟨fun q => by have := (own_m0 n (by omega)).mp q; omega, ⟨fun q => by have := (own_m0 (own_r n) (by omega)).mp q; omega, (own_m0 (own_r (own_r n)) (by omega)).mpr (by omega)⟩⟩
      · have gg2 := g2
        by_cases g3 : n < (268435456 : Int64)
        · rw [if_neg g0, if_neg g1, if_neg g2, if_pos g3]
          have w0 := g0; rw [Int64.lt_iff_toInt_lt, show (128 : Int64).toInt = 128 from rfl] at w0
          have w1 := g1; rw [Int64.lt_iff_toInt_lt, show (16384 : Int64).toInt = 16384 from rfl] at w1
          have w2 := g2; rw [Int64.lt_iff_toInt_lt, show (2097152 : Int64).toInt = 2097152 from rfl] at w2
          have w3 := g3; rw [Int64.lt_iff_toInt_lt, show (268435456 : Int64).toInt = 268435456 from rfl] at w3
          exact ⟨fun q => by have := (own_m0 n (by omega)).mp q; omega, ⟨fun q => by have := (own_m0 (own_r n) (by omega)).mp q; omega, ⟨fun q => by have := (own_m0 (own_r (own_r n)) (by omega)).mp q; omega, (own_m0 (own_r (own_r (own_r n))) (by omega)).mpr (by omega)⟩⟩⟩
        · have gg3 := g3
          by_cases g4 : n < (34359738368 : Int64)
          · rw [if_neg g0, if_neg g1, if_neg g2, if_neg g3, if_pos g4]
            have w0 := g0; rw [Int64.lt_iff_toInt_lt, show (128 : Int64).toInt = 128 from rfl] at w0
            have w1 := g1; rw [Int64.lt_iff_toInt_lt, show (16384 : Int64).toInt = 16384 from rfl] at w1
            have w2 := g2; rw [Int64.lt_iff_toInt_lt, show (2097152 : Int64).toInt = 2097152 from rfl] at w2
            have w3 := g3; rw [Int64.lt_iff_toInt_lt, show (268435456 : Int64).toInt = 268435456 from rfl] at w3
            have w4 := g4; rw [Int64.lt_iff_toInt_lt, show (34359738368 : Int64).toInt = 34359738368 from rfl] at w4
            exact ⟨fun q => by have := (own_m0 n (by omega)).mp q; omega, ⟨fun q => by have := (own_m0 (own_r n) (by omega)).mp q; omega, ⟨fun q => by have := (own_m0 (own_r (own_r n)) (by omega)).mp q; omega, ⟨fun q => by have := (own_m0 (own_r (own_r (own_r n))) (by omega)).mp q; omega, (own_m0 (own_r (own_r (own_r (own_r n)))) (by omega)).mpr (by omega)⟩⟩⟩⟩
          · have gg4 := g4
            by_cases g5 : n < (4398046511104 : Int64)
            · rw [if_neg g0, if_neg g1, if_neg g2, if_neg g3, if_neg g4, if_pos g5]
              have w0 := g0; rw [Int64.lt_iff_toInt_lt, show (128 : Int64).toInt = 128 from rfl] at w0
              have w1 := g1; rw [Int64.lt_iff_toInt_lt, show (16384 : Int64).toInt = 16384 from rfl] at w1
              have w2 := g2; rw [Int64.lt_iff_toInt_lt, show (2097152 : Int64).toInt = 2097152 from rfl] at w2
              have w3 := g3; rw [Int64.lt_iff_toInt_lt, show (268435456 : Int64).toInt = 268435456 from rfl] at w3
              have w4 := g4; rw [Int64.lt_iff_toInt_lt, show (34359738368 : Int64).toInt = 34359738368 from rfl] at w4
              have w5 := g5; rw [Int64.lt_iff_toInt_lt, show (4398046511104 : Int64).toInt = 4398046511104 from rfl] at w5
              exact ⟨fun q => by have := (own_m0 n (by omega)).mp q; omega, ⟨fun q => by have := (own_m0 (own_r n) (by omega)).mp q; omega, ⟨fun q => by have := (own_m0 (own_r (own_r n)) (by omega)).mp q; omega, ⟨fun q => by have := (own_m0 (own_r (own_r (own_r n))) (by omega)).mp q; omega, ⟨fun q => by have := (own_m0 (own_r (own_r (own_r (own_r n)))) (by omega)).mp q; omega, (own_m0 (own_r (own_r (own_r (own_r (own_r n))))) (by omega)).mpr (by omega)⟩⟩⟩⟩⟩
            · have gg5 := g5
              by_cases g6 : n < (562949953421312 : Int64)
              · rw [if_neg g0, if_neg g1, if_neg g2, if_neg g3, if_neg g4, if_neg g5, if_pos g6]
                have w0 := g0; rw [Int64.lt_iff_toInt_lt, show (128 : Int64).toInt = 128 from rfl] at w0
                have w1 := g1; rw [Int64.lt_iff_toInt_lt, show (16384 : Int64).toInt = 16384 from rfl] at w1
                have w2 := g2; rw [Int64.lt_iff_toInt_lt, show (2097152 : Int64).toInt = 2097152 from rfl] at w2
                have w3 := g3; rw [Int64.lt_iff_toInt_lt, show (268435456 : Int64).toInt = 268435456 from rfl] at w3
                have w4 := g4; rw [Int64.lt_iff_toInt_lt, show (34359738368 : Int64).toInt = 34359738368 from rfl] at w4
                have w5 := g5; rw [Int64.lt_iff_toInt_lt, show (4398046511104 : Int64).toInt = 4398046511104 from rfl] at w5
                have w6 := g6; rw [Int64.lt_iff_toInt_lt, show (562949953421312 : Int64).toInt = 562949953421312 from rfl] at w6
                exact ⟨fun q => by have := (own_m0 n (by omega)).mp q; omega, ⟨fun q => by have := (own_m0 (own_r n) (by omega)).mp q; omega, ⟨fun q => by have := (own_m0 (own_r (own_r n)) (by omega)).mp q; omega, ⟨fun q => by have := (own_m0 (own_r (own_r (own_r n))) (by omega)).mp q; omega, ⟨fun q => by have := (own_m0 (own_r (own_r (own_r (own_r n)))) (by omega)).mp q; omega, ⟨fun q => by have := (own_m0 (own_r (own_r (own_r (own_r (own_r n))))) (by omega)).mp q; omega, (own_m0 (own_r (own_r (own_r (own_r (own_r (own_r n)))))) (by omega)).mpr (by omega)⟩⟩⟩⟩⟩⟩
              · have gg6 := g6
                by_cases g7 : n < (72057594037927936 : Int64)
                · rw [if_neg g0, if_neg g1, if_neg g2, if_neg g3, if_neg g4, if_neg g5, if_neg g6, if_pos g7]
                  have w0 := g0; rw [Int64.lt_iff_toInt_lt, show (128 : Int64).toInt = 128 from rfl] at w0
                  have w1 := g1; rw [Int64.lt_iff_toInt_lt, show (16384 : Int64).toInt = 16384 from rfl] at w1
                  have w2 := g2; rw [Int64.lt_iff_toInt_lt, show (2097152 : Int64).toInt = 2097152 from rfl] at w2
                  have w3 := g3; rw [Int64.lt_iff_toInt_lt, show (268435456 : Int64).toInt = 268435456 from rfl] at w3
                  have w4 := g4; rw [Int64.lt_iff_toInt_lt, show (34359738368 : Int64).toInt = 34359738368 from rfl] at w4
                  have w5 := g5; rw [Int64.lt_iff_toInt_lt, show (4398046511104 : Int64).toInt = 4398046511104 from rfl] at w5
                  have w6 := g6; rw [Int64.lt_iff_toInt_lt, show (562949953421312 : Int64).toInt = 562949953421312 from rfl] at w6
                  have w7 := g7; rw [Int64.lt_iff_toInt_lt, show (72057594037927936 : Int64).toInt = 72057594037927936 from rfl] at w7
                  exact ⟨fun q => by have := (own_m0 n (by omega)).mp q; omega, ⟨fun q => by have := (own_m0 (own_r n) (by omega)).mp q; omega, ⟨fun q => by have := (own_m0 (own_r (own_r n)) (by omega)).mp q; omega, ⟨fun q => by have := (own_m0 (own_r (own_r (own_r n))) (by omega)).mp q; omega, ⟨fun q => by have := (own_m0 (own_r (own_r (own_r (own_r n)))) (by omega)).mp q; omega, ⟨fun q => by have := (own_m0 (own_r (own_r (own_r (own_r (own_r n))))) (by omega)).mp q; omega, ⟨fun q => by have := (own_m0 (own_r (own_r (own_r (own_r (own_r (own_r n)))))) (by omega)).mp q; omega, (own_m0 (own_r (own_r (own_r (own_r (own_r (own_r (own_r n))))))) (by omega)).mpr (by omega)⟩⟩⟩⟩⟩⟩⟩
                · have gg7 := g7
                  rw [if_neg g0, if_neg g1, if_neg g2, if_neg g3, if_neg g4, if_neg g5, if_neg g6, if_neg g7]
                  have w0 := g0; rw [Int64.lt_iff_toInt_lt, show (128 : Int64).toInt = 128 from rfl] at w0
                  have w1 := g1; rw [Int64.lt_iff_toInt_lt, show (16384 : Int64).toInt = 16384 from rfl] at w1
                  have w2 := g2; rw [Int64.lt_iff_toInt_lt, show (2097152 : Int64).toInt = 2097152 from rfl] at w2
                  have w3 := g3; rw [Int64.lt_iff_toInt_lt, show (268435456 : Int64).toInt = 268435456 from rfl] at w3
                  have w4 := g4; rw [Int64.lt_iff_toInt_lt, show (34359738368 : Int64).toInt = 34359738368 from rfl] at w4
                  have w5 := g5; rw [Int64.lt_iff_toInt_lt, show (4398046511104 : Int64).toInt = 4398046511104 from rfl] at w5
                  have w6 := g6; rw [Int64.lt_iff_toInt_lt, show (562949953421312 : Int64).toInt = 562949953421312 from rfl] at w6
                  have w7 := g7; rw [Int64.lt_iff_toInt_lt, show (72057594037927936 : Int64).toInt = 72057594037927936 from rfl] at w7
                  exact ⟨fun q => by have := (own_m0 n (by omega)).mp q; omega, ⟨fun q => by have := (own_m0 (own_r n) (by omega)).mp q; omega, ⟨fun q => by have := (own_m0 (own_r (own_r n)) (by omega)).mp q; omega, ⟨fun q => by have := (own_m0 (own_r (own_r (own_r n))) (by omega)).mp q; omega, ⟨fun q => by have := (own_m0 (own_r (own_r (own_r (own_r n)))) (by omega)).mp q; omega, ⟨fun q => by have := (own_m0 (own_r (own_r (own_r (own_r (own_r n))))) (by omega)).mp q; omega, ⟨fun q => by have := (own_m0 (own_r (own_r (own_r (own_r (own_r (own_r n)))))) (by omega)).mp q; omega, ⟨fun q => by have := (own_m0 (own_r (own_r (own_r (own_r (own_r (own_r (own_r n))))))) (by omega)).mp q; omega, (own_m0 (own_r (own_r (own_r (own_r (own_r (own_r (own_r (own_r n)))))))) (by omega)).mpr (by omega)⟩⟩⟩⟩⟩⟩⟩⟩
theorem own_u0 (v : Int64) : ((v.toUInt64 >>> ((0 : Int32) &&& 0x3f).toInt64.toUInt64).toInt64) = v := by
  refine Int64.toBitVec_inj.mp ?_
  show v.toBitVec >>> _ = v.toBitVec
  exact BitVec.eq_of_toNat_eq (by first | rfl | simp)
theorem own_s1 (v : Int64) : own_sh 1 v = ((v.toUInt64 >>> ((7 : Int32) &&& 0x3f).toInt64.toUInt64).toInt64) := by
  refine Int64.toInt_inj.mp ?_
  rw [c_lushr v (7 : Int32) 7 (by decide) (by decide)]
  have r := rng64 v
  have a0 := c_lushr v (7 : Int32) 7 (by decide) (by decide)
  show ((v.toUInt64 >>> ((7 : Int32) &&& 0x3f).toInt64.toUInt64).toInt64).toInt = _
  omega
theorem own_s2 (v : Int64) : own_sh 2 v = ((v.toUInt64 >>> ((14 : Int32) &&& 0x3f).toInt64.toUInt64).toInt64) := by
  refine Int64.toInt_inj.mp ?_
  rw [c_lushr v (14 : Int32) 14 (by decide) (by decide)]
  have r := rng64 v
  have a0 := c_lushr v (7 : Int32) 7 (by decide) (by decide)
  have a1 := c_lushr ((v.toUInt64 >>> ((7 : Int32) &&& 0x3f).toInt64.toUInt64).toInt64) (7 : Int32) 7 (by decide) (by decide)
  show ((((v.toUInt64 >>> ((7 : Int32) &&& 0x3f).toInt64.toUInt64).toInt64).toUInt64 >>> ((7 : Int32) &&& 0x3f).toInt64.toUInt64).toInt64).toInt = _
  omega
theorem own_s3 (v : Int64) : own_sh 3 v = ((v.toUInt64 >>> ((21 : Int32) &&& 0x3f).toInt64.toUInt64).toInt64) := by
  refine Int64.toInt_inj.mp ?_
  rw [c_lushr v (21 : Int32) 21 (by decide) (by decide)]
  have r := rng64 v
  have a0 := c_lushr v (7 : Int32) 7 (by decide) (by decide)
  have a1 := c_lushr ((v.toUInt64 >>> ((7 : Int32) &&& 0x3f).toInt64.toUInt64).toInt64) (7 : Int32) 7 (by decide) (by decide)
  have a2 := c_lushr ((((v.toUInt64 >>> ((7 : Int32) &&& 0x3f).toInt64.toUInt64).toInt64).toUInt64 >>> ((7 : Int32) &&& 0x3f).toInt64.toUInt64).toInt64) (7 : Int32) 7 (by decide) (by decide)
  show ((((((v.toUInt64 >>> ((7 : Int32) &&& 0x3f).toInt64.toUInt64).toInt64).toUInt64 >>> ((7 : Int32) &&& 0x3f).toInt64.toUInt64).toInt64).toUInt64 >>> ((7 : Int32) &&& 0x3f).toInt64.toUInt64).toInt64).toInt = _
  omega
theorem own_s4 (v : Int64) : own_sh 4 v = ((v.toUInt64 >>> ((28 : Int32) &&& 0x3f).toInt64.toUInt64).toInt64) := by
  refine Int64.toInt_inj.mp ?_
  rw [c_lushr v (28 : Int32) 28 (by decide) (by decide)]
  have r := rng64 v
  have a0 := c_lushr v (7 : Int32) 7 (by decide) (by decide)
  have a1 := c_lushr ((v.toUInt64 >>> ((7 : Int32) &&& 0x3f).toInt64.toUInt64).toInt64) (7 : Int32) 7 (by decide) (by decide)
  have a2 := c_lushr ((((v.toUInt64 >>> ((7 : Int32) &&& 0x3f).toInt64.toUInt64).toInt64).toUInt64 >>> ((7 : Int32) &&& 0x3f).toInt64.toUInt64).toInt64) (7 : Int32) 7 (by decide) (by decide)
  have a3 := c_lushr ((((((v.toUInt64 >>> ((7 : Int32) &&& 0x3f).toInt64.toUInt64).toInt64).toUInt64 >>> ((7 : Int32) &&& 0x3f).toInt64.toUInt64).toInt64).toUInt64 >>> ((7 : Int32) &&& 0x3f).toInt64.toUInt64).toInt64) (7 : Int32) 7 (by decide) (by decide)
  show ((((((((v.toUInt64 >>> ((7 : Int32) &&& 0x3f).toInt64.toUInt64).toInt64).toUInt64 >>> ((7 : Int32) &&& 0x3f).toInt64.toUInt64).toInt64).toUInt64 >>> ((7 : Int32) &&& 0x3f).toInt64.toUInt64).toInt64).toUInt64 >>> ((7 : Int32) &&& 0x3f).toInt64.toUInt64).toInt64).toInt = _
  omega
theorem own_s5 (v : Int64) : own_sh 5 v = ((v.toUInt64 >>> ((35 : Int32) &&& 0x3f).toInt64.toUInt64).toInt64) := by
  refine Int64.toInt_inj.mp ?_
  rw [c_lushr v (35 : Int32) 35 (by decide) (by decide)]
  have r := rng64 v
  have a0 := c_lushr v (7 : Int32) 7 (by decide) (by decide)
  have a1 := c_lushr ((v.toUInt64 >>> ((7 : Int32) &&& 0x3f).toInt64.toUInt64).toInt64) (7 : Int32) 7 (by decide) (by decide)
  have a2 := c_lushr ((((v.toUInt64 >>> ((7 : Int32) &&& 0x3f).toInt64.toUInt64).toInt64).toUInt64 >>> ((7 : Int32) &&& 0x3f).toInt64.toUInt64).toInt64) (7 : Int32) 7 (by decide) (by decide)
  have a3 := c_lushr ((((((v.toUInt64 >>> ((7 : Int32) &&& 0x3f).toInt64.toUInt64).toInt64).toUInt64 >>> ((7 : Int32) &&& 0x3f).toInt64.toUInt64).toInt64).toUInt64 >>> ((7 : Int32) &&& 0x3f).toInt64.toUInt64).toInt64) (7 : Int32) 7 (by decide) (by decide)
  have a4 := c_lushr ((((((((v.toUInt64 >>> ((7 : Int32) &&& 0x3f).toInt64.toUInt64).toInt64).toUInt64 >>> ((7 : Int32) &&& 0x3f).toInt64.toUInt64).toInt64).toUInt64 >>> ((7 : Int32) &&& 0x3f).toInt64.toUInt64).toInt64).toUInt64 >>> ((7 : Int32) &&& 0x3f).toInt64.toUInt64).toInt64) (7 : Int32) 7 (by decide) (by decide)
  show ((((((((((v.toUInt64 >>> ((7 : Int32) &&& 0x3f).toInt64.toUInt64).toInt64).toUInt64 >>> ((7 : Int32) &&& 0x3f).toInt64.toUInt64).toInt64).toUInt64 >>> ((7 : Int32) &&& 0x3f).toInt64.toUInt64).toInt64).toUInt64 >>> ((7 : Int32) &&& 0x3f).toInt64.toUInt64).toInt64).toUInt64 >>> ((7 : Int32) &&& 0x3f).toInt64.toUInt64).toInt64).toInt = _
  omega
theorem own_s6 (v : Int64) : own_sh 6 v = ((v.toUInt64 >>> ((42 : Int32) &&& 0x3f).toInt64.toUInt64).toInt64) := by
  refine Int64.toInt_inj.mp ?_
  rw [c_lushr v (42 : Int32) 42 (by decide) (by decide)]
  have r := rng64 v
  have a0 := c_lushr v (7 : Int32) 7 (by decide) (by decide)
  have a1 := c_lushr ((v.toUInt64 >>> ((7 : Int32) &&& 0x3f).toInt64.toUInt64).toInt64) (7 : Int32) 7 (by decide) (by decide)
  have a2 := c_lushr ((((v.toUInt64 >>> ((7 : Int32) &&& 0x3f).toInt64.toUInt64).toInt64).toUInt64 >>> ((7 : Int32) &&& 0x3f).toInt64.toUInt64).toInt64) (7 : Int32) 7 (by decide) (by decide)
  have a3 := c_lushr ((((((v.toUInt64 >>> ((7 : Int32) &&& 0x3f).toInt64.toUInt64).toInt64).toUInt64 >>> ((7 : Int32) &&& 0x3f).toInt64.toUInt64).toInt64).toUInt64 >>> ((7 : Int32) &&& 0x3f).toInt64.toUInt64).toInt64) (7 : Int32) 7 (by decide) (by decide)
  have a4 := c_lushr ((((((((v.toUInt64 >>> ((7 : Int32) &&& 0x3f).toInt64.toUInt64).toInt64).toUInt64 >>> ((7 : Int32) &&& 0x3f).toInt64.toUInt64).toInt64).toUInt64 >>> ((7 : Int32) &&& 0x3f).toInt64.toUInt64).toInt64).toUInt64 >>> ((7 : Int32) &&& 0x3f).toInt64.toUInt64).toInt64) (7 : Int32) 7 (by decide) (by decide)
  have a5 := c_lushr ((((((((((v.toUInt64 >>> ((7 : Int32) &&& 0x3f).toInt64.toUInt64).toInt64).toUInt64 >>> ((7 : Int32) &&& 0x3f).toInt64.toUInt64).toInt64).toUInt64 >>> ((7 : Int32) &&& 0x3f).toInt64.toUInt64).toInt64).toUInt64 >>> ((7 : Int32) &&& 0x3f).toInt64.toUInt64).toInt64).toUInt64 >>> ((7 : Int32) &&& 0x3f).toInt64.toUInt64).toInt64) (7 : Int32) 7 (by decide) (by decide)
  show ((((((((((((v.toUInt64 >>> ((7 : Int32) &&& 0x3f).toInt64.toUInt64).toInt64).toUInt64 >>> ((7 : Int32) &&& 0x3f).toInt64.toUInt64).toInt64).toUInt64 >>> ((7 : Int32) &&& 0x3f).toInt64.toUInt64).toInt64).toUInt64 >>> ((7 : Int32) &&& 0x3f).toInt64.toUInt64).toInt64).toUInt64 >>> ((7 : Int32) &&& 0x3f).toInt64.toUInt64).toInt64).toUInt64 >>> ((7 : Int32) &&& 0x3f).toInt64.toUInt64).toInt64).toInt = _
  omega
theorem own_s7 (v : Int64) : own_sh 7 v = ((v.toUInt64 >>> ((49 : Int32) &&& 0x3f).toInt64.toUInt64).toInt64) := by
  refine Int64.toInt_inj.mp ?_
  rw [c_lushr v (49 : Int32) 49 (by decide) (by decide)]
  have r := rng64 v
  have a0 := c_lushr v (7 : Int32) 7 (by decide) (by decide)
  have a1 := c_lushr ((v.toUInt64 >>> ((7 : Int32) &&& 0x3f).toInt64.toUInt64).toInt64) (7 : Int32) 7 (by decide) (by decide)
  have a2 := c_lushr ((((v.toUInt64 >>> ((7 : Int32) &&& 0x3f).toInt64.toUInt64).toInt64).toUInt64 >>> ((7 : Int32) &&& 0x3f).toInt64.toUInt64).toInt64) (7 : Int32) 7 (by decide) (by decide)
  have a3 := c_lushr ((((((v.toUInt64 >>> ((7 : Int32) &&& 0x3f).toInt64.toUInt64).toInt64).toUInt64 >>> ((7 : Int32) &&& 0x3f).toInt64.toUInt64).toInt64).toUInt64 >>> ((7 : Int32) &&& 0x3f).toInt64.toUInt64).toInt64) (7 : Int32) 7 (by decide) (by decide)
  have a4 := c_lushr ((((((((v.toUInt64 >>> ((7 : Int32) &&& 0x3f).toInt64.toUInt64).toInt64).toUInt64 >>> ((7 : Int32) &&& 0x3f).toInt64.toUInt64).toInt64).toUInt64 >>> ((7 : Int32) &&& 0x3f).toInt64.toUInt64).toInt64).toUInt64 >>> ((7 : Int32) &&& 0x3f).toInt64.toUInt64).toInt64) (7 : Int32) 7 (by decide) (by decide)
  have a5 := c_lushr ((((((((((v.toUInt64 >>> ((7 : Int32) &&& 0x3f).toInt64.toUInt64).toInt64).toUInt64 >>> ((7 : Int32) &&& 0x3f).toInt64.toUInt64).toInt64).toUInt64 >>> ((7 : Int32) &&& 0x3f).toInt64.toUInt64).toInt64).toUInt64 >>> ((7 : Int32) &&& 0x3f).toInt64.toUInt64).toInt64).toUInt64 >>> ((7 : Int32) &&& 0x3f).toInt64.toUInt64).toInt64) (7 : Int32) 7 (by decide) (by decide)
  have a6 := c_lushr ((((((((((((v.toUInt64 >>> ((7 : Int32) &&& 0x3f).toInt64.toUInt64).toInt64).toUInt64 >>> ((7 : Int32) &&& 0x3f).toInt64.toUInt64).toInt64).toUInt64 >>> ((7 : Int32) &&& 0x3f).toInt64.toUInt64).toInt64).toUInt64 >>> ((7 : Int32) &&& 0x3f).toInt64.toUInt64).toInt64).toUInt64 >>> ((7 : Int32) &&& 0x3f).toInt64.toUInt64).toInt64).toUInt64 >>> ((7 : Int32) &&& 0x3f).toInt64.toUInt64).toInt64) (7 : Int32) 7 (by decide) (by decide)
  show ((((((((((((((v.toUInt64 >>> ((7 : Int32) &&& 0x3f).toInt64.toUInt64).toInt64).toUInt64 >>> ((7 : Int32) &&& 0x3f).toInt64.toUInt64).toInt64).toUInt64 >>> ((7 : Int32) &&& 0x3f).toInt64.toUInt64).toInt64).toUInt64 >>> ((7 : Int32) &&& 0x3f).toInt64.toUInt64).toInt64).toUInt64 >>> ((7 : Int32) &&& 0x3f).toInt64.toUInt64).toInt64).toUInt64 >>> ((7 : Int32) &&& 0x3f).toInt64.toUInt64).toInt64).toUInt64 >>> ((7 : Int32) &&& 0x3f).toInt64.toUInt64).toInt64).toInt = _
  omega
theorem own_s8 (v : Int64) : own_sh 8 v = ((v.toUInt64 >>> ((56 : Int32) &&& 0x3f).toInt64.toUInt64).toInt64) := by
  refine Int64.toInt_inj.mp ?_
  rw [c_lushr v (56 : Int32) 56 (by decide) (by decide)]
  have r := rng64 v
  have a0 := c_lushr v (7 : Int32) 7 (by decide) (by decide)
  have a1 := c_lushr ((v.toUInt64 >>> ((7 : Int32) &&& 0x3f).toInt64.toUInt64).toInt64) (7 : Int32) 7 (by decide) (by decide)
  have a2 := c_lushr ((((v.toUInt64 >>> ((7 : Int32) &&& 0x3f).toInt64.toUInt64).toInt64).toUInt64 >>> ((7 : Int32) &&& 0x3f).toInt64.toUInt64).toInt64) (7 : Int32) 7 (by decide) (by decide)
  have a3 := c_lushr ((((((v.toUInt64 >>> ((7 : Int32) &&& 0x3f).toInt64.toUInt64).toInt64).toUInt64 >>> ((7 : Int32) &&& 0x3f).toInt64.toUInt64).toInt64).toUInt64 >>> ((7 : Int32) &&& 0x3f).toInt64.toUInt64).toInt64) (7 : Int32) 7 (by decide) (by decide)
  have a4 := c_lushr ((((((((v.toUInt64 >>> ((7 : Int32) &&& 0x3f).toInt64.toUInt64).toInt64).toUInt64 >>> ((7 : Int32) &&& 0x3f).toInt64.toUInt64).toInt64).toUInt64 >>> ((7 : Int32) &&& 0x3f).toInt64.toUInt64).toInt64).toUInt64 >>> ((7 : Int32) &&& 0x3f).toInt64.toUInt64).toInt64) (7 : Int32) 7 (by decide) (by decide)
  have a5 := c_lushr ((((((((((v.toUInt64 >>> ((7 : Int32) &&& 0x3f).toInt64.toUInt64).toInt64).toUInt64 >>> ((7 : Int32) &&& 0x3f).toInt64.toUInt64).toInt64).toUInt64 >>> ((7 : Int32) &&& 0x3f).toInt64.toUInt64).toInt64).toUInt64 >>> ((7 : Int32) &&& 0x3f).toInt64.toUInt64).toInt64).toUInt64 >>> ((7 : Int32) &&& 0x3f).toInt64.toUInt64).toInt64) (7 : Int32) 7 (by decide) (by decide)
  have a6 := c_lushr ((((((((((((v.toUInt64 >>> ((7 : Int32) &&& 0x3f).toInt64.toUInt64).toInt64).toUInt64 >>> ((7 : Int32) &&& 0x3f).toInt64.toUInt64).toInt64).toUInt64 >>> ((7 : Int32) &&& 0x3f).toInt64.toUInt64).toInt64).toUInt64 >>> ((7 : Int32) &&& 0x3f).toInt64.toUInt64).toInt64).toUInt64 >>> ((7 : Int32) &&& 0x3f).toInt64.toUInt64).toInt64).toUInt64 >>> ((7 : Int32) &&& 0x3f).toInt64.toUInt64).toInt64) (7 : Int32) 7 (by decide) (by decide)
  have a7 := c_lushr ((((((((((((((v.toUInt64 >>> ((7 : Int32) &&& 0x3f).toInt64.toUInt64).toInt64).toUInt64 >>> ((7 : Int32) &&& 0x3f).toInt64.toUInt64).toInt64).toUInt64 >>> ((7 : Int32) &&& 0x3f).toInt64.toUInt64).toInt64).toUInt64 >>> ((7 : Int32) &&& 0x3f).toInt64.toUInt64).toInt64).toUInt64 >>> ((7 : Int32) &&& 0x3f).toInt64.toUInt64).toInt64).toUInt64 >>> ((7 : Int32) &&& 0x3f).toInt64.toUInt64).toInt64).toUInt64 >>> ((7 : Int32) &&& 0x3f).toInt64.toUInt64).toInt64) (7 : Int32) 7 (by decide) (by decide)
  show ((((((((((((((((v.toUInt64 >>> ((7 : Int32) &&& 0x3f).toInt64.toUInt64).toInt64).toUInt64 >>> ((7 : Int32) &&& 0x3f).toInt64.toUInt64).toInt64).toUInt64 >>> ((7 : Int32) &&& 0x3f).toInt64.toUInt64).toInt64).toUInt64 >>> ((7 : Int32) &&& 0x3f).toInt64.toUInt64).toInt64).toUInt64 >>> ((7 : Int32) &&& 0x3f).toInt64.toUInt64).toInt64).toUInt64 >>> ((7 : Int32) &&& 0x3f).toInt64.toUInt64).toInt64).toUInt64 >>> ((7 : Int32) &&& 0x3f).toInt64.toUInt64).toInt64).toUInt64 >>> ((7 : Int32) &&& 0x3f).toInt64.toUInt64).toInt64).toInt = _
  omega
theorem own_sa (v : Int64) : ∀ q, q < 9 → own_sh q v = ((v.toUInt64 >>> ((Int32.ofNat (7 * q)) &&& 0x3f).toInt64.toUInt64).toInt64)
  | 0, _ => (own_u0 v).symm
  | 1, _ => own_s1 v
  | 2, _ => own_s2 v
  | 3, _ => own_s3 v
  | 4, _ => own_s4 v
  | 5, _ => own_s5 v
  | 6, _ => own_s6 v
  | 7, _ => own_s7 v
  | 8, _ => own_s8 v
  | q + 9, h => absurd h (by omega)
theorem own_nat (a : Nat) (h : a < 1000) : (Int32.ofNat a).toInt = a := by
  rw [Int32.toInt_ofNat', show Int32.size = 4294967296 from rfl, Int.bmod_def]; omega
theorem own_diff (j a : Nat) (h1 : j < 100) (h2 : a < 100) : (Int32.ofNat j - Int32.ofNat a).toInt = (j : Int) - a := by
  have e1 := own_nat j (by omega); have e2 := own_nat a (by omega)
  have e := c_isub (Int32.ofNat j) (Int32.ofNat a); have r := rng32 (Int32.ofNat j - Int32.ofNat a)
  omega
theorem own_seven (j a : Nat) (h1 : j < 100) (h2 : a ≤ j) : (7 : Int32) * (Int32.ofNat j - Int32.ofNat a) = Int32.ofNat (7 * (j - a)) := by
  refine Int32.toInt_inj.mp ?_
  have e := own_diff j a h1 (by omega)
  have e3 := own_nat (7 * (j - a)) (by omega)
  have q := c_imul (7 : Int32) (Int32.ofNat j - Int32.ofNat a)
  have z : (7 : Int32).toInt = 7 := rfl
  have r := rng32 ((7 : Int32) * (Int32.ofNat j - Int32.ofNat a))
  rw [z, e] at q
  omega
theorem own_clamp (a : Nat) (h : a < 1000) : (Int32.ofNat a).toNatClampNeg = a := by
  show (Int32.ofNat a).toInt.toNat = a
  rw [own_nat a h]; rfl
theorem own_nn (a : Nat) (h : a < 1000) : ¬ (Int32.ofNat a < 0) := fun q => by
  rw [Int32.lt_iff_toInt_lt, own_nat a h] at q
  have z : (0 : Int32).toInt = 0 := rfl
  omega
theorem own_succ (a : Nat) : Int32.ofNat a + (1 : Int32) = Int32.ofNat (a + 1) := by rw [Int32.ofNat_add]; rfl
theorem own_nar (y : Int32) : nar .byte (y.toInt8.toInt32) = y.toInt8.toInt32 := by
  show (y.toInt8.toInt32).toInt8.toInt32 = y.toInt8.toInt32
  rw [Int8.toInt8_toInt32]
def own_want (j a n : Int32) (v : Int64) (fl : Int32) : Int32 := if (j - a) < (0 : Int32) then fl else if (j - a) < n then (if (j - a) < (n - (1 : Int32)) then (((((v.toUInt64 >>> (((7 : Int32) * (j - a)) &&& 0x3f).toInt64.toUInt64).toInt64) &&& (127 : Int64)) ||| (128 : Int64)).toInt32.toInt8.toInt32) else (((v.toUInt64 >>> (((7 : Int32) * (j - a)) &&& 0x3f).toInt64.toUInt64).toInt64).toInt32.toInt8.toInt32)) else fl
theorem own_key (v : Int64) (fl : Int32) (a k j : Nat) (ha : a < 4) (hk : k < 9) (hj : j < 13) : own_f k (fun _ => .int fl) a v j = .int (own_want (Int32.ofNat j) (Int32.ofNat a) (Int32.ofNat (k + 1)) v fl) := by
  have d := own_diff j a (by omega) (by omega)
  have z : (0 : Int32).toInt = 0 := rfl
  have z1 : (1 : Int32).toInt = 1 := rfl
  have kn := own_nat (k + 1) (by omega)
  have k1 : (Int32.ofNat (k + 1) - (1 : Int32)).toInt = k := by
    have e := c_isub (Int32.ofNat (k + 1)) (1 : Int32); have r := rng32 (Int32.ofNat (k + 1) - (1 : Int32))
    omega
  have a0 : (Int32.ofNat j - Int32.ofNat a < (0 : Int32)) ↔ j < a := by rw [Int32.lt_iff_toInt_lt]; omega
  have a1 : (Int32.ofNat j - Int32.ofNat a < Int32.ofNat (k + 1)) ↔ j < a + k + 1 := by rw [Int32.lt_iff_toInt_lt]; omega
  have a2 : (Int32.ofNat j - Int32.ofNat a < Int32.ofNat (k + 1) - (1 : Int32)) ↔ j < a + k := by rw [Int32.lt_iff_toInt_lt]; omega
  rw [own_closed]
  unfold own_want
  by_cases h1 : j < a
  · rw [if_pos h1, if_pos (a0.mpr h1)]
  · rw [if_neg h1, if_neg (fun q => h1 (a0.mp q))]
    by_cases h2 : j < a + k
    · rw [if_pos h2, if_pos (a1.mpr (by omega)), if_pos (a2.mpr h2), own_seven j a (by omega) (by omega), own_sa v (j - a) (by omega)]; rfl
    · rw [if_neg h2]
      by_cases h3 : j = a + k
      · rw [if_pos h3, if_pos (a1.mpr (by omega)), if_neg (fun q => h2 (a2.mp q)), own_seven j a (by omega) (by omega), own_sa v (j - a) (by omega)]; rfl
      · rw [if_neg h3, if_neg (fun q => by have := a1.mp q; omega)]
def own_n (p : Int64) (q : Int32) : Int64 := (((p &&& (9223372036854775807 : Int64)).toUInt64 >>> ((q &&& (63 : Int32)) &&& 0x3f).toInt64.toUInt64).toInt64)
def own_a (p : Int32) : Int32 := (p &&& (3 : Int32))
def own_fl (p : Int32) : Int32 := p.toInt8.toInt32
def own_len (n : Int64) : Int32 := Int32.ofNat (own_k n + 1)
theorem own_ushr (y : Int64) (w : UInt64) (h : 0 ≤ y.toInt) : 0 ≤ ((y.toUInt64 >>> w).toInt64).toInt := by
  have e : ((y.toUInt64 >>> w).toInt64).toBitVec.toNat = y.toBitVec.toNat >>> (w.toNat % 64) := by
    show (y.toUInt64 >>> w).toNat = _
    rw [UInt64.toNat_shiftRight]; rfl
  have e2 : y.toInt = y.toBitVec.toInt := rfl
  show 0 ≤ ((y.toUInt64 >>> w).toInt64).toBitVec.toInt
  have l1 := y.toBitVec.isLt
  rw [e2, BitVec.toInt_eq_toNat_cond] at h
  have l2 : y.toBitVec.toNat >>> (w.toNat % 64) ≤ y.toBitVec.toNat := Nat.shiftRight_le _ _
  rw [BitVec.toInt_eq_toNat_cond, e]
  split at h
  · rw [if_pos (by omega)]; omega
  · omega
theorem own_n0 (p : Int64) (q : Int32) : 0 ≤ (own_n p q).toInt := by
  have e := c_maskL p (9223372036854775807 : Int64) 63 (by decide) (by decide)
  exact own_ushr _ _ (by omega)
theorem own_ax (p : Int32) : ∃ a : Nat, a < 4 ∧ own_a p = Int32.ofNat a := by
  have e := c_mask p (3 : Int32) 2 (by decide) (by decide)
  have e2 : (own_a p).toInt = p.toInt % (2 ^ 2 : Nat) := e
  refine ⟨(own_a p).toInt.toNat, by omega, Int32.toInt_inj.mp ?_⟩
  rw [own_nat _ (by omega)]; omega
theorem d1_0 : decode method_3_code 0 = .ok (.lload_n 0, 1) := by decide +kernel
theorem d1_1 : decode method_3_code 1 = .ok (.ldc2_w 27, 3) := by decide +kernel
theorem d1_4 : decode method_3_code 4 = .ok (.lcmp, 1) := by decide +kernel
theorem d1_5 : decode method_3_code 5 = .ok (.ifCond .ge 5, 3) := by decide +kernel
theorem d1_8 : decode method_3_code 8 = .ok (.iconst 1, 1) := by decide +kernel
theorem d1_9 : decode method_3_code 9 = .ok (.ireturn, 1) := by decide +kernel
theorem d1_10 : decode method_3_code 10 = .ok (.lload_n 0, 1) := by decide +kernel
theorem d1_11 : decode method_3_code 11 = .ok (.ldc2_w 29, 3) := by decide +kernel
theorem d1_14 : decode method_3_code 14 = .ok (.lcmp, 1) := by decide +kernel
theorem d1_15 : decode method_3_code 15 = .ok (.ifCond .ge 5, 3) := by decide +kernel
theorem d1_18 : decode method_3_code 18 = .ok (.iconst 2, 1) := by decide +kernel
theorem d1_19 : decode method_3_code 19 = .ok (.ireturn, 1) := by decide +kernel
theorem d1_20 : decode method_3_code 20 = .ok (.lload_n 0, 1) := by decide +kernel
theorem d1_21 : decode method_3_code 21 = .ok (.ldc2_w 31, 3) := by decide +kernel
theorem d1_24 : decode method_3_code 24 = .ok (.lcmp, 1) := by decide +kernel
theorem d1_25 : decode method_3_code 25 = .ok (.ifCond .ge 5, 3) := by decide +kernel
theorem d1_28 : decode method_3_code 28 = .ok (.iconst 3, 1) := by decide +kernel
theorem d1_29 : decode method_3_code 29 = .ok (.ireturn, 1) := by decide +kernel
theorem d1_30 : decode method_3_code 30 = .ok (.lload_n 0, 1) := by decide +kernel
theorem d1_31 : decode method_3_code 31 = .ok (.ldc2_w 33, 3) := by decide +kernel
theorem d1_34 : decode method_3_code 34 = .ok (.lcmp, 1) := by decide +kernel
theorem d1_35 : decode method_3_code 35 = .ok (.ifCond .ge 5, 3) := by decide +kernel
theorem d1_38 : decode method_3_code 38 = .ok (.iconst 4, 1) := by decide +kernel
theorem d1_39 : decode method_3_code 39 = .ok (.ireturn, 1) := by decide +kernel
theorem d1_40 : decode method_3_code 40 = .ok (.lload_n 0, 1) := by decide +kernel
theorem d1_41 : decode method_3_code 41 = .ok (.ldc2_w 35, 3) := by decide +kernel
theorem d1_44 : decode method_3_code 44 = .ok (.lcmp, 1) := by decide +kernel
theorem d1_45 : decode method_3_code 45 = .ok (.ifCond .ge 5, 3) := by decide +kernel
theorem d1_48 : decode method_3_code 48 = .ok (.iconst 5, 1) := by decide +kernel
theorem d1_49 : decode method_3_code 49 = .ok (.ireturn, 1) := by decide +kernel
theorem d1_50 : decode method_3_code 50 = .ok (.lload_n 0, 1) := by decide +kernel
theorem d1_51 : decode method_3_code 51 = .ok (.ldc2_w 37, 3) := by decide +kernel
theorem d1_54 : decode method_3_code 54 = .ok (.lcmp, 1) := by decide +kernel
theorem d1_55 : decode method_3_code 55 = .ok (.ifCond .ge 6, 3) := by decide +kernel
theorem d1_58 : decode method_3_code 58 = .ok (.bipush 6, 2) := by decide +kernel
theorem d1_60 : decode method_3_code 60 = .ok (.ireturn, 1) := by decide +kernel
theorem d1_61 : decode method_3_code 61 = .ok (.lload_n 0, 1) := by decide +kernel
theorem d1_62 : decode method_3_code 62 = .ok (.ldc2_w 39, 3) := by decide +kernel
theorem d1_65 : decode method_3_code 65 = .ok (.lcmp, 1) := by decide +kernel
theorem d1_66 : decode method_3_code 66 = .ok (.ifCond .ge 6, 3) := by decide +kernel
theorem d1_69 : decode method_3_code 69 = .ok (.bipush 7, 2) := by decide +kernel
theorem d1_71 : decode method_3_code 71 = .ok (.ireturn, 1) := by decide +kernel
theorem d1_72 : decode method_3_code 72 = .ok (.lload_n 0, 1) := by decide +kernel
theorem d1_73 : decode method_3_code 73 = .ok (.ldc2_w 41, 3) := by decide +kernel
theorem d1_76 : decode method_3_code 76 = .ok (.lcmp, 1) := by decide +kernel
theorem d1_77 : decode method_3_code 77 = .ok (.ifCond .ge 6, 3) := by decide +kernel
theorem d1_80 : decode method_3_code 80 = .ok (.bipush 8, 2) := by decide +kernel
theorem d1_82 : decode method_3_code 82 = .ok (.ireturn, 1) := by decide +kernel
theorem d1_83 : decode method_3_code 83 = .ok (.bipush 9, 2) := by decide +kernel
theorem d1_85 : decode method_3_code 85 = .ok (.ireturn, 1) := by decide +kernel
theorem d2_0 : decode prog_41_method_10_code 0 = .ok (.iload_n 1, 1) := by decide +kernel
theorem d2_1 : decode prog_41_method_10_code 1 = .ok (.istore 4, 2) := by decide +kernel
theorem d2_3 : decode prog_41_method_10_code 3 = .ok (.lload_n 2, 1) := by decide +kernel
theorem d2_4 : decode prog_41_method_10_code 4 = .ok (.lstore 5, 2) := by decide +kernel
theorem d2_6 : decode prog_41_method_10_code 6 = .ok (.lload 5, 2) := by decide +kernel
theorem d2_8 : decode prog_41_method_10_code 8 = .ok (.ldc2_w 111, 3) := by decide +kernel
theorem d2_11 : decode prog_41_method_10_code 11 = .ok (.land, 1) := by decide +kernel
theorem d2_12 : decode prog_41_method_10_code 12 = .ok (.lconst 0, 1) := by decide +kernel
theorem d2_13 : decode prog_41_method_10_code 13 = .ok (.lcmp, 1) := by decide +kernel
theorem d2_14 : decode prog_41_method_10_code 14 = .ok (.ifCond .eq 32, 3) := by decide +kernel
theorem d2_17 : decode prog_41_method_10_code 17 = .ok (.aload_n 0, 1) := by decide +kernel
theorem d2_18 : decode prog_41_method_10_code 18 = .ok (.iload 4, 2) := by decide +kernel
theorem d2_20 : decode prog_41_method_10_code 20 = .ok (.iinc 4 1, 3) := by decide +kernel
theorem d2_23 : decode prog_41_method_10_code 23 = .ok (.lload 5, 2) := by decide +kernel
theorem d2_25 : decode prog_41_method_10_code 25 = .ok (.ldc2_w 113, 3) := by decide +kernel
theorem d2_28 : decode prog_41_method_10_code 28 = .ok (.land, 1) := by decide +kernel
theorem d2_29 : decode prog_41_method_10_code 29 = .ok (.ldc2_w 115, 3) := by decide +kernel
theorem d2_32 : decode prog_41_method_10_code 32 = .ok (.lor, 1) := by decide +kernel
theorem d2_33 : decode prog_41_method_10_code 33 = .ok (.l2i, 1) := by decide +kernel
theorem d2_34 : decode prog_41_method_10_code 34 = .ok (.i2b, 1) := by decide +kernel
theorem d2_35 : decode prog_41_method_10_code 35 = .ok (.bastore, 1) := by decide +kernel
theorem d2_36 : decode prog_41_method_10_code 36 = .ok (.lload 5, 2) := by decide +kernel
theorem d2_38 : decode prog_41_method_10_code 38 = .ok (.bipush 7, 2) := by decide +kernel
theorem d2_40 : decode prog_41_method_10_code 40 = .ok (.lushr, 1) := by decide +kernel
theorem d2_41 : decode prog_41_method_10_code 41 = .ok (.lstore 5, 2) := by decide +kernel
theorem d2_43 : decode prog_41_method_10_code 43 = .ok (.goto (-37), 3) := by decide +kernel
theorem d2_46 : decode prog_41_method_10_code 46 = .ok (.aload_n 0, 1) := by decide +kernel
theorem d2_47 : decode prog_41_method_10_code 47 = .ok (.iload 4, 2) := by decide +kernel
theorem d2_49 : decode prog_41_method_10_code 49 = .ok (.iinc 4 1, 3) := by decide +kernel
theorem d2_52 : decode prog_41_method_10_code 52 = .ok (.lload 5, 2) := by decide +kernel
theorem d2_54 : decode prog_41_method_10_code 54 = .ok (.l2i, 1) := by decide +kernel
theorem d2_55 : decode prog_41_method_10_code 55 = .ok (.i2b, 1) := by decide +kernel
theorem d2_56 : decode prog_41_method_10_code 56 = .ok (.bastore, 1) := by decide +kernel
theorem d2_57 : decode prog_41_method_10_code 57 = .ok (.iload 4, 2) := by decide +kernel
theorem d2_59 : decode prog_41_method_10_code 59 = .ok (.ireturn, 1) := by decide +kernel
theorem d3_0 : decode method_4_code 0 = .ok (.iload_n 1, 1) := by decide +kernel
theorem d3_1 : decode method_4_code 1 = .ok (.iload_n 2, 1) := by decide +kernel
theorem d3_2 : decode method_4_code 2 = .ok (.isub, 1) := by decide +kernel
theorem d3_3 : decode method_4_code 3 = .ok (.istore 7, 2) := by decide +kernel
theorem d3_5 : decode method_4_code 5 = .ok (.iload 7, 2) := by decide +kernel
theorem d3_7 : decode method_4_code 7 = .ok (.ifCond .lt 9, 3) := by decide +kernel
theorem d3_10 : decode method_4_code 10 = .ok (.iload 7, 2) := by decide +kernel
theorem d3_12 : decode method_4_code 12 = .ok (.iload_n 3, 1) := by decide +kernel
theorem d3_13 : decode method_4_code 13 = .ok (.if_icmp .lt 10, 3) := by decide +kernel
theorem d3_16 : decode method_4_code 16 = .ok (.iload 6, 2) := by decide +kernel
theorem d3_18 : decode method_4_code 18 = .ok (.istore 8, 2) := by decide +kernel
theorem d3_20 : decode method_4_code 20 = .ok (.goto 46, 3) := by decide +kernel
theorem d3_23 : decode method_4_code 23 = .ok (.iload 7, 2) := by decide +kernel
theorem d3_25 : decode method_4_code 25 = .ok (.iload_n 3, 1) := by decide +kernel
theorem d3_26 : decode method_4_code 26 = .ok (.iconst 1, 1) := by decide +kernel
theorem d3_27 : decode method_4_code 27 = .ok (.isub, 1) := by decide +kernel
theorem d3_28 : decode method_4_code 28 = .ok (.if_icmp .ge 26, 3) := by decide +kernel
theorem d3_31 : decode method_4_code 31 = .ok (.lload 4, 2) := by decide +kernel
theorem d3_33 : decode method_4_code 33 = .ok (.bipush 7, 2) := by decide +kernel
theorem d3_35 : decode method_4_code 35 = .ok (.iload 7, 2) := by decide +kernel
theorem d3_37 : decode method_4_code 37 = .ok (.imul, 1) := by decide +kernel
theorem d3_38 : decode method_4_code 38 = .ok (.lushr, 1) := by decide +kernel
theorem d3_39 : decode method_4_code 39 = .ok (.ldc2_w 43, 3) := by decide +kernel
theorem d3_42 : decode method_4_code 42 = .ok (.land, 1) := by decide +kernel
theorem d3_43 : decode method_4_code 43 = .ok (.ldc2_w 27, 3) := by decide +kernel
theorem d3_46 : decode method_4_code 46 = .ok (.lor, 1) := by decide +kernel
theorem d3_47 : decode method_4_code 47 = .ok (.l2i, 1) := by decide +kernel
theorem d3_48 : decode method_4_code 48 = .ok (.i2b, 1) := by decide +kernel
theorem d3_49 : decode method_4_code 49 = .ok (.istore 8, 2) := by decide +kernel
theorem d3_51 : decode method_4_code 51 = .ok (.goto 15, 3) := by decide +kernel
theorem d3_54 : decode method_4_code 54 = .ok (.lload 4, 2) := by decide +kernel
theorem d3_56 : decode method_4_code 56 = .ok (.bipush 7, 2) := by decide +kernel
theorem d3_58 : decode method_4_code 58 = .ok (.iload 7, 2) := by decide +kernel
theorem d3_60 : decode method_4_code 60 = .ok (.imul, 1) := by decide +kernel
theorem d3_61 : decode method_4_code 61 = .ok (.lushr, 1) := by decide +kernel
theorem d3_62 : decode method_4_code 62 = .ok (.l2i, 1) := by decide +kernel
theorem d3_63 : decode method_4_code 63 = .ok (.i2b, 1) := by decide +kernel
theorem d3_64 : decode method_4_code 64 = .ok (.istore 8, 2) := by decide +kernel
theorem d3_66 : decode method_4_code 66 = .ok (.aload_n 0, 1) := by decide +kernel
theorem d3_67 : decode method_4_code 67 = .ok (.iload_n 1, 1) := by decide +kernel
theorem d3_68 : decode method_4_code 68 = .ok (.baload, 1) := by decide +kernel
theorem d3_69 : decode method_4_code 69 = .ok (.iload 8, 2) := by decide +kernel
theorem d3_71 : decode method_4_code 71 = .ok (.if_icmp .ne 7, 3) := by decide +kernel
theorem d3_74 : decode method_4_code 74 = .ok (.iconst 1, 1) := by decide +kernel
theorem d3_75 : decode method_4_code 75 = .ok (.goto 4, 3) := by decide +kernel
theorem d3_79 : decode method_4_code 79 = .ok (.ireturn, 1) := by decide +kernel
theorem pdx_0 : parseMethodDescriptor "([BIIIJB)Z" = some ⟨[(.array .byte), .int, .int, .int, .long, .byte], some .boolean⟩ := by decide +kernel
theorem pdx_1 : parseMethodDescriptor "(J)I" = some ⟨[.long], some .int⟩ := by decide +kernel
theorem pdx_2 : parseMethodDescriptor "([BIJ)I" = some ⟨[(.array .byte), .int, .long], some .int⟩ := by decide +kernel
theorem ef_1 (m : MethodId) (x0 : Int64) : entryFrame m #[(.long x0)] 2 = mkF m 0 #[.val (.long x0), .second] [] := by first | (simp [entryFrame, mkF, argsToLocals, Value.category]; done) | rfl
theorem pn_1 : plainName "com/example/spanlace/spanlace/index/IndexOutputPutVLongPinLaw" = true := by first | (simp [plainName, overriddenIn]; done) | decide +kernel
def Q3 (Z : State) (v : Int64) (h0 : Heap) (n0 : Nat) (rv : Option Value) (h : Heap) (Lq : List Loc) : Prop := rv = some (.int (own_len v)) ∧ Fr n0 Lq ∧ h = h0
set_option maxRecDepth 65536 in
set_option maxHeartbeats 40000000 in
theorem rm3 (l : Launch) (Z : State) (a0 : Array Value) (hw : ∀ d ∈ tables_1, d.before a0 Z = true) (ws : List Jvm.Cond) (v : Int64) (h0 : Heap) (n0 : Nat) (Z0 : n0 ≤ h0.size) :
    MetFree l (⟨"com/example/spanlace/spanlace/index/IndexOutputPutVLongPinLaw", "length", "(J)I"⟩ : MethodName) (head1 (Jvm.Cond.code (⟨"com/example/spanlace/spanlace/index/IndexOutputPutVLongPinLaw", "length", "(J)I"⟩ : MethodName) method_3_code 2 (some .int) :: ws) ({ frames := 0, cells := 0, slots := 0, locals := 0 } : Room)) (fun xx U => xx = #[(.long v)] ∧ Z.Warmed39 U.vm ∧ U.heap = h0) (fun _ _ _ _ _ => True) (fun _ U o U' => ∃ rv Lq, o = .returned rv ∧ Q3 Z v h0 n0 rv U'.heap Lq ∧ FrameEnd U o U' Lq ({ frames := 0, cells := 0, slots := 0, locals := 0 } : Room).cells ({ frames := 0, cells := 0, slots := 0, locals := 0 } : Room).slots) := by
  refine MetFree.of_bodySF (plainFor_of_name pn_1) hisR ?_
  intro p e s m args below meth c s₁ Bd hml0 hP hK
  obtain ⟨rfl, hZ, hh⟩ := hP
  have hx := Bd.exec
  have hby := Bd.bytes
  have hml : c.maxLocals = 2 := hml0
  have hown : s.vm.findClass "com/example/spanlace/spanlace/index/IndexOutputPutVLongPinLaw" = some m.cls := findClass_of_methodNamed Bd.named
  have hnm := (name_of_methodNamed Bd.named Bd.method).1
  have X0 : Stand p l e ({ frames := 0, cells := 0, slots := 0, locals := 0 } : Room) s m #[(.long v)] below meth c s₁ [] 0 0 := Stand.of_body Bd
  have e0 : s₁.heap = h0 := by rw [← hh, Bd.state]; rfl
  have N0 := Fr.nil n0
  have pre0 : ∀ t, Steps p.tables e below (s₁.setTop (mkF m 0 #[.val (.long v), .second] [])) t → Steps p.tables e below (s₁.setTop (entryFrame m #[(.long v)] 2)) t := fun t k => castTop (ef_1 m v) k
  by_cases g0 : v < (128 : Int64)
  · have hv : own_len v = (1 : Int32) := by unfold own_len own_k; rw [if_pos g0]; rfl
    obtain ⟨fs, hr, hrun, hended, hW, hsame⟩ := X0.leave (v := some (.int (1 : Int32))) (fun h => by rw [Bd.returns] at h; cases h)
    refine ⟨_, _, pre0 _ ?_, hrun, hended, _, _, rfl, ?_, ⟨_, rfl⟩, hW, hsame.mono (by decide) (by decide)⟩
    · show Steps p.tables e below (s₁.setTop (mkF m 0 #[.val (.long v), .second] [])) _
      refine XS.lloadN X0.here hx rfl (hb hby d1_0) rfl ?_
      show Steps p.tables e below (s₁.setTop (mkF m 1 #[.val (.long v), .second] [(.long v)])) _
      refine X0.ldc2Long hx hown (mvT hZ (hw _ (List.mem_of_getElem? (i := 6) rfl))) (g := (mkF m 1 #[.val (.long v), .second] [(.long v)])) rfl (hb hby d1_1) _ ?_
      show Steps p.tables e below (s₁.setTop (mkF m 4 #[.val (.long v), .second] [(.long (128 : Int64)), (.long v)])) _
      refine XS.lcmp X0.here hx rfl (hb hby d1_4) rfl ?_
      show Steps p.tables e below (s₁.setTop (mkF m 5 #[.val (.long v), .second] [(.int (lcmpW v (128 : Int64)))])) _
      refine XS.ifNo X0.here hx rfl (hb hby d1_5) rfl ((if0 _ _).trans (tlt ((lw_lt _ _).mpr g0 : (lcmpW v (128 : Int64)) < (0 : Int32))).2.1) ?_
      show Steps p.tables e below (s₁.setTop (mkF m 8 #[.val (.long v), .second] [])) _
      refine XS.iconst X0.here hx rfl (hb hby d1_8) ?_
      show Steps p.tables e below (s₁.setTop (mkF m 9 #[.val (.long v), .second] [(.int (1 : Int32))])) _
      exact retI X0 hx Bd.returns (hb hby d1_9) hr
    · show Q3 Z v h0 n0 _ s₁.heap _
      rw [e0]
      unfold Q3
      rw [hv]
      exact ⟨rfl, N0, rfl⟩
  · by_cases g1 : v < (16384 : Int64)
    · have hv : own_len v = (2 : Int32) := by unfold own_len own_k; rw [if_neg g0, if_pos g1]; rfl
      obtain ⟨fs, hr, hrun, hended, hW, hsame⟩ := X0.leave (v := some (.int (2 : Int32))) (fun h => by rw [Bd.returns] at h; cases h)
      refine ⟨_, _, pre0 _ ?_, hrun, hended, _, _, rfl, ?_, ⟨_, rfl⟩, hW, hsame.mono (by decide) (by decide)⟩
      · show Steps p.tables e below (s₁.setTop (mkF m 0 #[.val (.long v), .second] [])) _
        refine XS.lloadN X0.here hx rfl (hb hby d1_0) rfl ?_
        show Steps p.tables e below (s₁.setTop (mkF m 1 #[.val (.long v), .second] [(.long v)])) _
        refine X0.ldc2Long hx hown (mvT hZ (hw _ (List.mem_of_getElem? (i := 6) rfl))) (g := (mkF m 1 #[.val (.long v), .second] [(.long v)])) rfl (hb hby d1_1) _ ?_
        show Steps p.tables e below (s₁.setTop (mkF m 4 #[.val (.long v), .second] [(.long (128 : Int64)), (.long v)])) _
        refine XS.lcmp X0.here hx rfl (hb hby d1_4) rfl ?_
        show Steps p.tables e below (s₁.setTop (mkF m 5 #[.val (.long v), .second] [(.int (lcmpW v (128 : Int64)))])) _
        refine XS.ifYes X0.here hx rfl (pc0 := 5) (pc' := 10) rfl (hb hby d1_5) rfl ((if0 _ _).trans (flt (fun q => g0 ((lw_lt _ _).mp q) : ¬ ((lcmpW v (128 : Int64)) < (0 : Int32)))).2.1) (by decide) (by decide) ?_
        show Steps p.tables e below (s₁.setTop (mkF m 10 #[.val (.long v), .second] [])) _
        refine XS.lloadN X0.here hx rfl (hb hby d1_10) rfl ?_
        show Steps p.tables e below (s₁.setTop (mkF m 11 #[.val (.long v), .second] [(.long v)])) _
        refine X0.ldc2Long hx hown (mvT hZ (hw _ (List.mem_of_getElem? (i := 15) rfl))) (g := (mkF m 11 #[.val (.long v), .second] [(.long v)])) rfl (hb hby d1_11) _ ?_
        show Steps p.tables e below (s₁.setTop (mkF m 14 #[.val (.long v), .second] [(.long (16384 : Int64)), (.long v)])) _
        refine XS.lcmp X0.here hx rfl (hb hby d1_14) rfl ?_
        show Steps p.tables e below (s₁.setTop (mkF m 15 #[.val (.long v), .second] [(.int (lcmpW v (16384 : Int64)))])) _
        refine XS.ifNo X0.here hx rfl (hb hby d1_15) rfl ((if0 _ _).trans (tlt ((lw_lt _ _).mpr g1 : (lcmpW v (16384 : Int64)) < (0 : Int32))).2.1) ?_
        show Steps p.tables e below (s₁.setTop (mkF m 18 #[.val (.long v), .second] [])) _
        refine XS.iconst X0.here hx rfl (hb hby d1_18) ?_
        show Steps p.tables e below (s₁.setTop (mkF m 19 #[.val (.long v), .second] [(.int (2 : Int32))])) _
        exact retI X0 hx Bd.returns (hb hby d1_19) hr
      · show Q3 Z v h0 n0 _ s₁.heap _
        rw [e0]
        unfold Q3
        rw [hv]
        exact ⟨rfl, N0, rfl⟩
    · by_cases g2 : v < (2097152 : Int64)
      · have hv : own_len v = (3 : Int32) := by unfold own_len own_k; rw [if_neg g0, if_neg g1, if_pos g2]; rfl
        obtain ⟨fs, hr, hrun, hended, hW, hsame⟩ := X0.leave (v := some (.int (3 : Int32))) (fun h => by rw [Bd.returns] at h; cases h)
        refine ⟨_, _, pre0 _ ?_, hrun, hended, _, _, rfl, ?_, ⟨_, rfl⟩, hW, hsame.mono (by decide) (by decide)⟩
        · show Steps p.tables e below (s₁.setTop (mkF m 0 #[.val (.long v), .second] [])) _
          refine XS.lloadN X0.here hx rfl (hb hby d1_0) rfl ?_
          show Steps p.tables e below (s₁.setTop (mkF m 1 #[.val (.long v), .second] [(.long v)])) _
          refine X0.ldc2Long hx hown (mvT hZ (hw _ (List.mem_of_getElem? (i := 6) rfl))) (g := (mkF m 1 #[.val (.long v), .second] [(.long v)])) rfl (hb hby d1_1) _ ?_
          show Steps p.tables e below (s₁.setTop (mkF m 4 #[.val (.long v), .second] [(.long (128 : Int64)), (.long v)])) _
          refine XS.lcmp X0.here hx rfl (hb hby d1_4) rfl ?_
          show Steps p.tables e below (s₁.setTop (mkF m 5 #[.val (.long v), .second] [(.int (lcmpW v (128 : Int64)))])) _
          refine XS.ifYes X0.here hx rfl (pc0 := 5) (pc' := 10) rfl (hb hby d1_5) rfl ((if0 _ _).trans (flt (fun q => g0 ((lw_lt _ _).mp q) : ¬ ((lcmpW v (128 : Int64)) < (0 : Int32)))).2.1) (by decide) (by decide) ?_
          show Steps p.tables e below (s₁.setTop (mkF m 10 #[.val (.long v), .second] [])) _
          refine XS.lloadN X0.here hx rfl (hb hby d1_10) rfl ?_
          show Steps p.tables e below (s₁.setTop (mkF m 11 #[.val (.long v), .second] [(.long v)])) _
          refine X0.ldc2Long hx hown (mvT hZ (hw _ (List.mem_of_getElem? (i := 15) rfl))) (g := (mkF m 11 #[.val (.long v), .second] [(.long v)])) rfl (hb hby d1_11) _ ?_
          show Steps p.tables e below (s₁.setTop (mkF m 14 #[.val (.long v), .second] [(.long (16384 : Int64)), (.long v)])) _
          refine XS.lcmp X0.here hx rfl (hb hby d1_14) rfl ?_
          show Steps p.tables e below (s₁.setTop (mkF m 15 #[.val (.long v), .second] [(.int (lcmpW v (16384 : Int64)))])) _
          refine XS.ifYes X0.here hx rfl (pc0 := 15) (pc' := 20) rfl (hb hby d1_15) rfl ((if0 _ _).trans (flt (fun q => g1 ((lw_lt _ _).mp q) : ¬ ((lcmpW v (16384 : Int64)) < (0 : Int32)))).2.1) (by decide) (by decide) ?_
          show Steps p.tables e below (s₁.setTop (mkF m 20 #[.val (.long v), .second] [])) _
          refine XS.lloadN X0.here hx rfl (hb hby d1_20) rfl ?_
          show Steps p.tables e below (s₁.setTop (mkF m 21 #[.val (.long v), .second] [(.long v)])) _
          refine X0.ldc2Long hx hown (mvT hZ (hw _ (List.mem_of_getElem? (i := 16) rfl))) (g := (mkF m 21 #[.val (.long v), .second] [(.long v)])) rfl (hb hby d1_21) _ ?_
          show Steps p.tables e below (s₁.setTop (mkF m 24 #[.val (.long v), .second] [(.long (2097152 : Int64)), (.long v)])) _
          refine XS.lcmp X0.here hx rfl (hb hby d1_24) rfl ?_
          show Steps p.tables e below (s₁.setTop (mkF m 25 #[.val (.long v), .second] [(.int (lcmpW v (2097152 : Int64)))])) _
          refine XS.ifNo X0.here hx rfl (hb hby d1_25) rfl ((if0 _ _).trans (tlt ((lw_lt _ _).mpr g2 : (lcmpW v (2097152 : Int64)) < (0 : Int32))).2.1) ?_
          show Steps p.tables e below (s₁.setTop (mkF m 28 #[.val (.long v), .second] [])) _
          refine XS.iconst X0.here hx rfl (hb hby d1_28) ?_
          show Steps p.tables e below (s₁.setTop (mkF m 29 #[.val (.long v), .second] [(.int (3 : Int32))])) _
          exact retI X0 hx Bd.returns (hb hby d1_29) hr
        · show Q3 Z v h0 n0 _ s₁.heap _
          rw [e0]
          unfold Q3
          rw [hv]
          exact ⟨rfl, N0, rfl⟩
      · by_cases g3 : v < (268435456 : Int64)
        · have hv : own_len v = (4 : Int32) := by unfold own_len own_k; rw [if_neg g0, if_neg g1, if_neg g2, if_pos g3]; rfl
          obtain ⟨fs, hr, hrun, hended, hW, hsame⟩ := X0.leave (v := some (.int (4 : Int32))) (fun h => by rw [Bd.returns] at h; cases h)
          refine ⟨_, _, pre0 _ ?_, hrun, hended, _, _, rfl, ?_, ⟨_, rfl⟩, hW, hsame.mono (by decide) (by decide)⟩
          · show Steps p.tables e below (s₁.setTop (mkF m 0 #[.val (.long v), .second] [])) _
            refine XS.lloadN X0.here hx rfl (hb hby d1_0) rfl ?_
            show Steps p.tables e below (s₁.setTop (mkF m 1 #[.val (.long v), .second] [(.long v)])) _
            refine X0.ldc2Long hx hown (mvT hZ (hw _ (List.mem_of_getElem? (i := 6) rfl))) (g := (mkF m 1 #[.val (.long v), .second] [(.long v)])) rfl (hb hby d1_1) _ ?_
            show Steps p.tables e below (s₁.setTop (mkF m 4 #[.val (.long v), .second] [(.long (128 : Int64)), (.long v)])) _
            refine XS.lcmp X0.here hx rfl (hb hby d1_4) rfl ?_
            show Steps p.tables e below (s₁.setTop (mkF m 5 #[.val (.long v), .second] [(.int (lcmpW v (128 : Int64)))])) _
            refine XS.ifYes X0.here hx rfl (pc0 := 5) (pc' := 10) rfl (hb hby d1_5) rfl ((if0 _ _).trans (flt (fun q => g0 ((lw_lt _ _).mp q) : ¬ ((lcmpW v (128 : Int64)) < (0 : Int32)))).2.1) (by decide) (by decide) ?_
            show Steps p.tables e below (s₁.setTop (mkF m 10 #[.val (.long v), .second] [])) _
            refine XS.lloadN X0.here hx rfl (hb hby d1_10) rfl ?_
            show Steps p.tables e below (s₁.setTop (mkF m 11 #[.val (.long v), .second] [(.long v)])) _
            refine X0.ldc2Long hx hown (mvT hZ (hw _ (List.mem_of_getElem? (i := 15) rfl))) (g := (mkF m 11 #[.val (.long v), .second] [(.long v)])) rfl (hb hby d1_11) _ ?_
            show Steps p.tables e below (s₁.setTop (mkF m 14 #[.val (.long v), .second] [(.long (16384 : Int64)), (.long v)])) _
            refine XS.lcmp X0.here hx rfl (hb hby d1_14) rfl ?_
            show Steps p.tables e below (s₁.setTop (mkF m 15 #[.val (.long v), .second] [(.int (lcmpW v (16384 : Int64)))])) _
            refine XS.ifYes X0.here hx rfl (pc0 := 15) (pc' := 20) rfl (hb hby d1_15) rfl ((if0 _ _).trans (flt (fun q => g1 ((lw_lt _ _).mp q) : ¬ ((lcmpW v (16384 : Int64)) < (0 : Int32)))).2.1) (by decide) (by decide) ?_
            show Steps p.tables e below (s₁.setTop (mkF m 20 #[.val (.long v), .second] [])) _
            refine XS.lloadN X0.here hx rfl (hb hby d1_20) rfl ?_
            show Steps p.tables e below (s₁.setTop (mkF m 21 #[.val (.long v), .second] [(.long v)])) _
            refine X0.ldc2Long hx hown (mvT hZ (hw _ (List.mem_of_getElem? (i := 16) rfl))) (g := (mkF m 21 #[.val (.long v), .second] [(.long v)])) rfl (hb hby d1_21) _ ?_
            show Steps p.tables e below (s₁.setTop (mkF m 24 #[.val (.long v), .second] [(.long (2097152 : Int64)), (.long v)])) _
            refine XS.lcmp X0.here hx rfl (hb hby d1_24) rfl ?_
            show Steps p.tables e below (s₁.setTop (mkF m 25 #[.val (.long v), .second] [(.int (lcmpW v (2097152 : Int64)))])) _
            refine XS.ifYes X0.here hx rfl (pc0 := 25) (pc' := 30) rfl (hb hby d1_25) rfl ((if0 _ _).trans (flt (fun q => g2 ((lw_lt _ _).mp q) : ¬ ((lcmpW v (2097152 : Int64)) < (0 : Int32)))).2.1) (by decide) (by decide) ?_
            show Steps p.tables e below (s₁.setTop (mkF m 30 #[.val (.long v), .second] [])) _
            refine XS.lloadN X0.here hx rfl (hb hby d1_30) rfl ?_
            show Steps p.tables e below (s₁.setTop (mkF m 31 #[.val (.long v), .second] [(.long v)])) _
            refine X0.ldc2Long hx hown (mvT hZ (hw _ (List.mem_of_getElem? (i := 17) rfl))) (g := (mkF m 31 #[.val (.long v), .second] [(.long v)])) rfl (hb hby d1_31) _ ?_
            show Steps p.tables e below (s₁.setTop (mkF m 34 #[.val (.long v), .second] [(.long (268435456 : Int64)), (.long v)])) _
            refine XS.lcmp X0.here hx rfl (hb hby d1_34) rfl ?_
            show Steps p.tables e below (s₁.setTop (mkF m 35 #[.val (.long v), .second] [(.int (lcmpW v (268435456 : Int64)))])) _
            refine XS.ifNo X0.here hx rfl (hb hby d1_35) rfl ((if0 _ _).trans (tlt ((lw_lt _ _).mpr g3 : (lcmpW v (268435456 : Int64)) < (0 : Int32))).2.1) ?_
            show Steps p.tables e below (s₁.setTop (mkF m 38 #[.val (.long v), .second] [])) _
            refine XS.iconst X0.here hx rfl (hb hby d1_38) ?_
            show Steps p.tables e below (s₁.setTop (mkF m 39 #[.val (.long v), .second] [(.int (4 : Int32))])) _
            exact retI X0 hx Bd.returns (hb hby d1_39) hr
          · show Q3 Z v h0 n0 _ s₁.heap _
            rw [e0]
            unfold Q3
            rw [hv]
            exact ⟨rfl, N0, rfl⟩
        · by_cases g4 : v < (34359738368 : Int64)
          · have hv : own_len v = (5 : Int32) := by unfold own_len own_k; rw [if_neg g0, if_neg g1, if_neg g2, if_neg g3, if_pos g4]; rfl
            obtain ⟨fs, hr, hrun, hended, hW, hsame⟩ := X0.leave (v := some (.int (5 : Int32))) (fun h => by rw [Bd.returns] at h; cases h)
            refine ⟨_, _, pre0 _ ?_, hrun, hended, _, _, rfl, ?_, ⟨_, rfl⟩, hW, hsame.mono (by decide) (by decide)⟩
            · show Steps p.tables e below (s₁.setTop (mkF m 0 #[.val (.long v), .second] [])) _
              refine XS.lloadN X0.here hx rfl (hb hby d1_0) rfl ?_
              show Steps p.tables e below (s₁.setTop (mkF m 1 #[.val (.long v), .second] [(.long v)])) _
              refine X0.ldc2Long hx hown (mvT hZ (hw _ (List.mem_of_getElem? (i := 6) rfl))) (g := (mkF m 1 #[.val (.long v), .second] [(.long v)])) rfl (hb hby d1_1) _ ?_
              show Steps p.tables e below (s₁.setTop (mkF m 4 #[.val (.long v), .second] [(.long (128 : Int64)), (.long v)])) _
              refine XS.lcmp X0.here hx rfl (hb hby d1_4) rfl ?_
              show Steps p.tables e below (s₁.setTop (mkF m 5 #[.val (.long v), .second] [(.int (lcmpW v (128 : Int64)))])) _
              refine XS.ifYes X0.here hx rfl (pc0 := 5) (pc' := 10) rfl (hb hby d1_5) rfl ((if0 _ _).trans (flt (fun q => g0 ((lw_lt _ _).mp q) : ¬ ((lcmpW v (128 : Int64)) < (0 : Int32)))).2.1) (by decide) (by decide) ?_
              show Steps p.tables e below (s₁.setTop (mkF m 10 #[.val (.long v), .second] [])) _
              refine XS.lloadN X0.here hx rfl (hb hby d1_10) rfl ?_
              show Steps p.tables e below (s₁.setTop (mkF m 11 #[.val (.long v), .second] [(.long v)])) _
              refine X0.ldc2Long hx hown (mvT hZ (hw _ (List.mem_of_getElem? (i := 15) rfl))) (g := (mkF m 11 #[.val (.long v), .second] [(.long v)])) rfl (hb hby d1_11) _ ?_
              show Steps p.tables e below (s₁.setTop (mkF m 14 #[.val (.long v), .second] [(.long (16384 : Int64)), (.long v)])) _
              refine XS.lcmp X0.here hx rfl (hb hby d1_14) rfl ?_
              show Steps p.tables e below (s₁.setTop (mkF m 15 #[.val (.long v), .second] [(.int (lcmpW v (16384 : Int64)))])) _
              refine XS.ifYes X0.here hx rfl (pc0 := 15) (pc' := 20) rfl (hb hby d1_15) rfl ((if0 _ _).trans (flt (fun q => g1 ((lw_lt _ _).mp q) : ¬ ((lcmpW v (16384 : Int64)) < (0 : Int32)))).2.1) (by decide) (by decide) ?_
              show Steps p.tables e below (s₁.setTop (mkF m 20 #[.val (.long v), .second] [])) _
              refine XS.lloadN X0.here hx rfl (hb hby d1_20) rfl ?_
              show Steps p.tables e below (s₁.setTop (mkF m 21 #[.val (.long v), .second] [(.long v)])) _
              refine X0.ldc2Long hx hown (mvT hZ (hw _ (List.mem_of_getElem? (i := 16) rfl))) (g := (mkF m 21 #[.val (.long v), .second] [(.long v)])) rfl (hb hby d1_21) _ ?_
              show Steps p.tables e below (s₁.setTop (mkF m 24 #[.val (.long v), .second] [(.long (2097152 : Int64)), (.long v)])) _
              refine XS.lcmp X0.here hx rfl (hb hby d1_24) rfl ?_
              show Steps p.tables e below (s₁.setTop (mkF m 25 #[.val (.long v), .second] [(.int (lcmpW v (2097152 : Int64)))])) _
              refine XS.ifYes X0.here hx rfl (pc0 := 25) (pc' := 30) rfl (hb hby d1_25) rfl ((if0 _ _).trans (flt (fun q => g2 ((lw_lt _ _).mp q) : ¬ ((lcmpW v (2097152 : Int64)) < (0 : Int32)))).2.1) (by decide) (by decide) ?_
              show Steps p.tables e below (s₁.setTop (mkF m 30 #[.val (.long v), .second] [])) _
              refine XS.lloadN X0.here hx rfl (hb hby d1_30) rfl ?_
              show Steps p.tables e below (s₁.setTop (mkF m 31 #[.val (.long v), .second] [(.long v)])) _
              refine X0.ldc2Long hx hown (mvT hZ (hw _ (List.mem_of_getElem? (i := 17) rfl))) (g := (mkF m 31 #[.val (.long v), .second] [(.long v)])) rfl (hb hby d1_31) _ ?_
              show Steps p.tables e below (s₁.setTop (mkF m 34 #[.val (.long v), .second] [(.long (268435456 : Int64)), (.long v)])) _
              refine XS.lcmp X0.here hx rfl (hb hby d1_34) rfl ?_
              show Steps p.tables e below (s₁.setTop (mkF m 35 #[.val (.long v), .second] [(.int (lcmpW v (268435456 : Int64)))])) _
              refine XS.ifYes X0.here hx rfl (pc0 := 35) (pc' := 40) rfl (hb hby d1_35) rfl ((if0 _ _).trans (flt (fun q => g3 ((lw_lt _ _).mp q) : ¬ ((lcmpW v (268435456 : Int64)) < (0 : Int32)))).2.1) (by decide) (by decide) ?_
              show Steps p.tables e below (s₁.setTop (mkF m 40 #[.val (.long v), .second] [])) _
              refine XS.lloadN X0.here hx rfl (hb hby d1_40) rfl ?_
              show Steps p.tables e below (s₁.setTop (mkF m 41 #[.val (.long v), .second] [(.long v)])) _
              refine X0.ldc2Long hx hown (mvT hZ (hw _ (List.mem_of_getElem? (i := 18) rfl))) (g := (mkF m 41 #[.val (.long v), .second] [(.long v)])) rfl (hb hby d1_41) _ ?_
              show Steps p.tables e below (s₁.setTop (mkF m 44 #[.val (.long v), .second] [(.long (34359738368 : Int64)), (.long v)])) _
              refine XS.lcmp X0.here hx rfl (hb hby d1_44) rfl ?_
              show Steps p.tables e below (s₁.setTop (mkF m 45 #[.val (.long v), .second] [(.int (lcmpW v (34359738368 : Int64)))])) _
              refine XS.ifNo X0.here hx rfl (hb hby d1_45) rfl ((if0 _ _).trans (tlt ((lw_lt _ _).mpr g4 : (lcmpW v (34359738368 : Int64)) < (0 : Int32))).2.1) ?_
              show Steps p.tables e below (s₁.setTop (mkF m 48 #[.val (.long v), .second] [])) _
              refine XS.iconst X0.here hx rfl (hb hby d1_48) ?_
              show Steps p.tables e below (s₁.setTop (mkF m 49 #[.val (.long v), .second] [(.int (5 : Int32))])) _
              exact retI X0 hx Bd.returns (hb hby d1_49) hr
            · show Q3 Z v h0 n0 _ s₁.heap _
              rw [e0]
              unfold Q3
              rw [hv]
              exact ⟨rfl, N0, rfl⟩
          · by_cases g5 : v < (4398046511104 : Int64)
            · have hv : own_len v = (6 : Int32) := by unfold own_len own_k; rw [if_neg g0, if_neg g1, if_neg g2, if_neg g3, if_neg g4, if_pos g5]; rfl
              obtain ⟨fs, hr, hrun, hended, hW, hsame⟩ := X0.leave (v := some (.int (6 : Int32))) (fun h => by rw [Bd.returns] at h; cases h)
              refine ⟨_, _, pre0 _ ?_, hrun, hended, _, _, rfl, ?_, ⟨_, rfl⟩, hW, hsame.mono (by decide) (by decide)⟩
              · show Steps p.tables e below (s₁.setTop (mkF m 0 #[.val (.long v), .second] [])) _
                refine XS.lloadN X0.here hx rfl (hb hby d1_0) rfl ?_
                show Steps p.tables e below (s₁.setTop (mkF m 1 #[.val (.long v), .second] [(.long v)])) _
                refine X0.ldc2Long hx hown (mvT hZ (hw _ (List.mem_of_getElem? (i := 6) rfl))) (g := (mkF m 1 #[.val (.long v), .second] [(.long v)])) rfl (hb hby d1_1) _ ?_
                show Steps p.tables e below (s₁.setTop (mkF m 4 #[.val (.long v), .second] [(.long (128 : Int64)), (.long v)])) _
                refine XS.lcmp X0.here hx rfl (hb hby d1_4) rfl ?_
                show Steps p.tables e below (s₁.setTop (mkF m 5 #[.val (.long v), .second] [(.int (lcmpW v (128 : Int64)))])) _
                refine XS.ifYes X0.here hx rfl (pc0 := 5) (pc' := 10) rfl (hb hby d1_5) rfl ((if0 _ _).trans (flt (fun q => g0 ((lw_lt _ _).mp q) : ¬ ((lcmpW v (128 : Int64)) < (0 : Int32)))).2.1) (by decide) (by decide) ?_
                show Steps p.tables e below (s₁.setTop (mkF m 10 #[.val (.long v), .second] [])) _
                refine XS.lloadN X0.here hx rfl (hb hby d1_10) rfl ?_
                show Steps p.tables e below (s₁.setTop (mkF m 11 #[.val (.long v), .second] [(.long v)])) _
                refine X0.ldc2Long hx hown (mvT hZ (hw _ (List.mem_of_getElem? (i := 15) rfl))) (g := (mkF m 11 #[.val (.long v), .second] [(.long v)])) rfl (hb hby d1_11) _ ?_
                show Steps p.tables e below (s₁.setTop (mkF m 14 #[.val (.long v), .second] [(.long (16384 : Int64)), (.long v)])) _
                refine XS.lcmp X0.here hx rfl (hb hby d1_14) rfl ?_
                show Steps p.tables e below (s₁.setTop (mkF m 15 #[.val (.long v), .second] [(.int (lcmpW v (16384 : Int64)))])) _
                refine XS.ifYes X0.here hx rfl (pc0 := 15) (pc' := 20) rfl (hb hby d1_15) rfl ((if0 _ _).trans (flt (fun q => g1 ((lw_lt _ _).mp q) : ¬ ((lcmpW v (16384 : Int64)) < (0 : Int32)))).2.1) (by decide) (by decide) ?_
                show Steps p.tables e below (s₁.setTop (mkF m 20 #[.val (.long v), .second] [])) _
                refine XS.lloadN X0.here hx rfl (hb hby d1_20) rfl ?_
                show Steps p.tables e below (s₁.setTop (mkF m 21 #[.val (.long v), .second] [(.long v)])) _
                refine X0.ldc2Long hx hown (mvT hZ (hw _ (List.mem_of_getElem? (i := 16) rfl))) (g := (mkF m 21 #[.val (.long v), .second] [(.long v)])) rfl (hb hby d1_21) _ ?_
                show Steps p.tables e below (s₁.setTop (mkF m 24 #[.val (.long v), .second] [(.long (2097152 : Int64)), (.long v)])) _
                refine XS.lcmp X0.here hx rfl (hb hby d1_24) rfl ?_
                show Steps p.tables e below (s₁.setTop (mkF m 25 #[.val (.long v), .second] [(.int (lcmpW v (2097152 : Int64)))])) _
                refine XS.ifYes X0.here hx rfl (pc0 := 25) (pc' := 30) rfl (hb hby d1_25) rfl ((if0 _ _).trans (flt (fun q => g2 ((lw_lt _ _).mp q) : ¬ ((lcmpW v (2097152 : Int64)) < (0 : Int32)))).2.1) (by decide) (by decide) ?_
                show Steps p.tables e below (s₁.setTop (mkF m 30 #[.val (.long v), .second] [])) _
                refine XS.lloadN X0.here hx rfl (hb hby d1_30) rfl ?_
                show Steps p.tables e below (s₁.setTop (mkF m 31 #[.val (.long v), .second] [(.long v)])) _
                refine X0.ldc2Long hx hown (mvT hZ (hw _ (List.mem_of_getElem? (i := 17) rfl))) (g := (mkF m 31 #[.val (.long v), .second] [(.long v)])) rfl (hb hby d1_31) _ ?_
                show Steps p.tables e below (s₁.setTop (mkF m 34 #[.val (.long v), .second] [(.long (268435456 : Int64)), (.long v)])) _
                refine XS.lcmp X0.here hx rfl (hb hby d1_34) rfl ?_
                show Steps p.tables e below (s₁.setTop (mkF m 35 #[.val (.long v), .second] [(.int (lcmpW v (268435456 : Int64)))])) _
                refine XS.ifYes X0.here hx rfl (pc0 := 35) (pc' := 40) rfl (hb hby d1_35) rfl ((if0 _ _).trans (flt (fun q => g3 ((lw_lt _ _).mp q) : ¬ ((lcmpW v (268435456 : Int64)) < (0 : Int32)))).2.1) (by decide) (by decide) ?_
                show Steps p.tables e below (s₁.setTop (mkF m 40 #[.val (.long v), .second] [])) _
                refine XS.lloadN X0.here hx rfl (hb hby d1_40) rfl ?_
                show Steps p.tables e below (s₁.setTop (mkF m 41 #[.val (.long v), .second] [(.long v)])) _
                refine X0.ldc2Long hx hown (mvT hZ (hw _ (List.mem_of_getElem? (i := 18) rfl))) (g := (mkF m 41 #[.val (.long v), .second] [(.long v)])) rfl (hb hby d1_41) _ ?_
                show Steps p.tables e below (s₁.setTop (mkF m 44 #[.val (.long v), .second] [(.long (34359738368 : Int64)), (.long v)])) _
                refine XS.lcmp X0.here hx rfl (hb hby d1_44) rfl ?_
                show Steps p.tables e below (s₁.setTop (mkF m 45 #[.val (.long v), .second] [(.int (lcmpW v (34359738368 : Int64)))])) _
                refine XS.ifYes X0.here hx rfl (pc0 := 45) (pc' := 50) rfl (hb hby d1_45) rfl ((if0 _ _).trans (flt (fun q => g4 ((lw_lt _ _).mp q) : ¬ ((lcmpW v (34359738368 : Int64)) < (0 : Int32)))).2.1) (by decide) (by decide) ?_
                show Steps p.tables e below (s₁.setTop (mkF m 50 #[.val (.long v), .second] [])) _
                refine XS.lloadN X0.here hx rfl (hb hby d1_50) rfl ?_
                show Steps p.tables e below (s₁.setTop (mkF m 51 #[.val (.long v), .second] [(.long v)])) _
                refine X0.ldc2Long hx hown (mvT hZ (hw _ (List.mem_of_getElem? (i := 22) rfl))) (g := (mkF m 51 #[.val (.long v), .second] [(.long v)])) rfl (hb hby d1_51) _ ?_
                show Steps p.tables e below (s₁.setTop (mkF m 54 #[.val (.long v), .second] [(.long (4398046511104 : Int64)), (.long v)])) _
                refine XS.lcmp X0.here hx rfl (hb hby d1_54) rfl ?_
                show Steps p.tables e below (s₁.setTop (mkF m 55 #[.val (.long v), .second] [(.int (lcmpW v (4398046511104 : Int64)))])) _
                refine XS.ifNo X0.here hx rfl (hb hby d1_55) rfl ((if0 _ _).trans (tlt ((lw_lt _ _).mpr g5 : (lcmpW v (4398046511104 : Int64)) < (0 : Int32))).2.1) ?_
                show Steps p.tables e below (s₁.setTop (mkF m 58 #[.val (.long v), .second] [])) _
                refine XS.bipush X0.here hx rfl (hb hby d1_58) ?_
                show Steps p.tables e below (s₁.setTop (mkF m 60 #[.val (.long v), .second] [(.int (6 : Int32))])) _
                exact retI X0 hx Bd.returns (hb hby d1_60) hr
              · show Q3 Z v h0 n0 _ s₁.heap _
                rw [e0]
                unfold Q3
                rw [hv]
                exact ⟨rfl, N0, rfl⟩
            · by_cases g6 : v < (562949953421312 : Int64)
              · have hv : own_len v = (7 : Int32) := by unfold own_len own_k; rw [if_neg g0, if_neg g1, if_neg g2, if_neg g3, if_neg g4, if_neg g5, if_pos g6]; rfl
                obtain ⟨fs, hr, hrun, hended, hW, hsame⟩ := X0.leave (v := some (.int (7 : Int32))) (fun h => by rw [Bd.returns] at h; cases h)
                refine ⟨_, _, pre0 _ ?_, hrun, hended, _, _, rfl, ?_, ⟨_, rfl⟩, hW, hsame.mono (by decide) (by decide)⟩
                · show Steps p.tables e below (s₁.setTop (mkF m 0 #[.val (.long v), .second] [])) _
                  refine XS.lloadN X0.here hx rfl (hb hby d1_0) rfl ?_
                  show Steps p.tables e below (s₁.setTop (mkF m 1 #[.val (.long v), .second] [(.long v)])) _
                  refine X0.ldc2Long hx hown (mvT hZ (hw _ (List.mem_of_getElem? (i := 6) rfl))) (g := (mkF m 1 #[.val (.long v), .second] [(.long v)])) rfl (hb hby d1_1) _ ?_
                  show Steps p.tables e below (s₁.setTop (mkF m 4 #[.val (.long v), .second] [(.long (128 : Int64)), (.long v)])) _
                  refine XS.lcmp X0.here hx rfl (hb hby d1_4) rfl ?_
                  show Steps p.tables e below (s₁.setTop (mkF m 5 #[.val (.long v), .second] [(.int (lcmpW v (128 : Int64)))])) _
                  refine XS.ifYes X0.here hx rfl (pc0 := 5) (pc' := 10) rfl (hb hby d1_5) rfl ((if0 _ _).trans (flt (fun q => g0 ((lw_lt _ _).mp q) : ¬ ((lcmpW v (128 : Int64)) < (0 : Int32)))).2.1) (by decide) (by decide) ?_
                  show Steps p.tables e below (s₁.setTop (mkF m 10 #[.val (.long v), .second] [])) _
                  refine XS.lloadN X0.here hx rfl (hb hby d1_10) rfl ?_
                  show Steps p.tables e below (s₁.setTop (mkF m 11 #[.val (.long v), .second] [(.long v)])) _
                  refine X0.ldc2Long hx hown (mvT hZ (hw _ (List.mem_of_getElem? (i := 15) rfl))) (g := (mkF m 11 #[.val (.long v), .second] [(.long v)])) rfl (hb hby d1_11) _ ?_
                  show Steps p.tables e below (s₁.setTop (mkF m 14 #[.val (.long v), .second] [(.long (16384 : Int64)), (.long v)])) _
                  refine XS.lcmp X0.here hx rfl (hb hby d1_14) rfl ?_
                  show Steps p.tables e below (s₁.setTop (mkF m 15 #[.val (.long v), .second] [(.int (lcmpW v (16384 : Int64)))])) _
                  refine XS.ifYes X0.here hx rfl (pc0 := 15) (pc' := 20) rfl (hb hby d1_15) rfl ((if0 _ _).trans (flt (fun q => g1 ((lw_lt _ _).mp q) : ¬ ((lcmpW v (16384 : Int64)) < (0 : Int32)))).2.1) (by decide) (by decide) ?_
                  show Steps p.tables e below (s₁.setTop (mkF m 20 #[.val (.long v), .second] [])) _
                  refine XS.lloadN X0.here hx rfl (hb hby d1_20) rfl ?_
                  show Steps p.tables e below (s₁.setTop (mkF m 21 #[.val (.long v), .second] [(.long v)])) _
                  refine X0.ldc2Long hx hown (mvT hZ (hw _ (List.mem_of_getElem? (i := 16) rfl))) (g := (mkF m 21 #[.val (.long v), .second] [(.long v)])) rfl (hb hby d1_21) _ ?_
                  show Steps p.tables e below (s₁.setTop (mkF m 24 #[.val (.long v), .second] [(.long (2097152 : Int64)), (.long v)])) _
                  refine XS.lcmp X0.here hx rfl (hb hby d1_24) rfl ?_
                  show Steps p.tables e below (s₁.setTop (mkF m 25 #[.val (.long v), .second] [(.int (lcmpW v (2097152 : Int64)))])) _
                  refine XS.ifYes X0.here hx rfl (pc0 := 25) (pc' := 30) rfl (hb hby d1_25) rfl ((if0 _ _).trans (flt (fun q => g2 ((lw_lt _ _).mp q) : ¬ ((lcmpW v (2097152 : Int64)) < (0 : Int32)))).2.1) (by decide) (by decide) ?_
                  show Steps p.tables e below (s₁.setTop (mkF m 30 #[.val (.long v), .second] [])) _
                  refine XS.lloadN X0.here hx rfl (hb hby d1_30) rfl ?_
                  show Steps p.tables e below (s₁.setTop (mkF m 31 #[.val (.long v), .second] [(.long v)])) _
                  refine X0.ldc2Long hx hown (mvT hZ (hw _ (List.mem_of_getElem? (i := 17) rfl))) (g := (mkF m 31 #[.val (.long v), .second] [(.long v)])) rfl (hb hby d1_31) _ ?_
                  show Steps p.tables e below (s₁.setTop (mkF m 34 #[.val (.long v), .second] [(.long (268435456 : Int64)), (.long v)])) _
                  refine XS.lcmp X0.here hx rfl (hb hby d1_34) rfl ?_
                  show Steps p.tables e below (s₁.setTop (mkF m 35 #[.val (.long v), .second] [(.int (lcmpW v (268435456 : Int64)))])) _
                  refine XS.ifYes X0.here hx rfl (pc0 := 35) (pc' := 40) rfl (hb hby d1_35) rfl ((if0 _ _).trans (flt (fun q => g3 ((lw_lt _ _).mp q) : ¬ ((lcmpW v (268435456 : Int64)) < (0 : Int32)))).2.1) (by decide) (by decide) ?_
                  show Steps p.tables e below (s₁.setTop (mkF m 40 #[.val (.long v), .second] [])) _
                  refine XS.lloadN X0.here hx rfl (hb hby d1_40) rfl ?_
                  show Steps p.tables e below (s₁.setTop (mkF m 41 #[.val (.long v), .second] [(.long v)])) _
                  refine X0.ldc2Long hx hown (mvT hZ (hw _ (List.mem_of_getElem? (i := 18) rfl))) (g := (mkF m 41 #[.val (.long v), .second] [(.long v)])) rfl (hb hby d1_41) _ ?_
                  show Steps p.tables e below (s₁.setTop (mkF m 44 #[.val (.long v), .second] [(.long (34359738368 : Int64)), (.long v)])) _
                  refine XS.lcmp X0.here hx rfl (hb hby d1_44) rfl ?_
                  show Steps p.tables e below (s₁.setTop (mkF m 45 #[.val (.long v), .second] [(.int (lcmpW v (34359738368 : Int64)))])) _
                  refine XS.ifYes X0.here hx rfl (pc0 := 45) (pc' := 50) rfl (hb hby d1_45) rfl ((if0 _ _).trans (flt (fun q => g4 ((lw_lt _ _).mp q) : ¬ ((lcmpW v (34359738368 : Int64)) < (0 : Int32)))).2.1) (by decide) (by decide) ?_
                  show Steps p.tables e below (s₁.setTop (mkF m 50 #[.val (.long v), .second] [])) _
                  refine XS.lloadN X0.here hx rfl (hb hby d1_50) rfl ?_
                  show Steps p.tables e below (s₁.setTop (mkF m 51 #[.val (.long v), .second] [(.long v)])) _
                  refine X0.ldc2Long hx hown (mvT hZ (hw _ (List.mem_of_getElem? (i := 22) rfl))) (g := (mkF m 51 #[.val (.long v), .second] [(.long v)])) rfl (hb hby d1_51) _ ?_
                  show Steps p.tables e below (s₁.setTop (mkF m 54 #[.val (.long v), .second] [(.long (4398046511104 : Int64)), (.long v)])) _
                  refine XS.lcmp X0.here hx rfl (hb hby d1_54) rfl ?_
                  show Steps p.tables e below (s₁.setTop (mkF m 55 #[.val (.long v), .second] [(.int (lcmpW v (4398046511104 : Int64)))])) _
                  refine XS.ifYes X0.here hx rfl (pc0 := 55) (pc' := 61) rfl (hb hby d1_55) rfl ((if0 _ _).trans (flt (fun q => g5 ((lw_lt _ _).mp q) : ¬ ((lcmpW v (4398046511104 : Int64)) < (0 : Int32)))).2.1) (by decide) (by decide) ?_
                  show Steps p.tables e below (s₁.setTop (mkF m 61 #[.val (.long v), .second] [])) _
                  refine XS.lloadN X0.here hx rfl (hb hby d1_61) rfl ?_
                  show Steps p.tables e below (s₁.setTop (mkF m 62 #[.val (.long v), .second] [(.long v)])) _
                  refine X0.ldc2Long hx hown (mvT hZ (hw _ (List.mem_of_getElem? (i := 23) rfl))) (g := (mkF m 62 #[.val (.long v), .second] [(.long v)])) rfl (hb hby d1_62) _ ?_
                  show Steps p.tables e below (s₁.setTop (mkF m 65 #[.val (.long v), .second] [(.long (562949953421312 : Int64)), (.long v)])) _
                  refine XS.lcmp X0.here hx rfl (hb hby d1_65) rfl ?_
                  show Steps p.tables e below (s₁.setTop (mkF m 66 #[.val (.long v), .second] [(.int (lcmpW v (562949953421312 : Int64)))])) _
                  refine XS.ifNo X0.here hx rfl (hb hby d1_66) rfl ((if0 _ _).trans (tlt ((lw_lt _ _).mpr g6 : (lcmpW v (562949953421312 : Int64)) < (0 : Int32))).2.1) ?_
                  show Steps p.tables e below (s₁.setTop (mkF m 69 #[.val (.long v), .second] [])) _
                  refine XS.bipush X0.here hx rfl (hb hby d1_69) ?_
                  show Steps p.tables e below (s₁.setTop (mkF m 71 #[.val (.long v), .second] [(.int (7 : Int32))])) _
                  exact retI X0 hx Bd.returns (hb hby d1_71) hr
                · show Q3 Z v h0 n0 _ s₁.heap _
                  rw [e0]
                  unfold Q3
                  rw [hv]
                  exact ⟨rfl, N0, rfl⟩
              · by_cases g7 : v < (72057594037927936 : Int64)
                · have hv : own_len v = (8 : Int32) := by unfold own_len own_k; rw [if_neg g0, if_neg g1, if_neg g2, if_neg g3, if_neg g4, if_neg g5, if_neg g6, if_pos g7]; rfl
                  obtain ⟨fs, hr, hrun, hended, hW, hsame⟩ := X0.leave (v := some (.int (8 : Int32))) (fun h => by rw [Bd.returns] at h; cases h)
                  refine ⟨_, _, pre0 _ ?_, hrun, hended, _, _, rfl, ?_, ⟨_, rfl⟩, hW, hsame.mono (by decide) (by decide)⟩
                  · show Steps p.tables e below (s₁.setTop (mkF m 0 #[.val (.long v), .second] [])) _
                    refine XS.lloadN X0.here hx rfl (hb hby d1_0) rfl ?_
                    show Steps p.tables e below (s₁.setTop (mkF m 1 #[.val (.long v), .second] [(.long v)])) _
                    refine X0.ldc2Long hx hown (mvT hZ (hw _ (List.mem_of_getElem? (i := 6) rfl))) (g := (mkF m 1 #[.val (.long v), .second] [(.long v)])) rfl (hb hby d1_1) _ ?_
                    show Steps p.tables e below (s₁.setTop (mkF m 4 #[.val (.long v), .second] [(.long (128 : Int64)), (.long v)])) _
                    refine XS.lcmp X0.here hx rfl (hb hby d1_4) rfl ?_
                    show Steps p.tables e below (s₁.setTop (mkF m 5 #[.val (.long v), .second] [(.int (lcmpW v (128 : Int64)))])) _
                    refine XS.ifYes X0.here hx rfl (pc0 := 5) (pc' := 10) rfl (hb hby d1_5) rfl ((if0 _ _).trans (flt (fun q => g0 ((lw_lt _ _).mp q) : ¬ ((lcmpW v (128 : Int64)) < (0 : Int32)))).2.1) (by decide) (by decide) ?_
                    show Steps p.tables e below (s₁.setTop (mkF m 10 #[.val (.long v), .second] [])) _
                    refine XS.lloadN X0.here hx rfl (hb hby d1_10) rfl ?_
                    show Steps p.tables e below (s₁.setTop (mkF m 11 #[.val (.long v), .second] [(.long v)])) _
                    refine X0.ldc2Long hx hown (mvT hZ (hw _ (List.mem_of_getElem? (i := 15) rfl))) (g := (mkF m 11 #[.val (.long v), .second] [(.long v)])) rfl (hb hby d1_11) _ ?_
                    show Steps p.tables e below (s₁.setTop (mkF m 14 #[.val (.long v), .second] [(.long (16384 : Int64)), (.long v)])) _
                    refine XS.lcmp X0.here hx rfl (hb hby d1_14) rfl ?_
                    show Steps p.tables e below (s₁.setTop (mkF m 15 #[.val (.long v), .second] [(.int (lcmpW v (16384 : Int64)))])) _
                    refine XS.ifYes X0.here hx rfl (pc0 := 15) (pc' := 20) rfl (hb hby d1_15) rfl ((if0 _ _).trans (flt (fun q => g1 ((lw_lt _ _).mp q) : ¬ ((lcmpW v (16384 : Int64)) < (0 : Int32)))).2.1) (by decide) (by decide) ?_
                    show Steps p.tables e below (s₁.setTop (mkF m 20 #[.val (.long v), .second] [])) _
                    refine XS.lloadN X0.here hx rfl (hb hby d1_20) rfl ?_
                    show Steps p.tables e below (s₁.setTop (mkF m 21 #[.val (.long v), .second] [(.long v)])) _
                    refine X0.ldc2Long hx hown (mvT hZ (hw _ (List.mem_of_getElem? (i := 16) rfl))) (g := (mkF m 21 #[.val (.long v), .second] [(.long v)])) rfl (hb hby d1_21) _ ?_
                    show Steps p.tables e below (s₁.setTop (mkF m 24 #[.val (.long v), .second] [(.long (2097152 : Int64)), (.long v)])) _
                    refine XS.lcmp X0.here hx rfl (hb hby d1_24) rfl ?_
                    show Steps p.tables e below (s₁.setTop (mkF m 25 #[.val (.long v), .second] [(.int (lcmpW v (2097152 : Int64)))])) _
                    refine XS.ifYes X0.here hx rfl (pc0 := 25) (pc' := 30) rfl (hb hby d1_25) rfl ((if0 _ _).trans (flt (fun q => g2 ((lw_lt _ _).mp q) : ¬ ((lcmpW v (2097152 : Int64)) < (0 : Int32)))).2.1) (by decide) (by decide) ?_
                    show Steps p.tables e below (s₁.setTop (mkF m 30 #[.val (.long v), .second] [])) _
                    refine XS.lloadN X0.here hx rfl (hb hby d1_30) rfl ?_
                    show Steps p.tables e below (s₁.setTop (mkF m 31 #[.val (.long v), .second] [(.long v)])) _
                    refine X0.ldc2Long hx hown (mvT hZ (hw _ (List.mem_of_getElem? (i := 17) rfl))) (g := (mkF m 31 #[.val (.long v), .second] [(.long v)])) rfl (hb hby d1_31) _ ?_
                    show Steps p.tables e below (s₁.setTop (mkF m 34 #[.val (.long v), .second] [(.long (268435456 : Int64)), (.long v)])) _
                    refine XS.lcmp X0.here hx rfl (hb hby d1_34) rfl ?_
                    show Steps p.tables e below (s₁.setTop (mkF m 35 #[.val (.long v), .second] [(.int (lcmpW v (268435456 : Int64)))])) _
                    refine XS.ifYes X0.here hx rfl (pc0 := 35) (pc' := 40) rfl (hb hby d1_35) rfl ((if0 _ _).trans (flt (fun q => g3 ((lw_lt _ _).mp q) : ¬ ((lcmpW v (268435456 : Int64)) < (0 : Int32)))).2.1) (by decide) (by decide) ?_
                    show Steps p.tables e below (s₁.setTop (mkF m 40 #[.val (.long v), .second] [])) _
                    refine XS.lloadN X0.here hx rfl (hb hby d1_40) rfl ?_
                    show Steps p.tables e below (s₁.setTop (mkF m 41 #[.val (.long v), .second] [(.long v)])) _
                    refine X0.ldc2Long hx hown (mvT hZ (hw _ (List.mem_of_getElem? (i := 18) rfl))) (g := (mkF m 41 #[.val (.long v), .second] [(.long v)])) rfl (hb hby d1_41) _ ?_
                    show Steps p.tables e below (s₁.setTop (mkF m 44 #[.val (.long v), .second] [(.long (34359738368 : Int64)), (.long v)])) _
                    refine XS.lcmp X0.here hx rfl (hb hby d1_44) rfl ?_
                    show Steps p.tables e below (s₁.setTop (mkF m 45 #[.val (.long v), .second] [(.int (lcmpW v (34359738368 : Int64)))])) _
                    refine XS.ifYes X0.here hx rfl (pc0 := 45) (pc' := 50) rfl (hb hby d1_45) rfl ((if0 _ _).trans (flt (fun q => g4 ((lw_lt _ _).mp q) : ¬ ((lcmpW v (34359738368 : Int64)) < (0 : Int32)))).2.1) (by decide) (by decide) ?_
                    show Steps p.tables e below (s₁.setTop (mkF m 50 #[.val (.long v), .second] [])) _
                    refine XS.lloadN X0.here hx rfl (hb hby d1_50) rfl ?_
                    show Steps p.tables e below (s₁.setTop (mkF m 51 #[.val (.long v), .second] [(.long v)])) _
                    refine X0.ldc2Long hx hown (mvT hZ (hw _ (List.mem_of_getElem? (i := 22) rfl))) (g := (mkF m 51 #[.val (.long v), .second] [(.long v)])) rfl (hb hby d1_51) _ ?_
                    show Steps p.tables e below (s₁.setTop (mkF m 54 #[.val (.long v), .second] [(.long (4398046511104 : Int64)), (.long v)])) _
                    refine XS.lcmp X0.here hx rfl (hb hby d1_54) rfl ?_
                    show Steps p.tables e below (s₁.setTop (mkF m 55 #[.val (.long v), .second] [(.int (lcmpW v (4398046511104 : Int64)))])) _
                    refine XS.ifYes X0.here hx rfl (pc0 := 55) (pc' := 61) rfl (hb hby d1_55) rfl ((if0 _ _).trans (flt (fun q => g5 ((lw_lt _ _).mp q) : ¬ ((lcmpW v (4398046511104 : Int64)) < (0 : Int32)))).2.1) (by decide) (by decide) ?_
                    show Steps p.tables e below (s₁.setTop (mkF m 61 #[.val (.long v), .second] [])) _
                    refine XS.lloadN X0.here hx rfl (hb hby d1_61) rfl ?_
                    show Steps p.tables e below (s₁.setTop (mkF m 62 #[.val (.long v), .second] [(.long v)])) _
                    refine X0.ldc2Long hx hown (mvT hZ (hw _ (List.mem_of_getElem? (i := 23) rfl))) (g := (mkF m 62 #[.val (.long v), .second] [(.long v)])) rfl (hb hby d1_62) _ ?_
                    show Steps p.tables e below (s₁.setTop (mkF m 65 #[.val (.long v), .second] [(.long (562949953421312 : Int64)), (.long v)])) _
                    refine XS.lcmp X0.here hx rfl (hb hby d1_65) rfl ?_
                    show Steps p.tables e below (s₁.setTop (mkF m 66 #[.val (.long v), .second] [(.int (lcmpW v (562949953421312 : Int64)))])) _
                    refine XS.ifYes X0.here hx rfl (pc0 := 66) (pc' := 72) rfl (hb hby d1_66) rfl ((if0 _ _).trans (flt (fun q => g6 ((lw_lt _ _).mp q) : ¬ ((lcmpW v (562949953421312 : Int64)) < (0 : Int32)))).2.1) (by decide) (by decide) ?_
                    show Steps p.tables e below (s₁.setTop (mkF m 72 #[.val (.long v), .second] [])) _
                    refine XS.lloadN X0.here hx rfl (hb hby d1_72) rfl ?_
                    show Steps p.tables e below (s₁.setTop (mkF m 73 #[.val (.long v), .second] [(.long v)])) _
                    refine X0.ldc2Long hx hown (mvT hZ (hw _ (List.mem_of_getElem? (i := 24) rfl))) (g := (mkF m 73 #[.val (.long v), .second] [(.long v)])) rfl (hb hby d1_73) _ ?_
                    show Steps p.tables e below (s₁.setTop (mkF m 76 #[.val (.long v), .second] [(.long (72057594037927936 : Int64)), (.long v)])) _
                    refine XS.lcmp X0.here hx rfl (hb hby d1_76) rfl ?_
                    show Steps p.tables e below (s₁.setTop (mkF m 77 #[.val (.long v), .second] [(.int (lcmpW v (72057594037927936 : Int64)))])) _
                    refine XS.ifNo X0.here hx rfl (hb hby d1_77) rfl ((if0 _ _).trans (tlt ((lw_lt _ _).mpr g7 : (lcmpW v (72057594037927936 : Int64)) < (0 : Int32))).2.1) ?_
                    show Steps p.tables e below (s₁.setTop (mkF m 80 #[.val (.long v), .second] [])) _
                    refine XS.bipush X0.here hx rfl (hb hby d1_80) ?_
                    show Steps p.tables e below (s₁.setTop (mkF m 82 #[.val (.long v), .second] [(.int (8 : Int32))])) _
                    exact retI X0 hx Bd.returns (hb hby d1_82) hr
                  · show Q3 Z v h0 n0 _ s₁.heap _
                    rw [e0]
                    unfold Q3
                    rw [hv]
                    exact ⟨rfl, N0, rfl⟩
                · have hv : own_len v = (9 : Int32) := by unfold own_len own_k; rw [if_neg g0, if_neg g1, if_neg g2, if_neg g3, if_neg g4, if_neg g5, if_neg g6, if_neg g7]; rfl
                  obtain ⟨fs, hr, hrun, hended, hW, hsame⟩ := X0.leave (v := some (.int (9 : Int32))) (fun h => by rw [Bd.returns] at h; cases h)
                  refine ⟨_, _, pre0 _ ?_, hrun, hended, _, _, rfl, ?_, ⟨_, rfl⟩, hW, hsame.mono (by decide) (by decide)⟩
                  · show Steps p.tables e below (s₁.setTop (mkF m 0 #[.val (.long v), .second] [])) _
                    refine XS.lloadN X0.here hx rfl (hb hby d1_0) rfl ?_
                    show Steps p.tables e below (s₁.setTop (mkF m 1 #[.val (.long v), .second] [(.long v)])) _
                    refine X0.ldc2Long hx hown (mvT hZ (hw _ (List.mem_of_getElem? (i := 6) rfl))) (g := (mkF m 1 #[.val (.long v), .second] [(.long v)])) rfl (hb hby d1_1) _ ?_
                    show Steps p.tables e below (s₁.setTop (mkF m 4 #[.val (.long v), .second] [(.long (128 : Int64)), (.long v)])) _
                    refine XS.lcmp X0.here hx rfl (hb hby d1_4) rfl ?_
                    show Steps p.tables e below (s₁.setTop (mkF m 5 #[.val (.long v), .second] [(.int (lcmpW v (128 : Int64)))])) _
                    refine XS.ifYes X0.here hx rfl (pc0 := 5) (pc' := 10) rfl (hb hby d1_5) rfl ((if0 _ _).trans (flt (fun q => g0 ((lw_lt _ _).mp q) : ¬ ((lcmpW v (128 : Int64)) < (0 : Int32)))).2.1) (by decide) (by decide) ?_
                    show Steps p.tables e below (s₁.setTop (mkF m 10 #[.val (.long v), .second] [])) _
                    refine XS.lloadN X0.here hx rfl (hb hby d1_10) rfl ?_
                    show Steps p.tables e below (s₁.setTop (mkF m 11 #[.val (.long v), .second] [(.long v)])) _
                    refine X0.ldc2Long hx hown (mvT hZ (hw _ (List.mem_of_getElem? (i := 15) rfl))) (g := (mkF m 11 #[.val (.long v), .second] [(.long v)])) rfl (hb hby d1_11) _ ?_
                    show Steps p.tables e below (s₁.setTop (mkF m 14 #[.val (.long v), .second] [(.long (16384 : Int64)), (.long v)])) _
                    refine XS.lcmp X0.here hx rfl (hb hby d1_14) rfl ?_
                    show Steps p.tables e below (s₁.setTop (mkF m 15 #[.val (.long v), .second] [(.int (lcmpW v (16384 : Int64)))])) _
                    refine XS.ifYes X0.here hx rfl (pc0 := 15) (pc' := 20) rfl (hb hby d1_15) rfl ((if0 _ _).trans (flt (fun q => g1 ((lw_lt _ _).mp q) : ¬ ((lcmpW v (16384 : Int64)) < (0 : Int32)))).2.1) (by decide) (by decide) ?_
                    show Steps p.tables e below (s₁.setTop (mkF m 20 #[.val (.long v), .second] [])) _
                    refine XS.lloadN X0.here hx rfl (hb hby d1_20) rfl ?_
                    show Steps p.tables e below (s₁.setTop (mkF m 21 #[.val (.long v), .second] [(.long v)])) _
                    refine X0.ldc2Long hx hown (mvT hZ (hw _ (List.mem_of_getElem? (i := 16) rfl))) (g := (mkF m 21 #[.val (.long v), .second] [(.long v)])) rfl (hb hby d1_21) _ ?_
                    show Steps p.tables e below (s₁.setTop (mkF m 24 #[.val (.long v), .second] [(.long (2097152 : Int64)), (.long v)])) _
                    refine XS.lcmp X0.here hx rfl (hb hby d1_24) rfl ?_
                    show Steps p.tables e below (s₁.setTop (mkF m 25 #[.val (.long v), .second] [(.int (lcmpW v (2097152 : Int64)))])) _
                    refine XS.ifYes X0.here hx rfl (pc0 := 25) (pc' := 30) rfl (hb hby d1_25) rfl ((if0 _ _).trans (flt (fun q => g2 ((lw_lt _ _).mp q) : ¬ ((lcmpW v (2097152 : Int64)) < (0 : Int32)))).2.1) (by decide) (by decide) ?_
                    show Steps p.tables e below (s₁.setTop (mkF m 30 #[.val (.long v), .second] [])) _
                    refine XS.lloadN X0.here hx rfl (hb hby d1_30) rfl ?_
                    show Steps p.tables e below (s₁.setTop (mkF m 31 #[.val (.long v), .second] [(.long v)])) _
                    refine X0.ldc2Long hx hown (mvT hZ (hw _ (List.mem_of_getElem? (i := 17) rfl))) (g := (mkF m 31 #[.val (.long v), .second] [(.long v)])) rfl (hb hby d1_31) _ ?_
                    show Steps p.tables e below (s₁.setTop (mkF m 34 #[.val (.long v), .second] [(.long (268435456 : Int64)), (.long v)])) _
                    refine XS.lcmp X0.here hx rfl (hb hby d1_34) rfl ?_
                    show Steps p.tables e below (s₁.setTop (mkF m 35 #[.val (.long v), .second] [(.int (lcmpW v (268435456 : Int64)))])) _
                    refine XS.ifYes X0.here hx rfl (pc0 := 35) (pc' := 40) rfl (hb hby d1_35) rfl ((if0 _ _).trans (flt (fun q => g3 ((lw_lt _ _).mp q) : ¬ ((lcmpW v (268435456 : Int64)) < (0 : Int32)))).2.1) (by decide) (by decide) ?_
                    show Steps p.tables e below (s₁.setTop (mkF m 40 #[.val (.long v), .second] [])) _
                    refine XS.lloadN X0.here hx rfl (hb hby d1_40) rfl ?_
                    show Steps p.tables e below (s₁.setTop (mkF m 41 #[.val (.long v), .second] [(.long v)])) _
                    refine X0.ldc2Long hx hown (mvT hZ (hw _ (List.mem_of_getElem? (i := 18) rfl))) (g := (mkF m 41 #[.val (.long v), .second] [(.long v)])) rfl (hb hby d1_41) _ ?_
                    show Steps p.tables e below (s₁.setTop (mkF m 44 #[.val (.long v), .second] [(.long (34359738368 : Int64)), (.long v)])) _
                    refine XS.lcmp X0.here hx rfl (hb hby d1_44) rfl ?_
                    show Steps p.tables e below (s₁.setTop (mkF m 45 #[.val (.long v), .second] [(.int (lcmpW v (34359738368 : Int64)))])) _
                    refine XS.ifYes X0.here hx rfl (pc0 := 45) (pc' := 50) rfl (hb hby d1_45) rfl ((if0 _ _).trans (flt (fun q => g4 ((lw_lt _ _).mp q) : ¬ ((lcmpW v (34359738368 : Int64)) < (0 : Int32)))).2.1) (by decide) (by decide) ?_
                    show Steps p.tables e below (s₁.setTop (mkF m 50 #[.val (.long v), .second] [])) _
                    refine XS.lloadN X0.here hx rfl (hb hby d1_50) rfl ?_
                    show Steps p.tables e below (s₁.setTop (mkF m 51 #[.val (.long v), .second] [(.long v)])) _
                    refine X0.ldc2Long hx hown (mvT hZ (hw _ (List.mem_of_getElem? (i := 22) rfl))) (g := (mkF m 51 #[.val (.long v), .second] [(.long v)])) rfl (hb hby d1_51) _ ?_
                    show Steps p.tables e below (s₁.setTop (mkF m 54 #[.val (.long v), .second] [(.long (4398046511104 : Int64)), (.long v)])) _
                    refine XS.lcmp X0.here hx rfl (hb hby d1_54) rfl ?_
                    show Steps p.tables e below (s₁.setTop (mkF m 55 #[.val (.long v), .second] [(.int (lcmpW v (4398046511104 : Int64)))])) _
                    refine XS.ifYes X0.here hx rfl (pc0 := 55) (pc' := 61) rfl (hb hby d1_55) rfl ((if0 _ _).trans (flt (fun q => g5 ((lw_lt _ _).mp q) : ¬ ((lcmpW v (4398046511104 : Int64)) < (0 : Int32)))).2.1) (by decide) (by decide) ?_
                    show Steps p.tables e below (s₁.setTop (mkF m 61 #[.val (.long v), .second] [])) _
                    refine XS.lloadN X0.here hx rfl (hb hby d1_61) rfl ?_
                    show Steps p.tables e below (s₁.setTop (mkF m 62 #[.val (.long v), .second] [(.long v)])) _
                    refine X0.ldc2Long hx hown (mvT hZ (hw _ (List.mem_of_getElem? (i := 23) rfl))) (g := (mkF m 62 #[.val (.long v), .second] [(.long v)])) rfl (hb hby d1_62) _ ?_
                    show Steps p.tables e below (s₁.setTop (mkF m 65 #[.val (.long v), .second] [(.long (562949953421312 : Int64)), (.long v)])) _
                    refine XS.lcmp X0.here hx rfl (hb hby d1_65) rfl ?_
                    show Steps p.tables e below (s₁.setTop (mkF m 66 #[.val (.long v), .second] [(.int (lcmpW v (562949953421312 : Int64)))])) _
                    refine XS.ifYes X0.here hx rfl (pc0 := 66) (pc' := 72) rfl (hb hby d1_66) rfl ((if0 _ _).trans (flt (fun q => g6 ((lw_lt _ _).mp q) : ¬ ((lcmpW v (562949953421312 : Int64)) < (0 : Int32)))).2.1) (by decide) (by decide) ?_
                    show Steps p.tables e below (s₁.setTop (mkF m 72 #[.val (.long v), .second] [])) _
                    refine XS.lloadN X0.here hx rfl (hb hby d1_72) rfl ?_
                    show Steps p.tables e below (s₁.setTop (mkF m 73 #[.val (.long v), .second] [(.long v)])) _
                    refine X0.ldc2Long hx hown (mvT hZ (hw _ (List.mem_of_getElem? (i := 24) rfl))) (g := (mkF m 73 #[.val (.long v), .second] [(.long v)])) rfl (hb hby d1_73) _ ?_
                    show Steps p.tables e below (s₁.setTop (mkF m 76 #[.val (.long v), .second] [(.long (72057594037927936 : Int64)), (.long v)])) _
                    refine XS.lcmp X0.here hx rfl (hb hby d1_76) rfl ?_
                    show Steps p.tables e below (s₁.setTop (mkF m 77 #[.val (.long v), .second] [(.int (lcmpW v (72057594037927936 : Int64)))])) _
                    refine XS.ifYes X0.here hx rfl (pc0 := 77) (pc' := 83) rfl (hb hby d1_77) rfl ((if0 _ _).trans (flt (fun q => g7 ((lw_lt _ _).mp q) : ¬ ((lcmpW v (72057594037927936 : Int64)) < (0 : Int32)))).2.1) (by decide) (by decide) ?_
                    show Steps p.tables e below (s₁.setTop (mkF m 83 #[.val (.long v), .second] [])) _
                    refine XS.bipush X0.here hx rfl (hb hby d1_83) ?_
                    show Steps p.tables e below (s₁.setTop (mkF m 85 #[.val (.long v), .second] [(.int (9 : Int32))])) _
                    exact retI X0 hx Bd.returns (hb hby d1_85) hr
                  · show Q3 Z v h0 n0 _ s₁.heap _
                    rw [e0]
                    unfold Q3
                    rw [hv]
                    exact ⟨rfl, N0, rfl⟩
set_option maxRecDepth 65536 in
set_option maxHeartbeats 40000000 in
theorem loop1 {p : Program} {l : Launch} {e : Env} {R : Room} {s : State} {m : MethodId} {args : Array Value} {below : List Frame} {meth : Method} {c : Code} {cells slots : Nat} {Z : State} {a0 : Array Value} (b : Addr) (p1 : Int32) (p2 : Int64) (n0 : Nat) (g_b : n0 ≤ b) (hx : p.tables.exec = Jvm.exec) (hZ : Z.Warmed39 s.vm) (hw : ∀ d ∈ tables_1, d.before a0 Z = true) (hby : c.code = prog_41_method_10_code) (hown : s.vm.findClass "com/example/spanlace/spanlace/index/IndexOutput" = some m.cls) :
    ∀ (k a : Nat) (v : Int64) (f : Nat → Value) (T0 : State) (locs : List Loc) (h0 : Heap) (X0 : Stand p l e R s m args below meth c T0 locs cells slots) (e0 : T0.heap = h0) (N0 : Fr n0 locs) (V0 : own_A Z h0 b .byte 13 f) (hak : a + k < 13) (hc : own_c k v),
    ∃ (T' : State) (h' : Heap) (locs' : List Loc) (v' : Int64), Stand p l e R s m args below meth c T' locs' cells slots ∧ T'.heap = h' ∧ Fr n0 locs' ∧ Keep h0 h' [b] ∧ own_A Z h' b .byte 13 (own_f k f a v) ∧
      ∀ target, Steps p.tables e below (T'.setTop (mkF m 57 #[.val (.ref b), .val (.int p1), .val (.long p2), .second, .val (.int (Int32.ofNat (a + k + 1))), .val (.long v'), .second] [])) target → Steps p.tables e below (T0.setTop (mkF m 6 #[.val (.ref b), .val (.int p1), .val (.long p2), .second, .val (.int (Int32.ofNat a)), .val (.long v), .second] [])) target := by
  intro k
  induction k with
  | zero =>
    intro a v f T0 locs h0 X0 e0 N0 V0 hak hc
    obtain ⟨cl, Ar, Sz, Hs⟩ := id V0
    obtain ⟨T1, h1, X1, e1, W1, st1⟩ := stB X0 hx hZ e0 Ar (j := (Int32.ofNat a)) (own_in Sz (own_nn a (by omega)) (own_clamp a (by omega)) (by omega : a < 13)) (g := (mkF m 56 #[.val (.ref b), .val (.int p1), .val (.long p2), .second, .val (.int ((Int32.ofNat a) + (1 : Int32))), .val (.long v), .second] [(.int ((v.toInt32).toInt8.toInt32)), (.int (Int32.ofNat a)), (.ref b)])) rfl rfl (hb hby d2_56)
    have N1 := Fr.snoc X1 N0 g_b
    rw [own_clamp a (by omega), own_nar] at W1
    have V1 := V0.set (by omega : a < 13) W1
    refine ⟨T1, h1, _, v, X1, e1, N1, Keep.of_wr W1, V1, fun target kt => ?_⟩
    show Steps p.tables e below (T0.setTop (mkF m 6 #[.val (.ref b), .val (.int p1), .val (.long p2), .second, .val (.int (Int32.ofNat a)), .val (.long v), .second] [])) _
    refine XS.lload X0.here hx rfl (hb hby d2_6) rfl ?_
    show Steps p.tables e below (T0.setTop (mkF m 8 #[.val (.ref b), .val (.int p1), .val (.long p2), .second, .val (.int (Int32.ofNat a)), .val (.long v), .second] [(.long v)])) _
    refine X0.ldc2Long hx hown (mvT hZ (hw _ (List.mem_of_getElem? (i := 11) rfl))) (g := (mkF m 8 #[.val (.ref b), .val (.int p1), .val (.long p2), .second, .val (.int (Int32.ofNat a)), .val (.long v), .second] [(.long v)])) rfl (hb hby d2_8) _ ?_
    show Steps p.tables e below (T0.setTop (mkF m 11 #[.val (.ref b), .val (.int p1), .val (.long p2), .second, .val (.int (Int32.ofNat a)), .val (.long v), .second] [(.long (-128 : Int64)), (.long v)])) _
    refine XS.land X0.here hx rfl (hb hby d2_11) rfl ?_
    show Steps p.tables e below (T0.setTop (mkF m 12 #[.val (.ref b), .val (.int p1), .val (.long p2), .second, .val (.int (Int32.ofNat a)), .val (.long v), .second] [(.long (v &&& (-128 : Int64)))])) _
    refine XS.lconst X0.here hx rfl (hb hby d2_12) ?_
    show Steps p.tables e below (T0.setTop (mkF m 13 #[.val (.ref b), .val (.int p1), .val (.long p2), .second, .val (.int (Int32.ofNat a)), .val (.long v), .second] [(.long (0 : Int64)), (.long (v &&& (-128 : Int64)))])) _
    refine XS.lcmp X0.here hx rfl (hb hby d2_13) rfl ?_
    show Steps p.tables e below (T0.setTop (mkF m 14 #[.val (.ref b), .val (.int p1), .val (.long p2), .second, .val (.int (Int32.ofNat a)), .val (.long v), .second] [(.int (lcmpW (v &&& (-128 : Int64)) (0 : Int64)))])) _
    refine XS.ifYes X0.here hx rfl (pc0 := 14) (pc' := 46) rfl (hb hby d2_14) rfl ((if0 _ _).trans (teq ((lw_eq _ _).mpr hc : (lcmpW (v &&& (-128 : Int64)) (0 : Int64)) = (0 : Int32))).1) (by decide) (by decide) ?_
    show Steps p.tables e below (T0.setTop (mkF m 46 #[.val (.ref b), .val (.int p1), .val (.long p2), .second, .val (.int (Int32.ofNat a)), .val (.long v), .second] [])) _
    refine XS.aloadN X0.here hx rfl (hb hby d2_46) rfl rfl ?_
    show Steps p.tables e below (T0.setTop (mkF m 47 #[.val (.ref b), .val (.int p1), .val (.long p2), .second, .val (.int (Int32.ofNat a)), .val (.long v), .second] [(.ref b)])) _
    refine XS.iload X0.here hx rfl (hb hby d2_47) rfl ?_
    show Steps p.tables e below (T0.setTop (mkF m 49 #[.val (.ref b), .val (.int p1), .val (.long p2), .second, .val (.int (Int32.ofNat a)), .val (.long v), .second] [(.int (Int32.ofNat a)), (.ref b)])) _
    refine XS.iinc X0.here hx rfl (hb hby d2_49) rfl (l' := #[.val (.ref b), .val (.int p1), .val (.long p2), .second, .val (.int ((Int32.ofNat a) + (1 : Int32))), .val (.long v), .second]) rfl ?_
    show Steps p.tables e below (T0.setTop (mkF m 52 #[.val (.ref b), .val (.int p1), .val (.long p2), .second, .val (.int ((Int32.ofNat a) + (1 : Int32))), .val (.long v), .second] [(.int (Int32.ofNat a)), (.ref b)])) _
    refine XS.lload X0.here hx rfl (hb hby d2_52) rfl ?_
    show Steps p.tables e below (T0.setTop (mkF m 54 #[.val (.ref b), .val (.int p1), .val (.long p2), .second, .val (.int ((Int32.ofNat a) + (1 : Int32))), .val (.long v), .second] [(.long v), (.int (Int32.ofNat a)), (.ref b)])) _
    refine XS.l2i X0.here hx rfl (hb hby d2_54) rfl ?_
    show Steps p.tables e below (T0.setTop (mkF m 55 #[.val (.ref b), .val (.int p1), .val (.long p2), .second, .val (.int ((Int32.ofNat a) + (1 : Int32))), .val (.long v), .second] [(.int (v.toInt32)), (.int (Int32.ofNat a)), (.ref b)])) _
    refine XS.i2b X0.here hx rfl (hb hby d2_55) rfl ?_
    show Steps p.tables e below (T0.setTop (mkF m 56 #[.val (.ref b), .val (.int p1), .val (.long p2), .second, .val (.int ((Int32.ofNat a) + (1 : Int32))), .val (.long v), .second] [(.int ((v.toInt32).toInt8.toInt32)), (.int (Int32.ofNat a)), (.ref b)])) _
    refine st1 _ ?_
    show Steps p.tables e below (T1.setTop (mkF m 57 #[.val (.ref b), .val (.int p1), .val (.long p2), .second, .val (.int ((Int32.ofNat a) + (1 : Int32))), .val (.long v), .second] [])) _
    rw [own_succ]
    exact kt
  | succ k ih =>
    intro a v f T0 locs h0 X0 e0 N0 V0 hak hc
    obtain ⟨cl, Ar, Sz, Hs⟩ := id V0
    obtain ⟨T1, h1, X1, e1, W1, st1⟩ := stB X0 hx hZ e0 Ar (j := (Int32.ofNat a)) (own_in Sz (own_nn a (by omega)) (own_clamp a (by omega)) (by omega : a < 13)) (g := (mkF m 35 #[.val (.ref b), .val (.int p1), .val (.long p2), .second, .val (.int ((Int32.ofNat a) + (1 : Int32))), .val (.long v), .second] [(.int ((((v &&& (127 : Int64)) ||| (128 : Int64)).toInt32).toInt8.toInt32)), (.int (Int32.ofNat a)), (.ref b)])) rfl rfl (hb hby d2_35)
    have N1 := Fr.snoc X1 N0 g_b
    rw [own_clamp a (by omega), own_nar] at W1
    have V1 := V0.set (by omega : a < 13) W1
    obtain ⟨T', h', locs', v', X', e', N', K', V', st'⟩ := ih (a + 1) (own_r v) _ T1 _ h1 X1 e1 N1 V1 (by omega) hc.2
    refine ⟨T', h', locs', v', X', e', N', (Keep.of_wr W1).trans K' (fun x hx => Or.inl hx), V', fun target kt => ?_⟩
    show Steps p.tables e below (T0.setTop (mkF m 6 #[.val (.ref b), .val (.int p1), .val (.long p2), .second, .val (.int (Int32.ofNat a)), .val (.long v), .second] [])) _
    refine XS.lload X0.here hx rfl (hb hby d2_6) rfl ?_
    show Steps p.tables e below (T0.setTop (mkF m 8 #[.val (.ref b), .val (.int p1), .val (.long p2), .second, .val (.int (Int32.ofNat a)), .val (.long v), .second] [(.long v)])) _
    refine X0.ldc2Long hx hown (mvT hZ (hw _ (List.mem_of_getElem? (i := 11) rfl))) (g := (mkF m 8 #[.val (.ref b), .val (.int p1), .val (.long p2), .second, .val (.int (Int32.ofNat a)), .val (.long v), .second] [(.long v)])) rfl (hb hby d2_8) _ ?_
    show Steps p.tables e below (T0.setTop (mkF m 11 #[.val (.ref b), .val (.int p1), .val (.long p2), .second, .val (.int (Int32.ofNat a)), .val (.long v), .second] [(.long (-128 : Int64)), (.long v)])) _
    refine XS.land X0.here hx rfl (hb hby d2_11) rfl ?_
    show Steps p.tables e below (T0.setTop (mkF m 12 #[.val (.ref b), .val (.int p1), .val (.long p2), .second, .val (.int (Int32.ofNat a)), .val (.long v), .second] [(.long (v &&& (-128 : Int64)))])) _
    refine XS.lconst X0.here hx rfl (hb hby d2_12) ?_
    show Steps p.tables e below (T0.setTop (mkF m 13 #[.val (.ref b), .val (.int p1), .val (.long p2), .second, .val (.int (Int32.ofNat a)), .val (.long v), .second] [(.long (0 : Int64)), (.long (v &&& (-128 : Int64)))])) _
    refine XS.lcmp X0.here hx rfl (hb hby d2_13) rfl ?_
    show Steps p.tables e below (T0.setTop (mkF m 14 #[.val (.ref b), .val (.int p1), .val (.long p2), .second, .val (.int (Int32.ofNat a)), .val (.long v), .second] [(.int (lcmpW (v &&& (-128 : Int64)) (0 : Int64)))])) _
    refine XS.ifNo X0.here hx rfl (hb hby d2_14) rfl ((if0 _ _).trans (feq (fun q => hc.1 ((lw_eq _ _).mp q) : ¬ ((lcmpW (v &&& (-128 : Int64)) (0 : Int64)) = (0 : Int32)))).1) ?_
    show Steps p.tables e below (T0.setTop (mkF m 17 #[.val (.ref b), .val (.int p1), .val (.long p2), .second, .val (.int (Int32.ofNat a)), .val (.long v), .second] [])) _
    refine XS.aloadN X0.here hx rfl (hb hby d2_17) rfl rfl ?_
    show Steps p.tables e below (T0.setTop (mkF m 18 #[.val (.ref b), .val (.int p1), .val (.long p2), .second, .val (.int (Int32.ofNat a)), .val (.long v), .second] [(.ref b)])) _
    refine XS.iload X0.here hx rfl (hb hby d2_18) rfl ?_
    show Steps p.tables e below (T0.setTop (mkF m 20 #[.val (.ref b), .val (.int p1), .val (.long p2), .second, .val (.int (Int32.ofNat a)), .val (.long v), .second] [(.int (Int32.ofNat a)), (.ref b)])) _
    refine XS.iinc X0.here hx rfl (hb hby d2_20) rfl (l' := #[.val (.ref b), .val (.int p1), .val (.long p2), .second, .val (.int ((Int32.ofNat a) + (1 : Int32))), .val (.long v), .second]) rfl ?_
    show Steps p.tables e below (T0.setTop (mkF m 23 #[.val (.ref b), .val (.int p1), .val (.long p2), .second, .val (.int ((Int32.ofNat a) + (1 : Int32))), .val (.long v), .second] [(.int (Int32.ofNat a)), (.ref b)])) _
    refine XS.lload X0.here hx rfl (hb hby d2_23) rfl ?_
    show Steps p.tables e below (T0.setTop (mkF m 25 #[.val (.ref b), .val (.int p1), .val (.long p2), .second, .val (.int ((Int32.ofNat a) + (1 : Int32))), .val (.long v), .second] [(.long v), (.int (Int32.ofNat a)), (.ref b)])) _
    refine X0.ldc2Long hx hown (mvT hZ (hw _ (List.mem_of_getElem? (i := 19) rfl))) (g := (mkF m 25 #[.val (.ref b), .val (.int p1), .val (.long p2), .second, .val (.int ((Int32.ofNat a) + (1 : Int32))), .val (.long v), .second] [(.long v), (.int (Int32.ofNat a)), (.ref b)])) rfl (hb hby d2_25) _ ?_
    show Steps p.tables e below (T0.setTop (mkF m 28 #[.val (.ref b), .val (.int p1), .val (.long p2), .second, .val (.int ((Int32.ofNat a) + (1 : Int32))), .val (.long v), .second] [(.long (127 : Int64)), (.long v), (.int (Int32.ofNat a)), (.ref b)])) _
    refine XS.land X0.here hx rfl (hb hby d2_28) rfl ?_
    show Steps p.tables e below (T0.setTop (mkF m 29 #[.val (.ref b), .val (.int p1), .val (.long p2), .second, .val (.int ((Int32.ofNat a) + (1 : Int32))), .val (.long v), .second] [(.long (v &&& (127 : Int64))), (.int (Int32.ofNat a)), (.ref b)])) _
    refine X0.ldc2Long hx hown (mvT hZ (hw _ (List.mem_of_getElem? (i := 20) rfl))) (g := (mkF m 29 #[.val (.ref b), .val (.int p1), .val (.long p2), .second, .val (.int ((Int32.ofNat a) + (1 : Int32))), .val (.long v), .second] [(.long (v &&& (127 : Int64))), (.int (Int32.ofNat a)), (.ref b)])) rfl (hb hby d2_29) _ ?_
    show Steps p.tables e below (T0.setTop (mkF m 32 #[.val (.ref b), .val (.int p1), .val (.long p2), .second, .val (.int ((Int32.ofNat a) + (1 : Int32))), .val (.long v), .second] [(.long (128 : Int64)), (.long (v &&& (127 : Int64))), (.int (Int32.ofNat a)), (.ref b)])) _
    refine XS.lor X0.here hx rfl (hb hby d2_32) rfl ?_
    show Steps p.tables e below (T0.setTop (mkF m 33 #[.val (.ref b), .val (.int p1), .val (.long p2), .second, .val (.int ((Int32.ofNat a) + (1 : Int32))), .val (.long v), .second] [(.long ((v &&& (127 : Int64)) ||| (128 : Int64))), (.int (Int32.ofNat a)), (.ref b)])) _
    refine XS.l2i X0.here hx rfl (hb hby d2_33) rfl ?_
    show Steps p.tables e below (T0.setTop (mkF m 34 #[.val (.ref b), .val (.int p1), .val (.long p2), .second, .val (.int ((Int32.ofNat a) + (1 : Int32))), .val (.long v), .second] [(.int (((v &&& (127 : Int64)) ||| (128 : Int64)).toInt32)), (.int (Int32.ofNat a)), (.ref b)])) _
    refine XS.i2b X0.here hx rfl (hb hby d2_34) rfl ?_
    show Steps p.tables e below (T0.setTop (mkF m 35 #[.val (.ref b), .val (.int p1), .val (.long p2), .second, .val (.int ((Int32.ofNat a) + (1 : Int32))), .val (.long v), .second] [(.int ((((v &&& (127 : Int64)) ||| (128 : Int64)).toInt32).toInt8.toInt32)), (.int (Int32.ofNat a)), (.ref b)])) _
    refine st1 _ ?_
    show Steps p.tables e below (T1.setTop (mkF m 36 #[.val (.ref b), .val (.int p1), .val (.long p2), .second, .val (.int ((Int32.ofNat a) + (1 : Int32))), .val (.long v), .second] [])) _
    refine XS.lload X1.here hx rfl (hb hby d2_36) rfl ?_
    show Steps p.tables e below (T1.setTop (mkF m 38 #[.val (.ref b), .val (.int p1), .val (.long p2), .second, .val (.int ((Int32.ofNat a) + (1 : Int32))), .val (.long v), .second] [(.long v)])) _
    refine XS.bipush X1.here hx rfl (hb hby d2_38) ?_
    show Steps p.tables e below (T1.setTop (mkF m 40 #[.val (.ref b), .val (.int p1), .val (.long p2), .second, .val (.int ((Int32.ofNat a) + (1 : Int32))), .val (.long v), .second] [(.int (7 : Int32)), (.long v)])) _
    refine XS.lushr X1.here hx rfl (hb hby d2_40) rfl ?_
    show Steps p.tables e below (T1.setTop (mkF m 41 #[.val (.ref b), .val (.int p1), .val (.long p2), .second, .val (.int ((Int32.ofNat a) + (1 : Int32))), .val (.long v), .second] [(.long ((v.toUInt64 >>> ((7 : Int32) &&& 0x3f).toInt64.toUInt64).toInt64))])) _
    refine XS.lstore X1.here hx rfl (hb hby d2_41) rfl (l' := #[.val (.ref b), .val (.int p1), .val (.long p2), .second, .val (.int ((Int32.ofNat a) + (1 : Int32))), .val (.long ((v.toUInt64 >>> ((7 : Int32) &&& 0x3f).toInt64.toUInt64).toInt64)), .second]) rfl ?_
    show Steps p.tables e below (T1.setTop (mkF m 43 #[.val (.ref b), .val (.int p1), .val (.long p2), .second, .val (.int ((Int32.ofNat a) + (1 : Int32))), .val (.long ((v.toUInt64 >>> ((7 : Int32) &&& 0x3f).toInt64.toUInt64).toInt64)), .second] [])) _
    refine XS.goto X1.here hx rfl (pc0 := 43) (pc' := 6) rfl (hb hby d2_43) (by decide) (by decide) ?_
    show Steps p.tables e below (T1.setTop (mkF m 6 #[.val (.ref b), .val (.int p1), .val (.long p2), .second, .val (.int ((Int32.ofNat a) + (1 : Int32))), .val (.long ((v.toUInt64 >>> ((7 : Int32) &&& 0x3f).toInt64.toUInt64).toInt64)), .second] [])) _
    rw [own_succ]
    refine st' _ ?_
    rw [show a + 1 + k + 1 = a + (k + 1) + 1 by omega]
    exact kt
theorem ef_2 (m : MethodId) (x0 : Addr) (x1 : Int32) (x2 : Int64) : entryFrame m #[(.ref x0), (.int x1), (.long x2)] 7 = mkF m 0 #[.val (.ref x0), .val (.int x1), .val (.long x2), .second, .unset, .unset, .unset] [] := by first | (simp [entryFrame, mkF, argsToLocals, Value.category]; done) | rfl
theorem pn_2 : plainName "com/example/spanlace/spanlace/index/IndexOutput" = true := by first | (simp [plainName, overriddenIn]; done) | decide +kernel
def Q1 (Z : State) (b : Addr) (i : Int32) (q : Int64) (a : Nat) (k : Nat) (f : Nat → Value) (h0 : Heap) (n0 : Nat) (rv : Option Value) (h : Heap) (Lq : List Loc) : Prop := rv = some (.int (Int32.ofNat (a + k + 1))) ∧ Fr n0 Lq ∧ Keep h0 h [b] ∧ own_A Z h b .byte 13 (own_f k f a q)
set_option maxRecDepth 65536 in
set_option maxHeartbeats 40000000 in
theorem rm1 (l : Launch) (Z : State) (a0 : Array Value) (hw : ∀ d ∈ tables_1, d.before a0 Z = true) (ws : List Jvm.Cond) (b : Addr) (i : Int32) (q : Int64) (a : Nat) (k : Nat) (f : Nat → Value) (h0 : Heap) (n0 : Nat) (Z0 : n0 ≤ h0.size) (V0 : own_A Z h0 b .byte 13 f) (g_b : n0 ≤ b) (hi : i = Int32.ofNat a) (hak : a + k < 13) (hc : own_c k q) :
    MetFree l (⟨"com/example/spanlace/spanlace/index/IndexOutput", "putVLong", "([BIJ)I"⟩ : MethodName) (head1 (Jvm.Cond.code (⟨"com/example/spanlace/spanlace/index/IndexOutput", "putVLong", "([BIJ)I"⟩ : MethodName) prog_41_method_10_code 7 (some .int) :: ws) ({ frames := 0, cells := 0, slots := 0, locals := 0 } : Room)) (fun xx U => xx = #[(.ref b), (.int i), (.long q)] ∧ Z.Warmed39 U.vm ∧ U.heap = h0) (fun _ _ _ _ _ => True) (fun _ U o U' => ∃ rv Lq, o = .returned rv ∧ Q1 Z b i q a k f h0 n0 rv U'.heap Lq ∧ FrameEnd U o U' Lq ({ frames := 0, cells := 0, slots := 0, locals := 0 } : Room).cells ({ frames := 0, cells := 0, slots := 0, locals := 0 } : Room).slots) := by
  refine MetFree.of_bodySF (plainFor_of_name pn_2) hisR ?_
  intro p e s m args below meth c s₁ Bd hml0 hP hK
  obtain ⟨rfl, hZ, hh⟩ := hP
  have hx := Bd.exec
  have hby := Bd.bytes
  have hml : c.maxLocals = 7 := hml0
  have hown : s.vm.findClass "com/example/spanlace/spanlace/index/IndexOutput" = some m.cls := findClass_of_methodNamed Bd.named
  have hnm := (name_of_methodNamed Bd.named Bd.method).1
  have X0 : Stand p l e ({ frames := 0, cells := 0, slots := 0, locals := 0 } : Room) s m #[(.ref b), (.int i), (.long q)] below meth c s₁ [] 0 0 := Stand.of_body Bd
  have e0 : s₁.heap = h0 := by rw [← hh, Bd.state]; rfl
  have N0 := Fr.nil n0
  have pre0 : ∀ t, Steps p.tables e below (s₁.setTop (mkF m 0 #[.val (.ref b), .val (.int i), .val (.long q), .second, .unset, .unset, .unset] [])) t → Steps p.tables e below (s₁.setTop (entryFrame m #[(.ref b), (.int i), (.long q)] 7)) t := fun t k => castTop (ef_2 m b i q) k
  obtain ⟨TL, hL, locsL, vL, XL, eL, NL, KL, VL, stL⟩ := loop1 b i q n0 g_b hx hZ hw hby hown k a q f s₁ [] h0 X0 e0 N0 V0 hak hc
  obtain ⟨fs, hr, hrun, hended, hW, hsame⟩ := XL.leave (v := some (.int (Int32.ofNat (a + k + 1)))) (fun h => by rw [Bd.returns] at h; cases h)
  refine ⟨_, _, pre0 _ ?_, hrun, hended, _, _, rfl, ?_, ⟨_, rfl⟩, hW, hsame.mono (by decide) (by decide)⟩
  · show Steps p.tables e below (s₁.setTop (mkF m 0 #[.val (.ref b), .val (.int i), .val (.long q), .second, .unset, .unset, .unset] [])) _
    refine XS.iloadN X0.here hx rfl (hb hby d2_0) rfl ?_
    show Steps p.tables e below (s₁.setTop (mkF m 1 #[.val (.ref b), .val (.int i), .val (.long q), .second, .unset, .unset, .unset] [(.int i)])) _
    refine XS.istore X0.here hx rfl (hb hby d2_1) rfl (l' := #[.val (.ref b), .val (.int i), .val (.long q), .second, .val (.int i), .unset, .unset]) rfl ?_
    show Steps p.tables e below (s₁.setTop (mkF m 3 #[.val (.ref b), .val (.int i), .val (.long q), .second, .val (.int i), .unset, .unset] [])) _
    refine XS.lloadN X0.here hx rfl (hb hby d2_3) rfl ?_
    show Steps p.tables e below (s₁.setTop (mkF m 4 #[.val (.ref b), .val (.int i), .val (.long q), .second, .val (.int i), .unset, .unset] [(.long q)])) _
    refine XS.lstore X0.here hx rfl (hb hby d2_4) rfl (l' := #[.val (.ref b), .val (.int i), .val (.long q), .second, .val (.int i), .val (.long q), .second]) rfl ?_
    show Steps p.tables e below (s₁.setTop (mkF m 6 #[.val (.ref b), .val (.int i), .val (.long q), .second, .val (.int i), .val (.long q), .second] [])) _
    have hst : ∀ z : Int32, z = Int32.ofNat a → Steps p.tables e below (s₁.setTop (mkF m 6 #[.val (.ref b), .val (.int i), .val (.long q), .second, .val (.int z), .val (.long q), .second] [])) (TL.setFrames fs) := fun z hz => by
      subst hz
      refine stL _ ?_
      show Steps p.tables e below (TL.setTop (mkF m 57 #[.val (.ref b), .val (.int i), .val (.long q), .second, .val (.int (Int32.ofNat (a + k + 1))), .val (.long vL), .second] [])) _
      refine XS.iload XL.here hx rfl (hb hby d2_57) rfl ?_
      show Steps p.tables e below (TL.setTop (mkF m 59 #[.val (.ref b), .val (.int i), .val (.long q), .second, .val (.int (Int32.ofNat (a + k + 1))), .val (.long vL), .second] [(.int (Int32.ofNat (a + k + 1)))])) _
      exact retI XL hx Bd.returns (hb hby d2_59) hr
    exact hst i hi
  · show Q1 Z b i q a k f h0 n0 _ TL.heap _
    rw [eL]
    exact ⟨rfl, NL, KL, VL⟩
theorem ef_3 (m : MethodId) (x0 : Addr) (x1 : Int32) (x2 : Int32) (x3 : Int32) (x4 : Int64) (x5 : Int32) : entryFrame m #[(.ref x0), (.int x1), (.int x2), (.int x3), (.long x4), (.int x5)] 9 = mkF m 0 #[.val (.ref x0), .val (.int x1), .val (.int x2), .val (.int x3), .val (.long x4), .second, .val (.int x5), .unset, .unset] [] := by first | (simp [entryFrame, mkF, argsToLocals, Value.category]; done) | rfl
theorem pn_3 : plainName "com/example/spanlace/spanlace/index/IndexOutputPutVLongPinLaw" = true := by first | (simp [plainName, overriddenIn]; done) | decide +kernel
def Q2 (Z : State) (b : Addr) (j : Int32) (a : Int32) (n : Int32) (v : Int64) (fl : Int32) (f : Nat → Value) (h0 : Heap) (n0 : Nat) (rv : Option Value) (h : Heap) (Lq : List Loc) : Prop := rv = some (.int (1 : Int32)) ∧ Fr n0 Lq ∧ h = h0
set_option maxRecDepth 65536 in
set_option maxHeartbeats 40000000 in
theorem rm2 (l : Launch) (Z : State) (a0 : Array Value) (hw : ∀ d ∈ tables_1, d.before a0 Z = true) (ws : List Jvm.Cond) (b : Addr) (j : Int32) (a : Int32) (n : Int32) (v : Int64) (fl : Int32) (f : Nat → Value) (h0 : Heap) (n0 : Nat) (Z0 : n0 ≤ h0.size) (V0 : own_A Z h0 b .byte 13 f) (hj0 : ¬ j < 0) (hj1 : j.toNatClampNeg < 13) (hat : f j.toNatClampNeg = .int (own_want j a n v fl)) :
    MetFree l (⟨"com/example/spanlace/spanlace/index/IndexOutputPutVLongPinLaw", "cell", "([BIIIJB)Z"⟩ : MethodName) (head1 (Jvm.Cond.code (⟨"com/example/spanlace/spanlace/index/IndexOutputPutVLongPinLaw", "cell", "([BIIIJB)Z"⟩ : MethodName) method_4_code 9 (some .boolean) :: ws) ({ frames := 0, cells := 0, slots := 0, locals := 0 } : Room)) (fun xx U => xx = #[(.ref b), (.int j), (.int a), (.int n), (.long v), (.int fl)] ∧ Z.Warmed39 U.vm ∧ U.heap = h0) (fun _ _ _ _ _ => True) (fun _ U o U' => ∃ rv Lq, o = .returned rv ∧ Q2 Z b j a n v fl f h0 n0 rv U'.heap Lq ∧ FrameEnd U o U' Lq ({ frames := 0, cells := 0, slots := 0, locals := 0 } : Room).cells ({ frames := 0, cells := 0, slots := 0, locals := 0 } : Room).slots) := by
  refine MetFree.of_bodySF (plainFor_of_name pn_3) hisR ?_
  intro p e s m args below meth c s₁ Bd hml0 hP hK
  obtain ⟨rfl, hZ, hh⟩ := hP
  have hx := Bd.exec
  have hby := Bd.bytes
  have hml : c.maxLocals = 9 := hml0
  have hown : s.vm.findClass "com/example/spanlace/spanlace/index/IndexOutputPutVLongPinLaw" = some m.cls := findClass_of_methodNamed Bd.named
  have hnm := (name_of_methodNamed Bd.named Bd.method).1
  have X0 : Stand p l e ({ frames := 0, cells := 0, slots := 0, locals := 0 } : Room) s m #[(.ref b), (.int j), (.int a), (.int n), (.long v), (.int fl)] below meth c s₁ [] 0 0 := Stand.of_body Bd
  have e0 : s₁.heap = h0 := by rw [← hh, Bd.state]; rfl
  have N0 := Fr.nil n0
  have pre0 : ∀ t, Steps p.tables e below (s₁.setTop (mkF m 0 #[.val (.ref b), .val (.int j), .val (.int a), .val (.int n), .val (.long v), .second, .val (.int fl), .unset, .unset] [])) t → Steps p.tables e below (s₁.setTop (entryFrame m #[(.ref b), (.int j), (.int a), (.int n), (.long v), (.int fl)] 9)) t := fun t k => castTop (ef_3 m b j a n v fl) k
  obtain ⟨cl, Ar, Sz, Hs⟩ := V0
  by_cases h1 : (j - a) < (0 : Int32)
  · have hv : own_want j a n v fl = fl := by unfold own_want; rw [if_pos h1]
    obtain ⟨fs, hr, hrun, hended, hW, hsame⟩ := X0.leave (v := some (.int (1 : Int32))) (fun h => by rw [Bd.returns] at h; cases h)
    refine ⟨_, _, pre0 _ ?_, hrun, hended, _, _, rfl, ?_, ⟨_, rfl⟩, hW, hsame.mono (by decide) (by decide)⟩
    · show Steps p.tables e below (s₁.setTop (mkF m 0 #[.val (.ref b), .val (.int j), .val (.int a), .val (.int n), .val (.long v), .second, .val (.int fl), .unset, .unset] [])) _
      refine XS.iloadN X0.here hx rfl (hb hby d3_0) rfl ?_
      show Steps p.tables e below (s₁.setTop (mkF m 1 #[.val (.ref b), .val (.int j), .val (.int a), .val (.int n), .val (.long v), .second, .val (.int fl), .unset, .unset] [(.int j)])) _
      refine XS.iloadN X0.here hx rfl (hb hby d3_1) rfl ?_
      show Steps p.tables e below (s₁.setTop (mkF m 2 #[.val (.ref b), .val (.int j), .val (.int a), .val (.int n), .val (.long v), .second, .val (.int fl), .unset, .unset] [(.int a), (.int j)])) _
      refine XS.isub X0.here hx rfl (hb hby d3_2) rfl ?_
      show Steps p.tables e below (s₁.setTop (mkF m 3 #[.val (.ref b), .val (.int j), .val (.int a), .val (.int n), .val (.long v), .second, .val (.int fl), .unset, .unset] [(.int (j - a))])) _
      refine XS.istore X0.here hx rfl (hb hby d3_3) rfl (l' := #[.val (.ref b), .val (.int j), .val (.int a), .val (.int n), .val (.long v), .second, .val (.int fl), .val (.int (j - a)), .unset]) rfl ?_
      show Steps p.tables e below (s₁.setTop (mkF m 5 #[.val (.ref b), .val (.int j), .val (.int a), .val (.int n), .val (.long v), .second, .val (.int fl), .val (.int (j - a)), .unset] [])) _
      refine XS.iload X0.here hx rfl (hb hby d3_5) rfl ?_
      show Steps p.tables e below (s₁.setTop (mkF m 7 #[.val (.ref b), .val (.int j), .val (.int a), .val (.int n), .val (.long v), .second, .val (.int fl), .val (.int (j - a)), .unset] [(.int (j - a))])) _
      refine XS.ifYes X0.here hx rfl (pc0 := 7) (pc' := 16) rfl (hb hby d3_7) rfl ((if0 _ _).trans (tlt (h1 : (j - a) < (0 : Int32))).1) (by decide) (by decide) ?_
      show Steps p.tables e below (s₁.setTop (mkF m 16 #[.val (.ref b), .val (.int j), .val (.int a), .val (.int n), .val (.long v), .second, .val (.int fl), .val (.int (j - a)), .unset] [])) _
      refine XS.iload X0.here hx rfl (hb hby d3_16) rfl ?_
      show Steps p.tables e below (s₁.setTop (mkF m 18 #[.val (.ref b), .val (.int j), .val (.int a), .val (.int n), .val (.long v), .second, .val (.int fl), .val (.int (j - a)), .unset] [(.int fl)])) _
      refine XS.istore X0.here hx rfl (hb hby d3_18) rfl (l' := #[.val (.ref b), .val (.int j), .val (.int a), .val (.int n), .val (.long v), .second, .val (.int fl), .val (.int (j - a)), .val (.int fl)]) rfl ?_
      show Steps p.tables e below (s₁.setTop (mkF m 20 #[.val (.ref b), .val (.int j), .val (.int a), .val (.int n), .val (.long v), .second, .val (.int fl), .val (.int (j - a)), .val (.int fl)] [])) _
      refine XS.goto X0.here hx rfl (pc0 := 20) (pc' := 66) rfl (hb hby d3_20) (by decide) (by decide) ?_
      show Steps p.tables e below (s₁.setTop (mkF m 66 #[.val (.ref b), .val (.int j), .val (.int a), .val (.int n), .val (.long v), .second, .val (.int fl), .val (.int (j - a)), .val (.int fl)] [])) _
      refine XS.aloadN X0.here hx rfl (hb hby d3_66) rfl rfl ?_
      show Steps p.tables e below (s₁.setTop (mkF m 67 #[.val (.ref b), .val (.int j), .val (.int a), .val (.int n), .val (.long v), .second, .val (.int fl), .val (.int (j - a)), .val (.int fl)] [(.ref b)])) _
      refine XS.iloadN X0.here hx rfl (hb hby d3_67) rfl ?_
      show Steps p.tables e below (s₁.setTop (mkF m 68 #[.val (.ref b), .val (.int j), .val (.int a), .val (.int n), .val (.long v), .second, .val (.int fl), .val (.int (j - a)), .val (.int fl)] [(.int j), (.ref b)])) _
      refine X0.baloadBytes hx (j := j) (v := (.int fl)) (by rw [e0]; exact Ar.1) (State.isArrayOf_alike hZ.alike Ar.2.1) Ar.2.2 (own_in Sz hj0 rfl hj1) ((Hs _ hj1).trans (congrArg some (hat.trans (congrArg Value.int hv)))) (g := (mkF m 68 #[.val (.ref b), .val (.int j), .val (.int a), .val (.int n), .val (.long v), .second, .val (.int fl), .val (.int (j - a)), .val (.int fl)] [(.int j), (.ref b)])) rfl rfl (hb hby d3_68) _ ?_
      show Steps p.tables e below (s₁.setTop (mkF m 69 #[.val (.ref b), .val (.int j), .val (.int a), .val (.int n), .val (.long v), .second, .val (.int fl), .val (.int (j - a)), .val (.int fl)] [(.int fl)])) _
      refine XS.iload X0.here hx rfl (hb hby d3_69) rfl ?_
      show Steps p.tables e below (s₁.setTop (mkF m 71 #[.val (.ref b), .val (.int j), .val (.int a), .val (.int n), .val (.long v), .second, .val (.int fl), .val (.int (j - a)), .val (.int fl)] [(.int fl), (.int fl)])) _
      refine XS.icmpNo X0.here hx rfl (hb hby d3_71) rfl (teq (rfl : fl = fl)).2 ?_
      show Steps p.tables e below (s₁.setTop (mkF m 74 #[.val (.ref b), .val (.int j), .val (.int a), .val (.int n), .val (.long v), .second, .val (.int fl), .val (.int (j - a)), .val (.int fl)] [])) _
      refine XS.iconst X0.here hx rfl (hb hby d3_74) ?_
      show Steps p.tables e below (s₁.setTop (mkF m 75 #[.val (.ref b), .val (.int j), .val (.int a), .val (.int n), .val (.long v), .second, .val (.int fl), .val (.int (j - a)), .val (.int fl)] [(.int (1 : Int32))])) _
      refine XS.goto X0.here hx rfl (pc0 := 75) (pc' := 79) rfl (hb hby d3_75) (by decide) (by decide) ?_
      show Steps p.tables e below (s₁.setTop (mkF m 79 #[.val (.ref b), .val (.int j), .val (.int a), .val (.int n), .val (.long v), .second, .val (.int fl), .val (.int (j - a)), .val (.int fl)] [(.int (1 : Int32))])) _
      exact retN X0 hx (t := .boolean) Bd.returns (by simp) (hb hby d3_79) hr
    · show Q2 Z b j a n v fl f h0 n0 _ s₁.heap _
      rw [e0]
      exact ⟨rfl, N0, rfl⟩
  · by_cases h2 : (j - a) < n
    · by_cases h3 : (j - a) < (n - (1 : Int32))
      · have hv : own_want j a n v fl = (((((v.toUInt64 >>> (((7 : Int32) * (j - a)) &&& 0x3f).toInt64.toUInt64).toInt64) &&& (127 : Int64)) ||| (128 : Int64)).toInt32.toInt8.toInt32) := by unfold own_want; rw [if_neg h1, if_pos h2, if_pos h3]
        obtain ⟨fs, hr, hrun, hended, hW, hsame⟩ := X0.leave (v := some (.int (1 : Int32))) (fun h => by rw [Bd.returns] at h; cases h)
        refine ⟨_, _, pre0 _ ?_, hrun, hended, _, _, rfl, ?_, ⟨_, rfl⟩, hW, hsame.mono (by decide) (by decide)⟩
        · show Steps p.tables e below (s₁.setTop (mkF m 0 #[.val (.ref b), .val (.int j), .val (.int a), .val (.int n), .val (.long v), .second, .val (.int fl), .unset, .unset] [])) _
          refine XS.iloadN X0.here hx rfl (hb hby d3_0) rfl ?_
          show Steps p.tables e below (s₁.setTop (mkF m 1 #[.val (.ref b), .val (.int j), .val (.int a), .val (.int n), .val (.long v), .second, .val (.int fl), .unset, .unset] [(.int j)])) _
          refine XS.iloadN X0.here hx rfl (hb hby d3_1) rfl ?_
          show Steps p.tables e below (s₁.setTop (mkF m 2 #[.val (.ref b), .val (.int j), .val (.int a), .val (.int n), .val (.long v), .second, .val (.int fl), .unset, .unset] [(.int a), (.int j)])) _
          refine XS.isub X0.here hx rfl (hb hby d3_2) rfl ?_
          show Steps p.tables e below (s₁.setTop (mkF m 3 #[.val (.ref b), .val (.int j), .val (.int a), .val (.int n), .val (.long v), .second, .val (.int fl), .unset, .unset] [(.int (j - a))])) _
          refine XS.istore X0.here hx rfl (hb hby d3_3) rfl (l' := #[.val (.ref b), .val (.int j), .val (.int a), .val (.int n), .val (.long v), .second, .val (.int fl), .val (.int (j - a)), .unset]) rfl ?_
          show Steps p.tables e below (s₁.setTop (mkF m 5 #[.val (.ref b), .val (.int j), .val (.int a), .val (.int n), .val (.long v), .second, .val (.int fl), .val (.int (j - a)), .unset] [])) _
          refine XS.iload X0.here hx rfl (hb hby d3_5) rfl ?_
          show Steps p.tables e below (s₁.setTop (mkF m 7 #[.val (.ref b), .val (.int j), .val (.int a), .val (.int n), .val (.long v), .second, .val (.int fl), .val (.int (j - a)), .unset] [(.int (j - a))])) _
          refine XS.ifNo X0.here hx rfl (hb hby d3_7) rfl ((if0 _ _).trans (flt (h1 : ¬ ((j - a) < (0 : Int32)))).1) ?_
          show Steps p.tables e below (s₁.setTop (mkF m 10 #[.val (.ref b), .val (.int j), .val (.int a), .val (.int n), .val (.long v), .second, .val (.int fl), .val (.int (j - a)), .unset] [])) _
          refine XS.iload X0.here hx rfl (hb hby d3_10) rfl ?_
          show Steps p.tables e below (s₁.setTop (mkF m 12 #[.val (.ref b), .val (.int j), .val (.int a), .val (.int n), .val (.long v), .second, .val (.int fl), .val (.int (j - a)), .unset] [(.int (j - a))])) _
          refine XS.iloadN X0.here hx rfl (hb hby d3_12) rfl ?_
          show Steps p.tables e below (s₁.setTop (mkF m 13 #[.val (.ref b), .val (.int j), .val (.int a), .val (.int n), .val (.long v), .second, .val (.int fl), .val (.int (j - a)), .unset] [(.int n), (.int (j - a))])) _
          refine XS.icmpYes X0.here hx rfl (pc0 := 13) (pc' := 23) rfl (hb hby d3_13) rfl (tlt (h2 : (j - a) < n)).1 (by decide) (by decide) ?_
          show Steps p.tables e below (s₁.setTop (mkF m 23 #[.val (.ref b), .val (.int j), .val (.int a), .val (.int n), .val (.long v), .second, .val (.int fl), .val (.int (j - a)), .unset] [])) _
          refine XS.iload X0.here hx rfl (hb hby d3_23) rfl ?_
          show Steps p.tables e below (s₁.setTop (mkF m 25 #[.val (.ref b), .val (.int j), .val (.int a), .val (.int n), .val (.long v), .second, .val (.int fl), .val (.int (j - a)), .unset] [(.int (j - a))])) _
          refine XS.iloadN X0.here hx rfl (hb hby d3_25) rfl ?_
          show Steps p.tables e below (s₁.setTop (mkF m 26 #[.val (.ref b), .val (.int j), .val (.int a), .val (.int n), .val (.long v), .second, .val (.int fl), .val (.int (j - a)), .unset] [(.int n), (.int (j - a))])) _
          refine XS.iconst X0.here hx rfl (hb hby d3_26) ?_
          show Steps p.tables e below (s₁.setTop (mkF m 27 #[.val (.ref b), .val (.int j), .val (.int a), .val (.int n), .val (.long v), .second, .val (.int fl), .val (.int (j - a)), .unset] [(.int (1 : Int32)), (.int n), (.int (j - a))])) _
          refine XS.isub X0.here hx rfl (hb hby d3_27) rfl ?_
          show Steps p.tables e below (s₁.setTop (mkF m 28 #[.val (.ref b), .val (.int j), .val (.int a), .val (.int n), .val (.long v), .second, .val (.int fl), .val (.int (j - a)), .unset] [(.int (n - (1 : Int32))), (.int (j - a))])) _
          refine XS.icmpNo X0.here hx rfl (hb hby d3_28) rfl (tlt (h3 : (j - a) < (n - (1 : Int32)))).2.1 ?_
          show Steps p.tables e below (s₁.setTop (mkF m 31 #[.val (.ref b), .val (.int j), .val (.int a), .val (.int n), .val (.long v), .second, .val (.int fl), .val (.int (j - a)), .unset] [])) _
          refine XS.lload X0.here hx rfl (hb hby d3_31) rfl ?_
          show Steps p.tables e below (s₁.setTop (mkF m 33 #[.val (.ref b), .val (.int j), .val (.int a), .val (.int n), .val (.long v), .second, .val (.int fl), .val (.int (j - a)), .unset] [(.long v)])) _
          refine XS.bipush X0.here hx rfl (hb hby d3_33) ?_
          show Steps p.tables e below (s₁.setTop (mkF m 35 #[.val (.ref b), .val (.int j), .val (.int a), .val (.int n), .val (.long v), .second, .val (.int fl), .val (.int (j - a)), .unset] [(.int (7 : Int32)), (.long v)])) _
          refine XS.iload X0.here hx rfl (hb hby d3_35) rfl ?_
          show Steps p.tables e below (s₁.setTop (mkF m 37 #[.val (.ref b), .val (.int j), .val (.int a), .val (.int n), .val (.long v), .second, .val (.int fl), .val (.int (j - a)), .unset] [(.int (j - a)), (.int (7 : Int32)), (.long v)])) _
          refine XS.imul X0.here hx rfl (hb hby d3_37) rfl ?_
          show Steps p.tables e below (s₁.setTop (mkF m 38 #[.val (.ref b), .val (.int j), .val (.int a), .val (.int n), .val (.long v), .second, .val (.int fl), .val (.int (j - a)), .unset] [(.int ((7 : Int32) * (j - a))), (.long v)])) _
          refine XS.lushr X0.here hx rfl (hb hby d3_38) rfl ?_
          show Steps p.tables e below (s₁.setTop (mkF m 39 #[.val (.ref b), .val (.int j), .val (.int a), .val (.int n), .val (.long v), .second, .val (.int fl), .val (.int (j - a)), .unset] [(.long ((v.toUInt64 >>> (((7 : Int32) * (j - a)) &&& 0x3f).toInt64.toUInt64).toInt64))])) _
          refine X0.ldc2Long hx hown (mvT hZ (hw _ (List.mem_of_getElem? (i := 21) rfl))) (g := (mkF m 39 #[.val (.ref b), .val (.int j), .val (.int a), .val (.int n), .val (.long v), .second, .val (.int fl), .val (.int (j - a)), .unset] [(.long ((v.toUInt64 >>> (((7 : Int32) * (j - a)) &&& 0x3f).toInt64.toUInt64).toInt64))])) rfl (hb hby d3_39) _ ?_
          show Steps p.tables e below (s₁.setTop (mkF m 42 #[.val (.ref b), .val (.int j), .val (.int a), .val (.int n), .val (.long v), .second, .val (.int fl), .val (.int (j - a)), .unset] [(.long (127 : Int64)), (.long ((v.toUInt64 >>> (((7 : Int32) * (j - a)) &&& 0x3f).toInt64.toUInt64).toInt64))])) _
          refine XS.land X0.here hx rfl (hb hby d3_42) rfl ?_
          show Steps p.tables e below (s₁.setTop (mkF m 43 #[.val (.ref b), .val (.int j), .val (.int a), .val (.int n), .val (.long v), .second, .val (.int fl), .val (.int (j - a)), .unset] [(.long (((v.toUInt64 >>> (((7 : Int32) * (j - a)) &&& 0x3f).toInt64.toUInt64).toInt64) &&& (127 : Int64)))])) _
          refine X0.ldc2Long hx hown (mvT hZ (hw _ (List.mem_of_getElem? (i := 6) rfl))) (g := (mkF m 43 #[.val (.ref b), .val (.int j), .val (.int a), .val (.int n), .val (.long v), .second, .val (.int fl), .val (.int (j - a)), .unset] [(.long (((v.toUInt64 >>> (((7 : Int32) * (j - a)) &&& 0x3f).toInt64.toUInt64).toInt64) &&& (127 : Int64)))])) rfl (hb hby d3_43) _ ?_
          show Steps p.tables e below (s₁.setTop (mkF m 46 #[.val (.ref b), .val (.int j), .val (.int a), .val (.int n), .val (.long v), .second, .val (.int fl), .val (.int (j - a)), .unset] [(.long (128 : Int64)), (.long (((v.toUInt64 >>> (((7 : Int32) * (j - a)) &&& 0x3f).toInt64.toUInt64).toInt64) &&& (127 : Int64)))])) _
          refine XS.lor X0.here hx rfl (hb hby d3_46) rfl ?_
          show Steps p.tables e below (s₁.setTop (mkF m 47 #[.val (.ref b), .val (.int j), .val (.int a), .val (.int n), .val (.long v), .second, .val (.int fl), .val (.int (j - a)), .unset] [(.long ((((v.toUInt64 >>> (((7 : Int32) * (j - a)) &&& 0x3f).toInt64.toUInt64).toInt64) &&& (127 : Int64)) ||| (128 : Int64)))])) _
          refine XS.l2i X0.here hx rfl (hb hby d3_47) rfl ?_
          show Steps p.tables e below (s₁.setTop (mkF m 48 #[.val (.ref b), .val (.int j), .val (.int a), .val (.int n), .val (.long v), .second, .val (.int fl), .val (.int (j - a)), .unset] [(.int (((((v.toUInt64 >>> (((7 : Int32) * (j - a)) &&& 0x3f).toInt64.toUInt64).toInt64) &&& (127 : Int64)) ||| (128 : Int64)).toInt32))])) _
          refine XS.i2b X0.here hx rfl (hb hby d3_48) rfl ?_
          show Steps p.tables e below (s₁.setTop (mkF m 49 #[.val (.ref b), .val (.int j), .val (.int a), .val (.int n), .val (.long v), .second, .val (.int fl), .val (.int (j - a)), .unset] [(.int ((((((v.toUInt64 >>> (((7 : Int32) * (j - a)) &&& 0x3f).toInt64.toUInt64).toInt64) &&& (127 : Int64)) ||| (128 : Int64)).toInt32).toInt8.toInt32))])) _
          refine XS.istore X0.here hx rfl (hb hby d3_49) rfl (l' := #[.val (.ref b), .val (.int j), .val (.int a), .val (.int n), .val (.long v), .second, .val (.int fl), .val (.int (j - a)), .val (.int ((((((v.toUInt64 >>> (((7 : Int32) * (j - a)) &&& 0x3f).toInt64.toUInt64).toInt64) &&& (127 : Int64)) ||| (128 : Int64)).toInt32).toInt8.toInt32))]) rfl ?_
          show Steps p.tables e below (s₁.setTop (mkF m 51 #[.val (.ref b), .val (.int j), .val (.int a), .val (.int n), .val (.long v), .second, .val (.int fl), .val (.int (j - a)), .val (.int ((((((v.toUInt64 >>> (((7 : Int32) * (j - a)) &&& 0x3f).toInt64.toUInt64).toInt64) &&& (127 : Int64)) ||| (128 : Int64)).toInt32).toInt8.toInt32))] [])) _
          refine XS.goto X0.here hx rfl (pc0 := 51) (pc' := 66) rfl (hb hby d3_51) (by decide) (by decide) ?_
          show Steps p.tables e below (s₁.setTop (mkF m 66 #[.val (.ref b), .val (.int j), .val (.int a), .val (.int n), .val (.long v), .second, .val (.int fl), .val (.int (j - a)), .val (.int ((((((v.toUInt64 >>> (((7 : Int32) * (j - a)) &&& 0x3f).toInt64.toUInt64).toInt64) &&& (127 : Int64)) ||| (128 : Int64)).toInt32).toInt8.toInt32))] [])) _
          refine XS.aloadN X0.here hx rfl (hb hby d3_66) rfl rfl ?_
          show Steps p.tables e below (s₁.setTop (mkF m 67 #[.val (.ref b), .val (.int j), .val (.int a), .val (.int n), .val (.long v), .second, .val (.int fl), .val (.int (j - a)), .val (.int ((((((v.toUInt64 >>> (((7 : Int32) * (j - a)) &&& 0x3f).toInt64.toUInt64).toInt64) &&& (127 : Int64)) ||| (128 : Int64)).toInt32).toInt8.toInt32))] [(.ref b)])) _
          refine XS.iloadN X0.here hx rfl (hb hby d3_67) rfl ?_
          show Steps p.tables e below (s₁.setTop (mkF m 68 #[.val (.ref b), .val (.int j), .val (.int a), .val (.int n), .val (.long v), .second, .val (.int fl), .val (.int (j - a)), .val (.int ((((((v.toUInt64 >>> (((7 : Int32) * (j - a)) &&& 0x3f).toInt64.toUInt64).toInt64) &&& (127 : Int64)) ||| (128 : Int64)).toInt32).toInt8.toInt32))] [(.int j), (.ref b)])) _
          refine X0.baloadBytes hx (j := j) (v := (.int (((((v.toUInt64 >>> (((7 : Int32) * (j - a)) &&& 0x3f).toInt64.toUInt64).toInt64) &&& (127 : Int64)) ||| (128 : Int64)).toInt32.toInt8.toInt32))) (by rw [e0]; exact Ar.1) (State.isArrayOf_alike hZ.alike Ar.2.1) Ar.2.2 (own_in Sz hj0 rfl hj1) ((Hs _ hj1).trans (congrArg some (hat.trans (congrArg Value.int hv)))) (g := (mkF m 68 #[.val (.ref b), .val (.int j), .val (.int a), .val (.int n), .val (.long v), .second, .val (.int fl), .val (.int (j - a)), .val (.int ((((((v.toUInt64 >>> (((7 : Int32) * (j - a)) &&& 0x3f).toInt64.toUInt64).toInt64) &&& (127 : Int64)) ||| (128 : Int64)).toInt32).toInt8.toInt32))] [(.int j), (.ref b)])) rfl rfl (hb hby d3_68) _ ?_
          show Steps p.tables e below (s₁.setTop (mkF m 69 #[.val (.ref b), .val (.int j), .val (.int a), .val (.int n), .val (.long v), .second, .val (.int fl), .val (.int (j - a)), .val (.int ((((((v.toUInt64 >>> (((7 : Int32) * (j - a)) &&& 0x3f).toInt64.toUInt64).toInt64) &&& (127 : Int64)) ||| (128 : Int64)).toInt32).toInt8.toInt32))] [(.int (((((v.toUInt64 >>> (((7 : Int32) * (j - a)) &&& 0x3f).toInt64.toUInt64).toInt64) &&& (127 : Int64)) ||| (128 : Int64)).toInt32.toInt8.toInt32))])) _
          refine XS.iload X0.here hx rfl (hb hby d3_69) rfl ?_
          show Steps p.tables e below (s₁.setTop (mkF m 71 #[.val (.ref b), .val (.int j), .val (.int a), .val (.int n), .val (.long v), .second, .val (.int fl), .val (.int (j - a)), .val (.int ((((((v.toUInt64 >>> (((7 : Int32) * (j - a)) &&& 0x3f).toInt64.toUInt64).toInt64) &&& (127 : Int64)) ||| (128 : Int64)).toInt32).toInt8.toInt32))] [(.int ((((((v.toUInt64 >>> (((7 : Int32) * (j - a)) &&& 0x3f).toInt64.toUInt64).toInt64) &&& (127 : Int64)) ||| (128 : Int64)).toInt32).toInt8.toInt32)), (.int (((((v.toUInt64 >>> (((7 : Int32) * (j - a)) &&& 0x3f).toInt64.toUInt64).toInt64) &&& (127 : Int64)) ||| (128 : Int64)).toInt32.toInt8.toInt32))])) _
          refine XS.icmpNo X0.here hx rfl (hb hby d3_71) rfl (teq (rfl : (((((v.toUInt64 >>> (((7 : Int32) * (j - a)) &&& 0x3f).toInt64.toUInt64).toInt64) &&& (127 : Int64)) ||| (128 : Int64)).toInt32.toInt8.toInt32) = ((((((v.toUInt64 >>> (((7 : Int32) * (j - a)) &&& 0x3f).toInt64.toUInt64).toInt64) &&& (127 : Int64)) ||| (128 : Int64)).toInt32).toInt8.toInt32))).2 ?_
          show Steps p.tables e below (s₁.setTop (mkF m 74 #[.val (.ref b), .val (.int j), .val (.int a), .val (.int n), .val (.long v), .second, .val (.int fl), .val (.int (j - a)), .val (.int ((((((v.toUInt64 >>> (((7 : Int32) * (j - a)) &&& 0x3f).toInt64.toUInt64).toInt64) &&& (127 : Int64)) ||| (128 : Int64)).toInt32).toInt8.toInt32))] [])) _
          refine XS.iconst X0.here hx rfl (hb hby d3_74) ?_
          show Steps p.tables e below (s₁.setTop (mkF m 75 #[.val (.ref b), .val (.int j), .val (.int a), .val (.int n), .val (.long v), .second, .val (.int fl), .val (.int (j - a)), .val (.int ((((((v.toUInt64 >>> (((7 : Int32) * (j - a)) &&& 0x3f).toInt64.toUInt64).toInt64) &&& (127 : Int64)) ||| (128 : Int64)).toInt32).toInt8.toInt32))] [(.int (1 : Int32))])) _
          refine XS.goto X0.here hx rfl (pc0 := 75) (pc' := 79) rfl (hb hby d3_75) (by decide) (by decide) ?_
          show Steps p.tables e below (s₁.setTop (mkF m 79 #[.val (.ref b), .val (.int j), .val (.int a), .val (.int n), .val (.long v), .second, .val (.int fl), .val (.int (j - a)), .val (.int ((((((v.toUInt64 >>> (((7 : Int32) * (j - a)) &&& 0x3f).toInt64.toUInt64).toInt64) &&& (127 : Int64)) ||| (128 : Int64)).toInt32).toInt8.toInt32))] [(.int (1 : Int32))])) _
          exact retN X0 hx (t := .boolean) Bd.returns (by simp) (hb hby d3_79) hr
        · show Q2 Z b j a n v fl f h0 n0 _ s₁.heap _
          rw [e0]
          exact ⟨rfl, N0, rfl⟩
      · have hv : own_want j a n v fl = (((v.toUInt64 >>> (((7 : Int32) * (j - a)) &&& 0x3f).toInt64.toUInt64).toInt64).toInt32.toInt8.toInt32) := by unfold own_want; rw [if_neg h1, if_pos h2, if_neg h3]
        obtain ⟨fs, hr, hrun, hended, hW, hsame⟩ := X0.leave (v := some (.int (1 : Int32))) (fun h => by rw [Bd.returns] at h; cases h)
        refine ⟨_, _, pre0 _ ?_, hrun, hended, _, _, rfl, ?_, ⟨_, rfl⟩, hW, hsame.mono (by decide) (by decide)⟩
        · show Steps p.tables e below (s₁.setTop (mkF m 0 #[.val (.ref b), .val (.int j), .val (.int a), .val (.int n), .val (.long v), .second, .val (.int fl), .unset, .unset] [])) _
          refine XS.iloadN X0.here hx rfl (hb hby d3_0) rfl ?_
          show Steps p.tables e below (s₁.setTop (mkF m 1 #[.val (.ref b), .val (.int j), .val (.int a), .val (.int n), .val (.long v), .second, .val (.int fl), .unset, .unset] [(.int j)])) _
          refine XS.iloadN X0.here hx rfl (hb hby d3_1) rfl ?_
          show Steps p.tables e below (s₁.setTop (mkF m 2 #[.val (.ref b), .val (.int j), .val (.int a), .val (.int n), .val (.long v), .second, .val (.int fl), .unset, .unset] [(.int a), (.int j)])) _
          refine XS.isub X0.here hx rfl (hb hby d3_2) rfl ?_
          show Steps p.tables e below (s₁.setTop (mkF m 3 #[.val (.ref b), .val (.int j), .val (.int a), .val (.int n), .val (.long v), .second, .val (.int fl), .unset, .unset] [(.int (j - a))])) _
          refine XS.istore X0.here hx rfl (hb hby d3_3) rfl (l' := #[.val (.ref b), .val (.int j), .val (.int a), .val (.int n), .val (.long v), .second, .val (.int fl), .val (.int (j - a)), .unset]) rfl ?_
          show Steps p.tables e below (s₁.setTop (mkF m 5 #[.val (.ref b), .val (.int j), .val (.int a), .val (.int n), .val (.long v), .second, .val (.int fl), .val (.int (j - a)), .unset] [])) _
          refine XS.iload X0.here hx rfl (hb hby d3_5) rfl ?_
          show Steps p.tables e below (s₁.setTop (mkF m 7 #[.val (.ref b), .val (.int j), .val (.int a), .val (.int n), .val (.long v), .second, .val (.int fl), .val (.int (j - a)), .unset] [(.int (j - a))])) _
          refine XS.ifNo X0.here hx rfl (hb hby d3_7) rfl ((if0 _ _).trans (flt (h1 : ¬ ((j - a) < (0 : Int32)))).1) ?_
          show Steps p.tables e below (s₁.setTop (mkF m 10 #[.val (.ref b), .val (.int j), .val (.int a), .val (.int n), .val (.long v), .second, .val (.int fl), .val (.int (j - a)), .unset] [])) _
          refine XS.iload X0.here hx rfl (hb hby d3_10) rfl ?_
          show Steps p.tables e below (s₁.setTop (mkF m 12 #[.val (.ref b), .val (.int j), .val (.int a), .val (.int n), .val (.long v), .second, .val (.int fl), .val (.int (j - a)), .unset] [(.int (j - a))])) _
          refine XS.iloadN X0.here hx rfl (hb hby d3_12) rfl ?_
          show Steps p.tables e below (s₁.setTop (mkF m 13 #[.val (.ref b), .val (.int j), .val (.int a), .val (.int n), .val (.long v), .second, .val (.int fl), .val (.int (j - a)), .unset] [(.int n), (.int (j - a))])) _
          refine XS.icmpYes X0.here hx rfl (pc0 := 13) (pc' := 23) rfl (hb hby d3_13) rfl (tlt (h2 : (j - a) < n)).1 (by decide) (by decide) ?_
          show Steps p.tables e below (s₁.setTop (mkF m 23 #[.val (.ref b), .val (.int j), .val (.int a), .val (.int n), .val (.long v), .second, .val (.int fl), .val (.int (j - a)), .unset] [])) _
          refine XS.iload X0.here hx rfl (hb hby d3_23) rfl ?_
          show Steps p.tables e below (s₁.setTop (mkF m 25 #[.val (.ref b), .val (.int j), .val (.int a), .val (.int n), .val (.long v), .second, .val (.int fl), .val (.int (j - a)), .unset] [(.int (j - a))])) _
          refine XS.iloadN X0.here hx rfl (hb hby d3_25) rfl ?_
          show Steps p.tables e below (s₁.setTop (mkF m 26 #[.val (.ref b), .val (.int j), .val (.int a), .val (.int n), .val (.long v), .second, .val (.int fl), .val (.int (j - a)), .unset] [(.int n), (.int (j - a))])) _
          refine XS.iconst X0.here hx rfl (hb hby d3_26) ?_
          show Steps p.tables e below (s₁.setTop (mkF m 27 #[.val (.ref b), .val (.int j), .val (.int a), .val (.int n), .val (.long v), .second, .val (.int fl), .val (.int (j - a)), .unset] [(.int (1 : Int32)), (.int n), (.int (j - a))])) _
          refine XS.isub X0.here hx rfl (hb hby d3_27) rfl ?_
          show Steps p.tables e below (s₁.setTop (mkF m 28 #[.val (.ref b), .val (.int j), .val (.int a), .val (.int n), .val (.long v), .second, .val (.int fl), .val (.int (j - a)), .unset] [(.int (n - (1 : Int32))), (.int (j - a))])) _
          refine XS.icmpYes X0.here hx rfl (pc0 := 28) (pc' := 54) rfl (hb hby d3_28) rfl (flt (h3 : ¬ ((j - a) < (n - (1 : Int32))))).2.1 (by decide) (by decide) ?_
          show Steps p.tables e below (s₁.setTop (mkF m 54 #[.val (.ref b), .val (.int j), .val (.int a), .val (.int n), .val (.long v), .second, .val (.int fl), .val (.int (j - a)), .unset] [])) _
          refine XS.lload X0.here hx rfl (hb hby d3_54) rfl ?_
          show Steps p.tables e below (s₁.setTop (mkF m 56 #[.val (.ref b), .val (.int j), .val (.int a), .val (.int n), .val (.long v), .second, .val (.int fl), .val (.int (j - a)), .unset] [(.long v)])) _
          refine XS.bipush X0.here hx rfl (hb hby d3_56) ?_
          show Steps p.tables e below (s₁.setTop (mkF m 58 #[.val (.ref b), .val (.int j), .val (.int a), .val (.int n), .val (.long v), .second, .val (.int fl), .val (.int (j - a)), .unset] [(.int (7 : Int32)), (.long v)])) _
          refine XS.iload X0.here hx rfl (hb hby d3_58) rfl ?_
          show Steps p.tables e below (s₁.setTop (mkF m 60 #[.val (.ref b), .val (.int j), .val (.int a), .val (.int n), .val (.long v), .second, .val (.int fl), .val (.int (j - a)), .unset] [(.int (j - a)), (.int (7 : Int32)), (.long v)])) _
          refine XS.imul X0.here hx rfl (hb hby d3_60) rfl ?_
          show Steps p.tables e below (s₁.setTop (mkF m 61 #[.val (.ref b), .val (.int j), .val (.int a), .val (.int n), .val (.long v), .second, .val (.int fl), .val (.int (j - a)), .unset] [(.int ((7 : Int32) * (j - a))), (.long v)])) _
          refine XS.lushr X0.here hx rfl (hb hby d3_61) rfl ?_
          show Steps p.tables e below (s₁.setTop (mkF m 62 #[.val (.ref b), .val (.int j), .val (.int a), .val (.int n), .val (.long v), .second, .val (.int fl), .val (.int (j - a)), .unset] [(.long ((v.toUInt64 >>> (((7 : Int32) * (j - a)) &&& 0x3f).toInt64.toUInt64).toInt64))])) _
          refine XS.l2i X0.here hx rfl (hb hby d3_62) rfl ?_
          show Steps p.tables e below (s₁.setTop (mkF m 63 #[.val (.ref b), .val (.int j), .val (.int a), .val (.int n), .val (.long v), .second, .val (.int fl), .val (.int (j - a)), .unset] [(.int (((v.toUInt64 >>> (((7 : Int32) * (j - a)) &&& 0x3f).toInt64.toUInt64).toInt64).toInt32))])) _
          refine XS.i2b X0.here hx rfl (hb hby d3_63) rfl ?_
          show Steps p.tables e below (s₁.setTop (mkF m 64 #[.val (.ref b), .val (.int j), .val (.int a), .val (.int n), .val (.long v), .second, .val (.int fl), .val (.int (j - a)), .unset] [(.int ((((v.toUInt64 >>> (((7 : Int32) * (j - a)) &&& 0x3f).toInt64.toUInt64).toInt64).toInt32).toInt8.toInt32))])) _
          refine XS.istore X0.here hx rfl (hb hby d3_64) rfl (l' := #[.val (.ref b), .val (.int j), .val (.int a), .val (.int n), .val (.long v), .second, .val (.int fl), .val (.int (j - a)), .val (.int ((((v.toUInt64 >>> (((7 : Int32) * (j - a)) &&& 0x3f).toInt64.toUInt64).toInt64).toInt32).toInt8.toInt32))]) rfl ?_
          show Steps p.tables e below (s₁.setTop (mkF m 66 #[.val (.ref b), .val (.int j), .val (.int a), .val (.int n), .val (.long v), .second, .val (.int fl), .val (.int (j - a)), .val (.int ((((v.toUInt64 >>> (((7 : Int32) * (j - a)) &&& 0x3f).toInt64.toUInt64).toInt64).toInt32).toInt8.toInt32))] [])) _
          refine XS.aloadN X0.here hx rfl (hb hby d3_66) rfl rfl ?_
          show Steps p.tables e below (s₁.setTop (mkF m 67 #[.val (.ref b), .val (.int j), .val (.int a), .val (.int n), .val (.long v), .second, .val (.int fl), .val (.int (j - a)), .val (.int ((((v.toUInt64 >>> (((7 : Int32) * (j - a)) &&& 0x3f).toInt64.toUInt64).toInt64).toInt32).toInt8.toInt32))] [(.ref b)])) _
          refine XS.iloadN X0.here hx rfl (hb hby d3_67) rfl ?_
          show Steps p.tables e below (s₁.setTop (mkF m 68 #[.val (.ref b), .val (.int j), .val (.int a), .val (.int n), .val (.long v), .second, .val (.int fl), .val (.int (j - a)), .val (.int ((((v.toUInt64 >>> (((7 : Int32) * (j - a)) &&& 0x3f).toInt64.toUInt64).toInt64).toInt32).toInt8.toInt32))] [(.int j), (.ref b)])) _
          refine X0.baloadBytes hx (j := j) (v := (.int (((v.toUInt64 >>> (((7 : Int32) * (j - a)) &&& 0x3f).toInt64.toUInt64).toInt64).toInt32.toInt8.toInt32))) (by rw [e0]; exact Ar.1) (State.isArrayOf_alike hZ.alike Ar.2.1) Ar.2.2 (own_in Sz hj0 rfl hj1) ((Hs _ hj1).trans (congrArg some (hat.trans (congrArg Value.int hv)))) (g := (mkF m 68 #[.val (.ref b), .val (.int j), .val (.int a), .val (.int n), .val (.long v), .second, .val (.int fl), .val (.int (j - a)), .val (.int ((((v.toUInt64 >>> (((7 : Int32) * (j - a)) &&& 0x3f).toInt64.toUInt64).toInt64).toInt32).toInt8.toInt32))] [(.int j), (.ref b)])) rfl rfl (hb hby d3_68) _ ?_
          show Steps p.tables e below (s₁.setTop (mkF m 69 #[.val (.ref b), .val (.int j), .val (.int a), .val (.int n), .val (.long v), .second, .val (.int fl), .val (.int (j - a)), .val (.int ((((v.toUInt64 >>> (((7 : Int32) * (j - a)) &&& 0x3f).toInt64.toUInt64).toInt64).toInt32).toInt8.toInt32))] [(.int (((v.toUInt64 >>> (((7 : Int32) * (j - a)) &&& 0x3f).toInt64.toUInt64).toInt64).toInt32.toInt8.toInt32))])) _
          refine XS.iload X0.here hx rfl (hb hby d3_69) rfl ?_
          show Steps p.tables e below (s₁.setTop (mkF m 71 #[.val (.ref b), .val (.int j), .val (.int a), .val (.int n), .val (.long v), .second, .val (.int fl), .val (.int (j - a)), .val (.int ((((v.toUInt64 >>> (((7 : Int32) * (j - a)) &&& 0x3f).toInt64.toUInt64).toInt64).toInt32).toInt8.toInt32))] [(.int ((((v.toUInt64 >>> (((7 : Int32) * (j - a)) &&& 0x3f).toInt64.toUInt64).toInt64).toInt32).toInt8.toInt32)), (.int (((v.toUInt64 >>> (((7 : Int32) * (j - a)) &&& 0x3f).toInt64.toUInt64).toInt64).toInt32.toInt8.toInt32))])) _
          refine XS.icmpNo X0.here hx rfl (hb hby d3_71) rfl (teq (rfl : (((v.toUInt64 >>> (((7 : Int32) * (j - a)) &&& 0x3f).toInt64.toUInt64).toInt64).toInt32.toInt8.toInt32) = ((((v.toUInt64 >>> (((7 : Int32) * (j - a)) &&& 0x3f).toInt64.toUInt64).toInt64).toInt32).toInt8.toInt32))).2 ?_
          show Steps p.tables e below (s₁.setTop (mkF m 74 #[.val (.ref b), .val (.int j), .val (.int a), .val (.int n), .val (.long v), .second, .val (.int fl), .val (.int (j - a)), .val (.int ((((v.toUInt64 >>> (((7 : Int32) * (j - a)) &&& 0x3f).toInt64.toUInt64).toInt64).toInt32).toInt8.toInt32))] [])) _
          refine XS.iconst X0.here hx rfl (hb hby d3_74) ?_
          show Steps p.tables e below (s₁.setTop (mkF m 75 #[.val (.ref b), .val (.int j), .val (.int a), .val (.int n), .val (.long v), .second, .val (.int fl), .val (.int (j - a)), .val (.int ((((v.toUInt64 >>> (((7 : Int32) * (j - a)) &&& 0x3f).toInt64.toUInt64).toInt64).toInt32).toInt8.toInt32))] [(.int (1 : Int32))])) _
          refine XS.goto X0.here hx rfl (pc0 := 75) (pc' := 79) rfl (hb hby d3_75) (by decide) (by decide) ?_
          show Steps p.tables e below (s₁.setTop (mkF m 79 #[.val (.ref b), .val (.int j), .val (.int a), .val (.int n), .val (.long v), .second, .val (.int fl), .val (.int (j - a)), .val (.int ((((v.toUInt64 >>> (((7 : Int32) * (j - a)) &&& 0x3f).toInt64.toUInt64).toInt64).toInt32).toInt8.toInt32))] [(.int (1 : Int32))])) _
          exact retN X0 hx (t := .boolean) Bd.returns (by simp) (hb hby d3_79) hr
        · show Q2 Z b j a n v fl f h0 n0 _ s₁.heap _
          rw [e0]
          exact ⟨rfl, N0, rfl⟩
    · have hv : own_want j a n v fl = fl := by unfold own_want; rw [if_neg h1, if_neg h2]
      obtain ⟨fs, hr, hrun, hended, hW, hsame⟩ := X0.leave (v := some (.int (1 : Int32))) (fun h => by rw [Bd.returns] at h; cases h)
      refine ⟨_, _, pre0 _ ?_, hrun, hended, _, _, rfl, ?_, ⟨_, rfl⟩, hW, hsame.mono (by decide) (by decide)⟩
      · show Steps p.tables e below (s₁.setTop (mkF m 0 #[.val (.ref b), .val (.int j), .val (.int a), .val (.int n), .val (.long v), .second, .val (.int fl), .unset, .unset] [])) _
        refine XS.iloadN X0.here hx rfl (hb hby d3_0) rfl ?_
        show Steps p.tables e below (s₁.setTop (mkF m 1 #[.val (.ref b), .val (.int j), .val (.int a), .val (.int n), .val (.long v), .second, .val (.int fl), .unset, .unset] [(.int j)])) _
        refine XS.iloadN X0.here hx rfl (hb hby d3_1) rfl ?_
        show Steps p.tables e below (s₁.setTop (mkF m 2 #[.val (.ref b), .val (.int j), .val (.int a), .val (.int n), .val (.long v), .second, .val (.int fl), .unset, .unset] [(.int a), (.int j)])) _
        refine XS.isub X0.here hx rfl (hb hby d3_2) rfl ?_
        show Steps p.tables e below (s₁.setTop (mkF m 3 #[.val (.ref b), .val (.int j), .val (.int a), .val (.int n), .val (.long v), .second, .val (.int fl), .unset, .unset] [(.int (j - a))])) _
        refine XS.istore X0.here hx rfl (hb hby d3_3) rfl (l' := #[.val (.ref b), .val (.int j), .val (.int a), .val (.int n), .val (.long v), .second, .val (.int fl), .val (.int (j - a)), .unset]) rfl ?_
        show Steps p.tables e below (s₁.setTop (mkF m 5 #[.val (.ref b), .val (.int j), .val (.int a), .val (.int n), .val (.long v), .second, .val (.int fl), .val (.int (j - a)), .unset] [])) _
        refine XS.iload X0.here hx rfl (hb hby d3_5) rfl ?_
        show Steps p.tables e below (s₁.setTop (mkF m 7 #[.val (.ref b), .val (.int j), .val (.int a), .val (.int n), .val (.long v), .second, .val (.int fl), .val (.int (j - a)), .unset] [(.int (j - a))])) _
        refine XS.ifNo X0.here hx rfl (hb hby d3_7) rfl ((if0 _ _).trans (flt (h1 : ¬ ((j - a) < (0 : Int32)))).1) ?_
        show Steps p.tables e below (s₁.setTop (mkF m 10 #[.val (.ref b), .val (.int j), .val (.int a), .val (.int n), .val (.long v), .second, .val (.int fl), .val (.int (j - a)), .unset] [])) _
        refine XS.iload X0.here hx rfl (hb hby d3_10) rfl ?_
        show Steps p.tables e below (s₁.setTop (mkF m 12 #[.val (.ref b), .val (.int j), .val (.int a), .val (.int n), .val (.long v), .second, .val (.int fl), .val (.int (j - a)), .unset] [(.int (j - a))])) _
        refine XS.iloadN X0.here hx rfl (hb hby d3_12) rfl ?_
        show Steps p.tables e below (s₁.setTop (mkF m 13 #[.val (.ref b), .val (.int j), .val (.int a), .val (.int n), .val (.long v), .second, .val (.int fl), .val (.int (j - a)), .unset] [(.int n), (.int (j - a))])) _
        refine XS.icmpNo X0.here hx rfl (hb hby d3_13) rfl (flt (h2 : ¬ ((j - a) < n))).1 ?_
        show Steps p.tables e below (s₁.setTop (mkF m 16 #[.val (.ref b), .val (.int j), .val (.int a), .val (.int n), .val (.long v), .second, .val (.int fl), .val (.int (j - a)), .unset] [])) _
        refine XS.iload X0.here hx rfl (hb hby d3_16) rfl ?_
        show Steps p.tables e below (s₁.setTop (mkF m 18 #[.val (.ref b), .val (.int j), .val (.int a), .val (.int n), .val (.long v), .second, .val (.int fl), .val (.int (j - a)), .unset] [(.int fl)])) _
        refine XS.istore X0.here hx rfl (hb hby d3_18) rfl (l' := #[.val (.ref b), .val (.int j), .val (.int a), .val (.int n), .val (.long v), .second, .val (.int fl), .val (.int (j - a)), .val (.int fl)]) rfl ?_
        show Steps p.tables e below (s₁.setTop (mkF m 20 #[.val (.ref b), .val (.int j), .val (.int a), .val (.int n), .val (.long v), .second, .val (.int fl), .val (.int (j - a)), .val (.int fl)] [])) _
        refine XS.goto X0.here hx rfl (pc0 := 20) (pc' := 66) rfl (hb hby d3_20) (by decide) (by decide) ?_
        show Steps p.tables e below (s₁.setTop (mkF m 66 #[.val (.ref b), .val (.int j), .val (.int a), .val (.int n), .val (.long v), .second, .val (.int fl), .val (.int (j - a)), .val (.int fl)] [])) _
        refine XS.aloadN X0.here hx rfl (hb hby d3_66) rfl rfl ?_
        show Steps p.tables e below (s₁.setTop (mkF m 67 #[.val (.ref b), .val (.int j), .val (.int a), .val (.int n), .val (.long v), .second, .val (.int fl), .val (.int (j - a)), .val (.int fl)] [(.ref b)])) _
        refine XS.iloadN X0.here hx rfl (hb hby d3_67) rfl ?_
        show Steps p.tables e below (s₁.setTop (mkF m 68 #[.val (.ref b), .val (.int j), .val (.int a), .val (.int n), .val (.long v), .second, .val (.int fl), .val (.int (j - a)), .val (.int fl)] [(.int j), (.ref b)])) _
        refine X0.baloadBytes hx (j := j) (v := (.int fl)) (by rw [e0]; exact Ar.1) (State.isArrayOf_alike hZ.alike Ar.2.1) Ar.2.2 (own_in Sz hj0 rfl hj1) ((Hs _ hj1).trans (congrArg some (hat.trans (congrArg Value.int hv)))) (g := (mkF m 68 #[.val (.ref b), .val (.int j), .val (.int a), .val (.int n), .val (.long v), .second, .val (.int fl), .val (.int (j - a)), .val (.int fl)] [(.int j), (.ref b)])) rfl rfl (hb hby d3_68) _ ?_
        show Steps p.tables e below (s₁.setTop (mkF m 69 #[.val (.ref b), .val (.int j), .val (.int a), .val (.int n), .val (.long v), .second, .val (.int fl), .val (.int (j - a)), .val (.int fl)] [(.int fl)])) _
        refine XS.iload X0.here hx rfl (hb hby d3_69) rfl ?_
        show Steps p.tables e below (s₁.setTop (mkF m 71 #[.val (.ref b), .val (.int j), .val (.int a), .val (.int n), .val (.long v), .second, .val (.int fl), .val (.int (j - a)), .val (.int fl)] [(.int fl), (.int fl)])) _
        refine XS.icmpNo X0.here hx rfl (hb hby d3_71) rfl (teq (rfl : fl = fl)).2 ?_
        show Steps p.tables e below (s₁.setTop (mkF m 74 #[.val (.ref b), .val (.int j), .val (.int a), .val (.int n), .val (.long v), .second, .val (.int fl), .val (.int (j - a)), .val (.int fl)] [])) _
        refine XS.iconst X0.here hx rfl (hb hby d3_74) ?_
        show Steps p.tables e below (s₁.setTop (mkF m 75 #[.val (.ref b), .val (.int j), .val (.int a), .val (.int n), .val (.long v), .second, .val (.int fl), .val (.int (j - a)), .val (.int fl)] [(.int (1 : Int32))])) _
        refine XS.goto X0.here hx rfl (pc0 := 75) (pc' := 79) rfl (hb hby d3_75) (by decide) (by decide) ?_
        show Steps p.tables e below (s₁.setTop (mkF m 79 #[.val (.ref b), .val (.int j), .val (.int a), .val (.int n), .val (.long v), .second, .val (.int fl), .val (.int (j - a)), .val (.int fl)] [(.int (1 : Int32))])) _
        exact retN X0 hx (t := .boolean) Bd.returns (by simp) (hb hby d3_79) hr
      · show Q2 Z b j a n v fl f h0 n0 _ s₁.heap _
        rw [e0]
        exact ⟨rfl, N0, rfl⟩
set_option maxRecDepth 65536 in
set_option maxHeartbeats 40000000 in
theorem st_0 {p : Program} {l : Launch} {e : Env} {R : Room} {s : State} {m : MethodId} {args : Array Value} {below : List Frame} {meth : Method} {c : Code} {T0 : State} {locs : List Loc} {cells slots : Nat} {Z : State} {a0 : Array Value} {h0 : Heap} {f : Nat → Value} {n0 : Nat} (q1 n : Int64) (p2 p3 p4 i5 fl : Int32) (b : Addr) (X0 : Stand p l e R s m args below meth c T0 locs cells slots) (hx : p.tables.exec = Jvm.exec) (hZ : Z.Warmed39 s.vm) (hw : ∀ d ∈ tables_1, d.before a0 Z = true) (hby : c.code = code) (hown : s.vm.findClass "com/example/spanlace/spanlace/index/IndexOutputPutVLongPinLaw" = some m.cls) (e0 : T0.heap = h0) (N0 : Fr n0 locs) (g_b : n0 ≤ b) (V0 : own_A Z h0 b .byte 13 f) (hF : ∀ j, j < 0 → f j = .int fl) (hfl : nar .byte fl = fl) :
    ∃ (T' : State) (h' : Heap) (locs' : List Loc) (f' : Nat → Value), Stand p l e R s m args below meth c T' locs' cells slots ∧ T'.heap = h' ∧ Fr n0 locs' ∧ h0.size ≤ h'.size ∧ own_A Z h' b .byte 13 f' ∧ (∀ j, j < 1 → f' j = .int fl) ∧
      ∀ target, Steps p.tables e below (T'.setTop (mkF m 34 #[.val (.long q1), .second, .val (.int p2), .val (.int p3), .val (.int p4), .val (.long n), .second, .val (.int i5), .val (.int fl), .val (.ref b), .unset, .unset, .unset] [])) target → Steps p.tables e below (T0.setTop (mkF m 28 #[.val (.long q1), .second, .val (.int p2), .val (.int p3), .val (.int p4), .val (.long n), .second, .val (.int i5), .val (.int fl), .val (.ref b), .unset, .unset, .unset] [])) target := by
  obtain ⟨cl, Ar, Sz, Hs⟩ := id V0
  obtain ⟨T1, h1, X1, e1, W1, st1⟩ := stB X0 hx hZ e0 Ar (j := (0 : Int32)) (own_in (k := 0) Sz (by decide) rfl (by decide)) (g := (mkF m 33 #[.val (.long q1), .second, .val (.int p2), .val (.int p3), .val (.int p4), .val (.long n), .second, .val (.int i5), .val (.int fl), .val (.ref b), .unset, .unset, .unset] [(.int fl), (.int (0 : Int32)), (.ref b)])) rfl rfl (hb hby at_33)
  have N1 := Fr.snoc X1 N0 g_b
  rw [hfl] at W1
  have U1 : Wr _ _ b 0 (.int fl) := W1
  have V1 := V0.set (k := 0) (by decide) U1
  refine ⟨T1, h1, _, _, X1, e1, N1, (Keep.of_wr W1).1, V1, fun j hj => ?_, fun target kt => ?_⟩
  · show (if j = 0 then _ else f j) = _
    by_cases z : j = 0
    · rw [if_pos z]
    · rw [if_neg z]; exact hF j (by omega)
  · show Steps p.tables e below (T0.setTop (mkF m 28 #[.val (.long q1), .second, .val (.int p2), .val (.int p3), .val (.int p4), .val (.long n), .second, .val (.int i5), .val (.int fl), .val (.ref b), .unset, .unset, .unset] [])) _
    refine XS.aload X0.here hx rfl (hb hby at_28) rfl rfl ?_
    show Steps p.tables e below (T0.setTop (mkF m 30 #[.val (.long q1), .second, .val (.int p2), .val (.int p3), .val (.int p4), .val (.long n), .second, .val (.int i5), .val (.int fl), .val (.ref b), .unset, .unset, .unset] [(.ref b)])) _
    refine XS.iconst X0.here hx rfl (hb hby at_30) ?_
    show Steps p.tables e below (T0.setTop (mkF m 31 #[.val (.long q1), .second, .val (.int p2), .val (.int p3), .val (.int p4), .val (.long n), .second, .val (.int i5), .val (.int fl), .val (.ref b), .unset, .unset, .unset] [(.int (0 : Int32)), (.ref b)])) _
    refine XS.iload X0.here hx rfl (hb hby at_31) rfl ?_
    show Steps p.tables e below (T0.setTop (mkF m 33 #[.val (.long q1), .second, .val (.int p2), .val (.int p3), .val (.int p4), .val (.long n), .second, .val (.int i5), .val (.int fl), .val (.ref b), .unset, .unset, .unset] [(.int fl), (.int (0 : Int32)), (.ref b)])) _
    refine st1 _ ?_
    show Steps p.tables e below (T1.setTop (mkF m 34 #[.val (.long q1), .second, .val (.int p2), .val (.int p3), .val (.int p4), .val (.long n), .second, .val (.int i5), .val (.int fl), .val (.ref b), .unset, .unset, .unset] [])) _
    exact kt
set_option maxRecDepth 65536 in
set_option maxHeartbeats 40000000 in
theorem st_1 {p : Program} {l : Launch} {e : Env} {R : Room} {s : State} {m : MethodId} {args : Array Value} {below : List Frame} {meth : Method} {c : Code} {T0 : State} {locs : List Loc} {cells slots : Nat} {Z : State} {a0 : Array Value} {h0 : Heap} {f : Nat → Value} {n0 : Nat} (q1 n : Int64) (p2 p3 p4 i5 fl : Int32) (b : Addr) (X0 : Stand p l e R s m args below meth c T0 locs cells slots) (hx : p.tables.exec = Jvm.exec) (hZ : Z.Warmed39 s.vm) (hw : ∀ d ∈ tables_1, d.before a0 Z = true) (hby : c.code = code) (hown : s.vm.findClass "com/example/spanlace/spanlace/index/IndexOutputPutVLongPinLaw" = some m.cls) (e0 : T0.heap = h0) (N0 : Fr n0 locs) (g_b : n0 ≤ b) (V0 : own_A Z h0 b .byte 13 f) (hF : ∀ j, j < 1 → f j = .int fl) (hfl : nar .byte fl = fl) :
    ∃ (T' : State) (h' : Heap) (locs' : List Loc) (f' : Nat → Value), Stand p l e R s m args below meth c T' locs' cells slots ∧ T'.heap = h' ∧ Fr n0 locs' ∧ h0.size ≤ h'.size ∧ own_A Z h' b .byte 13 f' ∧ (∀ j, j < 2 → f' j = .int fl) ∧
      ∀ target, Steps p.tables e below (T'.setTop (mkF m 40 #[.val (.long q1), .second, .val (.int p2), .val (.int p3), .val (.int p4), .val (.long n), .second, .val (.int i5), .val (.int fl), .val (.ref b), .unset, .unset, .unset] [])) target → Steps p.tables e below (T0.setTop (mkF m 34 #[.val (.long q1), .second, .val (.int p2), .val (.int p3), .val (.int p4), .val (.long n), .second, .val (.int i5), .val (.int fl), .val (.ref b), .unset, .unset, .unset] [])) target := by
  obtain ⟨cl, Ar, Sz, Hs⟩ := id V0
  obtain ⟨T1, h1, X1, e1, W1, st1⟩ := stB X0 hx hZ e0 Ar (j := (1 : Int32)) (own_in (k := 1) Sz (by decide) rfl (by decide)) (g := (mkF m 39 #[.val (.long q1), .second, .val (.int p2), .val (.int p3), .val (.int p4), .val (.long n), .second, .val (.int i5), .val (.int fl), .val (.ref b), .unset, .unset, .unset] [(.int fl), (.int (1 : Int32)), (.ref b)])) rfl rfl (hb hby at_39)
  have N1 := Fr.snoc X1 N0 g_b
  rw [hfl] at W1
  have U1 : Wr _ _ b 1 (.int fl) := W1
  have V1 := V0.set (k := 1) (by decide) U1
  refine ⟨T1, h1, _, _, X1, e1, N1, (Keep.of_wr W1).1, V1, fun j hj => ?_, fun target kt => ?_⟩
  · show (if j = 1 then _ else f j) = _
    by_cases z : j = 1
    · rw [if_pos z]
    · rw [if_neg z]; exact hF j (by omega)
  · show Steps p.tables e below (T0.setTop (mkF m 34 #[.val (.long q1), .second, .val (.int p2), .val (.int p3), .val (.int p4), .val (.long n), .second, .val (.int i5), .val (.int fl), .val (.ref b), .unset, .unset, .unset] [])) _
    refine XS.aload X0.here hx rfl (hb hby at_34) rfl rfl ?_
    show Steps p.tables e below (T0.setTop (mkF m 36 #[.val (.long q1), .second, .val (.int p2), .val (.int p3), .val (.int p4), .val (.long n), .second, .val (.int i5), .val (.int fl), .val (.ref b), .unset, .unset, .unset] [(.ref b)])) _
    refine XS.iconst X0.here hx rfl (hb hby at_36) ?_
    show Steps p.tables e below (T0.setTop (mkF m 37 #[.val (.long q1), .second, .val (.int p2), .val (.int p3), .val (.int p4), .val (.long n), .second, .val (.int i5), .val (.int fl), .val (.ref b), .unset, .unset, .unset] [(.int (1 : Int32)), (.ref b)])) _
    refine XS.iload X0.here hx rfl (hb hby at_37) rfl ?_
    show Steps p.tables e below (T0.setTop (mkF m 39 #[.val (.long q1), .second, .val (.int p2), .val (.int p3), .val (.int p4), .val (.long n), .second, .val (.int i5), .val (.int fl), .val (.ref b), .unset, .unset, .unset] [(.int fl), (.int (1 : Int32)), (.ref b)])) _
    refine st1 _ ?_
    show Steps p.tables e below (T1.setTop (mkF m 40 #[.val (.long q1), .second, .val (.int p2), .val (.int p3), .val (.int p4), .val (.long n), .second, .val (.int i5), .val (.int fl), .val (.ref b), .unset, .unset, .unset] [])) _
    exact kt
set_option maxRecDepth 65536 in
set_option maxHeartbeats 40000000 in
theorem st_2 {p : Program} {l : Launch} {e : Env} {R : Room} {s : State} {m : MethodId} {args : Array Value} {below : List Frame} {meth : Method} {c : Code} {T0 : State} {locs : List Loc} {cells slots : Nat} {Z : State} {a0 : Array Value} {h0 : Heap} {f : Nat → Value} {n0 : Nat} (q1 n : Int64) (p2 p3 p4 i5 fl : Int32) (b : Addr) (X0 : Stand p l e R s m args below meth c T0 locs cells slots) (hx : p.tables.exec = Jvm.exec) (hZ : Z.Warmed39 s.vm) (hw : ∀ d ∈ tables_1, d.before a0 Z = true) (hby : c.code = code) (hown : s.vm.findClass "com/example/spanlace/spanlace/index/IndexOutputPutVLongPinLaw" = some m.cls) (e0 : T0.heap = h0) (N0 : Fr n0 locs) (g_b : n0 ≤ b) (V0 : own_A Z h0 b .byte 13 f) (hF : ∀ j, j < 2 → f j = .int fl) (hfl : nar .byte fl = fl) :
    ∃ (T' : State) (h' : Heap) (locs' : List Loc) (f' : Nat → Value), Stand p l e R s m args below meth c T' locs' cells slots ∧ T'.heap = h' ∧ Fr n0 locs' ∧ h0.size ≤ h'.size ∧ own_A Z h' b .byte 13 f' ∧ (∀ j, j < 3 → f' j = .int fl) ∧
      ∀ target, Steps p.tables e below (T'.setTop (mkF m 46 #[.val (.long q1), .second, .val (.int p2), .val (.int p3), .val (.int p4), .val (.long n), .second, .val (.int i5), .val (.int fl), .val (.ref b), .unset, .unset, .unset] [])) target → Steps p.tables e below (T0.setTop (mkF m 40 #[.val (.long q1), .second, .val (.int p2), .val (.int p3), .val (.int p4), .val (.long n), .second, .val (.int i5), .val (.int fl), .val (.ref b), .unset, .unset, .unset] [])) target := by
  obtain ⟨cl, Ar, Sz, Hs⟩ := id V0
  obtain ⟨T1, h1, X1, e1, W1, st1⟩ := stB X0 hx hZ e0 Ar (j := (2 : Int32)) (own_in (k := 2) Sz (by decide) rfl (by decide)) (g := (mkF m 45 #[.val (.long q1), .second, .val (.int p2), .val (.int p3), .val (.int p4), .val (.long n), .second, .val (.int i5), .val (.int fl), .val (.ref b), .unset, .unset, .unset] [(.int fl), (.int (2 : Int32)), (.ref b)])) rfl rfl (hb hby at_45)
  have N1 := Fr.snoc X1 N0 g_b
  rw [hfl] at W1
  have U1 : Wr _ _ b 2 (.int fl) := W1
  have V1 := V0.set (k := 2) (by decide) U1
  refine ⟨T1, h1, _, _, X1, e1, N1, (Keep.of_wr W1).1, V1, fun j hj => ?_, fun target kt => ?_⟩
  · show (if j = 2 then _ else f j) = _
    by_cases z : j = 2
    · rw [if_pos z]
    · rw [if_neg z]; exact hF j (by omega)
  · show Steps p.tables e below (T0.setTop (mkF m 40 #[.val (.long q1), .second, .val (.int p2), .val (.int p3), .val (.int p4), .val (.long n), .second, .val (.int i5), .val (.int fl), .val (.ref b), .unset, .unset, .unset] [])) _
    refine XS.aload X0.here hx rfl (hb hby at_40) rfl rfl ?_
    show Steps p.tables e below (T0.setTop (mkF m 42 #[.val (.long q1), .second, .val (.int p2), .val (.int p3), .val (.int p4), .val (.long n), .second, .val (.int i5), .val (.int fl), .val (.ref b), .unset, .unset, .unset] [(.ref b)])) _
    refine XS.iconst X0.here hx rfl (hb hby at_42) ?_
    show Steps p.tables e below (T0.setTop (mkF m 43 #[.val (.long q1), .second, .val (.int p2), .val (.int p3), .val (.int p4), .val (.long n), .second, .val (.int i5), .val (.int fl), .val (.ref b), .unset, .unset, .unset] [(.int (2 : Int32)), (.ref b)])) _
    refine XS.iload X0.here hx rfl (hb hby at_43) rfl ?_
    show Steps p.tables e below (T0.setTop (mkF m 45 #[.val (.long q1), .second, .val (.int p2), .val (.int p3), .val (.int p4), .val (.long n), .second, .val (.int i5), .val (.int fl), .val (.ref b), .unset, .unset, .unset] [(.int fl), (.int (2 : Int32)), (.ref b)])) _
    refine st1 _ ?_
    show Steps p.tables e below (T1.setTop (mkF m 46 #[.val (.long q1), .second, .val (.int p2), .val (.int p3), .val (.int p4), .val (.long n), .second, .val (.int i5), .val (.int fl), .val (.ref b), .unset, .unset, .unset] [])) _
    exact kt
set_option maxRecDepth 65536 in
set_option maxHeartbeats 40000000 in
theorem st_3 {p : Program} {l : Launch} {e : Env} {R : Room} {s : State} {m : MethodId} {args : Array Value} {below : List Frame} {meth : Method} {c : Code} {T0 : State} {locs : List Loc} {cells slots : Nat} {Z : State} {a0 : Array Value} {h0 : Heap} {f : Nat → Value} {n0 : Nat} (q1 n : Int64) (p2 p3 p4 i5 fl : Int32) (b : Addr) (X0 : Stand p l e R s m args below meth c T0 locs cells slots) (hx : p.tables.exec = Jvm.exec) (hZ : Z.Warmed39 s.vm) (hw : ∀ d ∈ tables_1, d.before a0 Z = true) (hby : c.code = code) (hown : s.vm.findClass "com/example/spanlace/spanlace/index/IndexOutputPutVLongPinLaw" = some m.cls) (e0 : T0.heap = h0) (N0 : Fr n0 locs) (g_b : n0 ≤ b) (V0 : own_A Z h0 b .byte 13 f) (hF : ∀ j, j < 3 → f j = .int fl) (hfl : nar .byte fl = fl) :
    ∃ (T' : State) (h' : Heap) (locs' : List Loc) (f' : Nat → Value), Stand p l e R s m args below meth c T' locs' cells slots ∧ T'.heap = h' ∧ Fr n0 locs' ∧ h0.size ≤ h'.size ∧ own_A Z h' b .byte 13 f' ∧ (∀ j, j < 4 → f' j = .int fl) ∧
      ∀ target, Steps p.tables e below (T'.setTop (mkF m 52 #[.val (.long q1), .second, .val (.int p2), .val (.int p3), .val (.int p4), .val (.long n), .second, .val (.int i5), .val (.int fl), .val (.ref b), .unset, .unset, .unset] [])) target → Steps p.tables e below (T0.setTop (mkF m 46 #[.val (.long q1), .second, .val (.int p2), .val (.int p3), .val (.int p4), .val (.long n), .second, .val (.int i5), .val (.int fl), .val (.ref b), .unset, .unset, .unset] [])) target := by
  obtain ⟨cl, Ar, Sz, Hs⟩ := id V0
  obtain ⟨T1, h1, X1, e1, W1, st1⟩ := stB X0 hx hZ e0 Ar (j := (3 : Int32)) (own_in (k := 3) Sz (by decide) rfl (by decide)) (g := (mkF m 51 #[.val (.long q1), .second, .val (.int p2), .val (.int p3), .val (.int p4), .val (.long n), .second, .val (.int i5), .val (.int fl), .val (.ref b), .unset, .unset, .unset] [(.int fl), (.int (3 : Int32)), (.ref b)])) rfl rfl (hb hby at_51)
  have N1 := Fr.snoc X1 N0 g_b
  rw [hfl] at W1
  have U1 : Wr _ _ b 3 (.int fl) := W1
  have V1 := V0.set (k := 3) (by decide) U1
  refine ⟨T1, h1, _, _, X1, e1, N1, (Keep.of_wr W1).1, V1, fun j hj => ?_, fun target kt => ?_⟩
  · show (if j = 3 then _ else f j) = _
    by_cases z : j = 3
    · rw [if_pos z]
    · rw [if_neg z]; exact hF j (by omega)
  · show Steps p.tables e below (T0.setTop (mkF m 46 #[.val (.long q1), .second, .val (.int p2), .val (.int p3), .val (.int p4), .val (.long n), .second, .val (.int i5), .val (.int fl), .val (.ref b), .unset, .unset, .unset] [])) _
    refine XS.aload X0.here hx rfl (hb hby at_46) rfl rfl ?_
    show Steps p.tables e below (T0.setTop (mkF m 48 #[.val (.long q1), .second, .val (.int p2), .val (.int p3), .val (.int p4), .val (.long n), .second, .val (.int i5), .val (.int fl), .val (.ref b), .unset, .unset, .unset] [(.ref b)])) _
    refine XS.iconst X0.here hx rfl (hb hby at_48) ?_
    show Steps p.tables e below (T0.setTop (mkF m 49 #[.val (.long q1), .second, .val (.int p2), .val (.int p3), .val (.int p4), .val (.long n), .second, .val (.int i5), .val (.int fl), .val (.ref b), .unset, .unset, .unset] [(.int (3 : Int32)), (.ref b)])) _
    refine XS.iload X0.here hx rfl (hb hby at_49) rfl ?_
    show Steps p.tables e below (T0.setTop (mkF m 51 #[.val (.long q1), .second, .val (.int p2), .val (.int p3), .val (.int p4), .val (.long n), .second, .val (.int i5), .val (.int fl), .val (.ref b), .unset, .unset, .unset] [(.int fl), (.int (3 : Int32)), (.ref b)])) _
    refine st1 _ ?_
    show Steps p.tables e below (T1.setTop (mkF m 52 #[.val (.long q1), .second, .val (.int p2), .val (.int p3), .val (.int p4), .val (.long n), .second, .val (.int i5), .val (.int fl), .val (.ref b), .unset, .unset, .unset] [])) _
    exact kt
set_option maxRecDepth 65536 in
set_option maxHeartbeats 40000000 in
theorem st_4 {p : Program} {l : Launch} {e : Env} {R : Room} {s : State} {m : MethodId} {args : Array Value} {below : List Frame} {meth : Method} {c : Code} {T0 : State} {locs : List Loc} {cells slots : Nat} {Z : State} {a0 : Array Value} {h0 : Heap} {f : Nat → Value} {n0 : Nat} (q1 n : Int64) (p2 p3 p4 i5 fl : Int32) (b : Addr) (X0 : Stand p l e R s m args below meth c T0 locs cells slots) (hx : p.tables.exec = Jvm.exec) (hZ : Z.Warmed39 s.vm) (hw : ∀ d ∈ tables_1, d.before a0 Z = true) (hby : c.code = code) (hown : s.vm.findClass "com/example/spanlace/spanlace/index/IndexOutputPutVLongPinLaw" = some m.cls) (e0 : T0.heap = h0) (N0 : Fr n0 locs) (g_b : n0 ≤ b) (V0 : own_A Z h0 b .byte 13 f) (hF : ∀ j, j < 4 → f j = .int fl) (hfl : nar .byte fl = fl) :
    ∃ (T' : State) (h' : Heap) (locs' : List Loc) (f' : Nat → Value), Stand p l e R s m args below meth c T' locs' cells slots ∧ T'.heap = h' ∧ Fr n0 locs' ∧ h0.size ≤ h'.size ∧ own_A Z h' b .byte 13 f' ∧ (∀ j, j < 5 → f' j = .int fl) ∧
      ∀ target, Steps p.tables e below (T'.setTop (mkF m 58 #[.val (.long q1), .second, .val (.int p2), .val (.int p3), .val (.int p4), .val (.long n), .second, .val (.int i5), .val (.int fl), .val (.ref b), .unset, .unset, .unset] [])) target → Steps p.tables e below (T0.setTop (mkF m 52 #[.val (.long q1), .second, .val (.int p2), .val (.int p3), .val (.int p4), .val (.long n), .second, .val (.int i5), .val (.int fl), .val (.ref b), .unset, .unset, .unset] [])) target := by
  obtain ⟨cl, Ar, Sz, Hs⟩ := id V0
  obtain ⟨T1, h1, X1, e1, W1, st1⟩ := stB X0 hx hZ e0 Ar (j := (4 : Int32)) (own_in (k := 4) Sz (by decide) rfl (by decide)) (g := (mkF m 57 #[.val (.long q1), .second, .val (.int p2), .val (.int p3), .val (.int p4), .val (.long n), .second, .val (.int i5), .val (.int fl), .val (.ref b), .unset, .unset, .unset] [(.int fl), (.int (4 : Int32)), (.ref b)])) rfl rfl (hb hby at_57)
  have N1 := Fr.snoc X1 N0 g_b
  rw [hfl] at W1
  have U1 : Wr _ _ b 4 (.int fl) := W1
  have V1 := V0.set (k := 4) (by decide) U1
  refine ⟨T1, h1, _, _, X1, e1, N1, (Keep.of_wr W1).1, V1, fun j hj => ?_, fun target kt => ?_⟩
  · show (if j = 4 then _ else f j) = _
    by_cases z : j = 4
    · rw [if_pos z]
    · rw [if_neg z]; exact hF j (by omega)
  · show Steps p.tables e below (T0.setTop (mkF m 52 #[.val (.long q1), .second, .val (.int p2), .val (.int p3), .val (.int p4), .val (.long n), .second, .val (.int i5), .val (.int fl), .val (.ref b), .unset, .unset, .unset] [])) _
    refine XS.aload X0.here hx rfl (hb hby at_52) rfl rfl ?_
    show Steps p.tables e below (T0.setTop (mkF m 54 #[.val (.long q1), .second, .val (.int p2), .val (.int p3), .val (.int p4), .val (.long n), .second, .val (.int i5), .val (.int fl), .val (.ref b), .unset, .unset, .unset] [(.ref b)])) _
    refine XS.iconst X0.here hx rfl (hb hby at_54) ?_
    show Steps p.tables e below (T0.setTop (mkF m 55 #[.val (.long q1), .second, .val (.int p2), .val (.int p3), .val (.int p4), .val (.long n), .second, .val (.int i5), .val (.int fl), .val (.ref b), .unset, .unset, .unset] [(.int (4 : Int32)), (.ref b)])) _
    refine XS.iload X0.here hx rfl (hb hby at_55) rfl ?_
    show Steps p.tables e below (T0.setTop (mkF m 57 #[.val (.long q1), .second, .val (.int p2), .val (.int p3), .val (.int p4), .val (.long n), .second, .val (.int i5), .val (.int fl), .val (.ref b), .unset, .unset, .unset] [(.int fl), (.int (4 : Int32)), (.ref b)])) _
    refine st1 _ ?_
    show Steps p.tables e below (T1.setTop (mkF m 58 #[.val (.long q1), .second, .val (.int p2), .val (.int p3), .val (.int p4), .val (.long n), .second, .val (.int i5), .val (.int fl), .val (.ref b), .unset, .unset, .unset] [])) _
    exact kt
set_option maxRecDepth 65536 in
set_option maxHeartbeats 40000000 in
theorem st_5 {p : Program} {l : Launch} {e : Env} {R : Room} {s : State} {m : MethodId} {args : Array Value} {below : List Frame} {meth : Method} {c : Code} {T0 : State} {locs : List Loc} {cells slots : Nat} {Z : State} {a0 : Array Value} {h0 : Heap} {f : Nat → Value} {n0 : Nat} (q1 n : Int64) (p2 p3 p4 i5 fl : Int32) (b : Addr) (X0 : Stand p l e R s m args below meth c T0 locs cells slots) (hx : p.tables.exec = Jvm.exec) (hZ : Z.Warmed39 s.vm) (hw : ∀ d ∈ tables_1, d.before a0 Z = true) (hby : c.code = code) (hown : s.vm.findClass "com/example/spanlace/spanlace/index/IndexOutputPutVLongPinLaw" = some m.cls) (e0 : T0.heap = h0) (N0 : Fr n0 locs) (g_b : n0 ≤ b) (V0 : own_A Z h0 b .byte 13 f) (hF : ∀ j, j < 5 → f j = .int fl) (hfl : nar .byte fl = fl) :
    ∃ (T' : State) (h' : Heap) (locs' : List Loc) (f' : Nat → Value), Stand p l e R s m args below meth c T' locs' cells slots ∧ T'.heap = h' ∧ Fr n0 locs' ∧ h0.size ≤ h'.size ∧ own_A Z h' b .byte 13 f' ∧ (∀ j, j < 6 → f' j = .int fl) ∧
      ∀ target, Steps p.tables e below (T'.setTop (mkF m 64 #[.val (.long q1), .second, .val (.int p2), .val (.int p3), .val (.int p4), .val (.long n), .second, .val (.int i5), .val (.int fl), .val (.ref b), .unset, .unset, .unset] [])) target → Steps p.tables e below (T0.setTop (mkF m 58 #[.val (.long q1), .second, .val (.int p2), .val (.int p3), .val (.int p4), .val (.long n), .second, .val (.int i5), .val (.int fl), .val (.ref b), .unset, .unset, .unset] [])) target := by
  obtain ⟨cl, Ar, Sz, Hs⟩ := id V0
  obtain ⟨T1, h1, X1, e1, W1, st1⟩ := stB X0 hx hZ e0 Ar (j := (5 : Int32)) (own_in (k := 5) Sz (by decide) rfl (by decide)) (g := (mkF m 63 #[.val (.long q1), .second, .val (.int p2), .val (.int p3), .val (.int p4), .val (.long n), .second, .val (.int i5), .val (.int fl), .val (.ref b), .unset, .unset, .unset] [(.int fl), (.int (5 : Int32)), (.ref b)])) rfl rfl (hb hby at_63)
  have N1 := Fr.snoc X1 N0 g_b
  rw [hfl] at W1
  have U1 : Wr _ _ b 5 (.int fl) := W1
  have V1 := V0.set (k := 5) (by decide) U1
  refine ⟨T1, h1, _, _, X1, e1, N1, (Keep.of_wr W1).1, V1, fun j hj => ?_, fun target kt => ?_⟩
  · show (if j = 5 then _ else f j) = _
    by_cases z : j = 5
    · rw [if_pos z]
    · rw [if_neg z]; exact hF j (by omega)
  · show Steps p.tables e below (T0.setTop (mkF m 58 #[.val (.long q1), .second, .val (.int p2), .val (.int p3), .val (.int p4), .val (.long n), .second, .val (.int i5), .val (.int fl), .val (.ref b), .unset, .unset, .unset] [])) _
    refine XS.aload X0.here hx rfl (hb hby at_58) rfl rfl ?_
    show Steps p.tables e below (T0.setTop (mkF m 60 #[.val (.long q1), .second, .val (.int p2), .val (.int p3), .val (.int p4), .val (.long n), .second, .val (.int i5), .val (.int fl), .val (.ref b), .unset, .unset, .unset] [(.ref b)])) _
    refine XS.iconst X0.here hx rfl (hb hby at_60) ?_
    show Steps p.tables e below (T0.setTop (mkF m 61 #[.val (.long q1), .second, .val (.int p2), .val (.int p3), .val (.int p4), .val (.long n), .second, .val (.int i5), .val (.int fl), .val (.ref b), .unset, .unset, .unset] [(.int (5 : Int32)), (.ref b)])) _
    refine XS.iload X0.here hx rfl (hb hby at_61) rfl ?_
    show Steps p.tables e below (T0.setTop (mkF m 63 #[.val (.long q1), .second, .val (.int p2), .val (.int p3), .val (.int p4), .val (.long n), .second, .val (.int i5), .val (.int fl), .val (.ref b), .unset, .unset, .unset] [(.int fl), (.int (5 : Int32)), (.ref b)])) _
    refine st1 _ ?_
    show Steps p.tables e below (T1.setTop (mkF m 64 #[.val (.long q1), .second, .val (.int p2), .val (.int p3), .val (.int p4), .val (.long n), .second, .val (.int i5), .val (.int fl), .val (.ref b), .unset, .unset, .unset] [])) _
    exact kt
set_option maxRecDepth 65536 in
set_option maxHeartbeats 40000000 in
theorem st_6 {p : Program} {l : Launch} {e : Env} {R : Room} {s : State} {m : MethodId} {args : Array Value} {below : List Frame} {meth : Method} {c : Code} {T0 : State} {locs : List Loc} {cells slots : Nat} {Z : State} {a0 : Array Value} {h0 : Heap} {f : Nat → Value} {n0 : Nat} (q1 n : Int64) (p2 p3 p4 i5 fl : Int32) (b : Addr) (X0 : Stand p l e R s m args below meth c T0 locs cells slots) (hx : p.tables.exec = Jvm.exec) (hZ : Z.Warmed39 s.vm) (hw : ∀ d ∈ tables_1, d.before a0 Z = true) (hby : c.code = code) (hown : s.vm.findClass "com/example/spanlace/spanlace/index/IndexOutputPutVLongPinLaw" = some m.cls) (e0 : T0.heap = h0) (N0 : Fr n0 locs) (g_b : n0 ≤ b) (V0 : own_A Z h0 b .byte 13 f) (hF : ∀ j, j < 6 → f j = .int fl) (hfl : nar .byte fl = fl) :
    ∃ (T' : State) (h' : Heap) (locs' : List Loc) (f' : Nat → Value), Stand p l e R s m args below meth c T' locs' cells slots ∧ T'.heap = h' ∧ Fr n0 locs' ∧ h0.size ≤ h'.size ∧ own_A Z h' b .byte 13 f' ∧ (∀ j, j < 7 → f' j = .int fl) ∧
      ∀ target, Steps p.tables e below (T'.setTop (mkF m 71 #[.val (.long q1), .second, .val (.int p2), .val (.int p3), .val (.int p4), .val (.long n), .second, .val (.int i5), .val (.int fl), .val (.ref b), .unset, .unset, .unset] [])) target → Steps p.tables e below (T0.setTop (mkF m 64 #[.val (.long q1), .second, .val (.int p2), .val (.int p3), .val (.int p4), .val (.long n), .second, .val (.int i5), .val (.int fl), .val (.ref b), .unset, .unset, .unset] [])) target := by
  obtain ⟨cl, Ar, Sz, Hs⟩ := id V0
  obtain ⟨T1, h1, X1, e1, W1, st1⟩ := stB X0 hx hZ e0 Ar (j := (6 : Int32)) (own_in (k := 6) Sz (by decide) rfl (by decide)) (g := (mkF m 70 #[.val (.long q1), .second, .val (.int p2), .val (.int p3), .val (.int p4), .val (.long n), .second, .val (.int i5), .val (.int fl), .val (.ref b), .unset, .unset, .unset] [(.int fl), (.int (6 : Int32)), (.ref b)])) rfl rfl (hb hby at_70)
  have N1 := Fr.snoc X1 N0 g_b
  rw [hfl] at W1
  have U1 : Wr _ _ b 6 (.int fl) := W1
  have V1 := V0.set (k := 6) (by decide) U1
  refine ⟨T1, h1, _, _, X1, e1, N1, (Keep.of_wr W1).1, V1, fun j hj => ?_, fun target kt => ?_⟩
  · show (if j = 6 then _ else f j) = _
    by_cases z : j = 6
    · rw [if_pos z]
    · rw [if_neg z]; exact hF j (by omega)
  · show Steps p.tables e below (T0.setTop (mkF m 64 #[.val (.long q1), .second, .val (.int p2), .val (.int p3), .val (.int p4), .val (.long n), .second, .val (.int i5), .val (.int fl), .val (.ref b), .unset, .unset, .unset] [])) _
    refine XS.aload X0.here hx rfl (hb hby at_64) rfl rfl ?_
    show Steps p.tables e below (T0.setTop (mkF m 66 #[.val (.long q1), .second, .val (.int p2), .val (.int p3), .val (.int p4), .val (.long n), .second, .val (.int i5), .val (.int fl), .val (.ref b), .unset, .unset, .unset] [(.ref b)])) _
    refine XS.bipush X0.here hx rfl (hb hby at_66) ?_
    show Steps p.tables e below (T0.setTop (mkF m 68 #[.val (.long q1), .second, .val (.int p2), .val (.int p3), .val (.int p4), .val (.long n), .second, .val (.int i5), .val (.int fl), .val (.ref b), .unset, .unset, .unset] [(.int (6 : Int32)), (.ref b)])) _
    refine XS.iload X0.here hx rfl (hb hby at_68) rfl ?_
    show Steps p.tables e below (T0.setTop (mkF m 70 #[.val (.long q1), .second, .val (.int p2), .val (.int p3), .val (.int p4), .val (.long n), .second, .val (.int i5), .val (.int fl), .val (.ref b), .unset, .unset, .unset] [(.int fl), (.int (6 : Int32)), (.ref b)])) _
    refine st1 _ ?_
    show Steps p.tables e below (T1.setTop (mkF m 71 #[.val (.long q1), .second, .val (.int p2), .val (.int p3), .val (.int p4), .val (.long n), .second, .val (.int i5), .val (.int fl), .val (.ref b), .unset, .unset, .unset] [])) _
    exact kt
set_option maxRecDepth 65536 in
set_option maxHeartbeats 40000000 in
theorem st_7 {p : Program} {l : Launch} {e : Env} {R : Room} {s : State} {m : MethodId} {args : Array Value} {below : List Frame} {meth : Method} {c : Code} {T0 : State} {locs : List Loc} {cells slots : Nat} {Z : State} {a0 : Array Value} {h0 : Heap} {f : Nat → Value} {n0 : Nat} (q1 n : Int64) (p2 p3 p4 i5 fl : Int32) (b : Addr) (X0 : Stand p l e R s m args below meth c T0 locs cells slots) (hx : p.tables.exec = Jvm.exec) (hZ : Z.Warmed39 s.vm) (hw : ∀ d ∈ tables_1, d.before a0 Z = true) (hby : c.code = code) (hown : s.vm.findClass "com/example/spanlace/spanlace/index/IndexOutputPutVLongPinLaw" = some m.cls) (e0 : T0.heap = h0) (N0 : Fr n0 locs) (g_b : n0 ≤ b) (V0 : own_A Z h0 b .byte 13 f) (hF : ∀ j, j < 7 → f j = .int fl) (hfl : nar .byte fl = fl) :
    ∃ (T' : State) (h' : Heap) (locs' : List Loc) (f' : Nat → Value), Stand p l e R s m args below meth c T' locs' cells slots ∧ T'.heap = h' ∧ Fr n0 locs' ∧ h0.size ≤ h'.size ∧ own_A Z h' b .byte 13 f' ∧ (∀ j, j < 8 → f' j = .int fl) ∧
      ∀ target, Steps p.tables e below (T'.setTop (mkF m 78 #[.val (.long q1), .second, .val (.int p2), .val (.int p3), .val (.int p4), .val (.long n), .second, .val (.int i5), .val (.int fl), .val (.ref b), .unset, .unset, .unset] [])) target → Steps p.tables e below (T0.setTop (mkF m 71 #[.val (.long q1), .second, .val (.int p2), .val (.int p3), .val (.int p4), .val (.long n), .second, .val (.int i5), .val (.int fl), .val (.ref b), .unset, .unset, .unset] [])) target := by
  obtain ⟨cl, Ar, Sz, Hs⟩ := id V0
  obtain ⟨T1, h1, X1, e1, W1, st1⟩ := stB X0 hx hZ e0 Ar (j := (7 : Int32)) (own_in (k := 7) Sz (by decide) rfl (by decide)) (g := (mkF m 77 #[.val (.long q1), .second, .val (.int p2), .val (.int p3), .val (.int p4), .val (.long n), .second, .val (.int i5), .val (.int fl), .val (.ref b), .unset, .unset, .unset] [(.int fl), (.int (7 : Int32)), (.ref b)])) rfl rfl (hb hby at_77)
  have N1 := Fr.snoc X1 N0 g_b
  rw [hfl] at W1
  have U1 : Wr _ _ b 7 (.int fl) := W1
  have V1 := V0.set (k := 7) (by decide) U1
  refine ⟨T1, h1, _, _, X1, e1, N1, (Keep.of_wr W1).1, V1, fun j hj => ?_, fun target kt => ?_⟩
  · show (if j = 7 then _ else f j) = _
    by_cases z : j = 7
    · rw [if_pos z]
    · rw [if_neg z]; exact hF j (by omega)
  · show Steps p.tables e below (T0.setTop (mkF m 71 #[.val (.long q1), .second, .val (.int p2), .val (.int p3), .val (.int p4), .val (.long n), .second, .val (.int i5), .val (.int fl), .val (.ref b), .unset, .unset, .unset] [])) _
    refine XS.aload X0.here hx rfl (hb hby at_71) rfl rfl ?_
    show Steps p.tables e below (T0.setTop (mkF m 73 #[.val (.long q1), .second, .val (.int p2), .val (.int p3), .val (.int p4), .val (.long n), .second, .val (.int i5), .val (.int fl), .val (.ref b), .unset, .unset, .unset] [(.ref b)])) _
    refine XS.bipush X0.here hx rfl (hb hby at_73) ?_
    show Steps p.tables e below (T0.setTop (mkF m 75 #[.val (.long q1), .second, .val (.int p2), .val (.int p3), .val (.int p4), .val (.long n), .second, .val (.int i5), .val (.int fl), .val (.ref b), .unset, .unset, .unset] [(.int (7 : Int32)), (.ref b)])) _
    refine XS.iload X0.here hx rfl (hb hby at_75) rfl ?_
    show Steps p.tables e below (T0.setTop (mkF m 77 #[.val (.long q1), .second, .val (.int p2), .val (.int p3), .val (.int p4), .val (.long n), .second, .val (.int i5), .val (.int fl), .val (.ref b), .unset, .unset, .unset] [(.int fl), (.int (7 : Int32)), (.ref b)])) _
    refine st1 _ ?_
    show Steps p.tables e below (T1.setTop (mkF m 78 #[.val (.long q1), .second, .val (.int p2), .val (.int p3), .val (.int p4), .val (.long n), .second, .val (.int i5), .val (.int fl), .val (.ref b), .unset, .unset, .unset] [])) _
    exact kt
set_option maxRecDepth 65536 in
set_option maxHeartbeats 40000000 in
theorem st_8 {p : Program} {l : Launch} {e : Env} {R : Room} {s : State} {m : MethodId} {args : Array Value} {below : List Frame} {meth : Method} {c : Code} {T0 : State} {locs : List Loc} {cells slots : Nat} {Z : State} {a0 : Array Value} {h0 : Heap} {f : Nat → Value} {n0 : Nat} (q1 n : Int64) (p2 p3 p4 i5 fl : Int32) (b : Addr) (X0 : Stand p l e R s m args below meth c T0 locs cells slots) (hx : p.tables.exec = Jvm.exec) (hZ : Z.Warmed39 s.vm) (hw : ∀ d ∈ tables_1, d.before a0 Z = true) (hby : c.code = code) (hown : s.vm.findClass "com/example/spanlace/spanlace/index/IndexOutputPutVLongPinLaw" = some m.cls) (e0 : T0.heap = h0) (N0 : Fr n0 locs) (g_b : n0 ≤ b) (V0 : own_A Z h0 b .byte 13 f) (hF : ∀ j, j < 8 → f j = .int fl) (hfl : nar .byte fl = fl) :
    ∃ (T' : State) (h' : Heap) (locs' : List Loc) (f' : Nat → Value), Stand p l e R s m args below meth c T' locs' cells slots ∧ T'.heap = h' ∧ Fr n0 locs' ∧ h0.size ≤ h'.size ∧ own_A Z h' b .byte 13 f' ∧ (∀ j, j < 9 → f' j = .int fl) ∧
      ∀ target, Steps p.tables e below (T'.setTop (mkF m 85 #[.val (.long q1), .second, .val (.int p2), .val (.int p3), .val (.int p4), .val (.long n), .second, .val (.int i5), .val (.int fl), .val (.ref b), .unset, .unset, .unset] [])) target → Steps p.tables e below (T0.setTop (mkF m 78 #[.val (.long q1), .second, .val (.int p2), .val (.int p3), .val (.int p4), .val (.long n), .second, .val (.int i5), .val (.int fl), .val (.ref b), .unset, .unset, .unset] [])) target := by
  obtain ⟨cl, Ar, Sz, Hs⟩ := id V0
  obtain ⟨T1, h1, X1, e1, W1, st1⟩ := stB X0 hx hZ e0 Ar (j := (8 : Int32)) (own_in (k := 8) Sz (by decide) rfl (by decide)) (g := (mkF m 84 #[.val (.long q1), .second, .val (.int p2), .val (.int p3), .val (.int p4), .val (.long n), .second, .val (.int i5), .val (.int fl), .val (.ref b), .unset, .unset, .unset] [(.int fl), (.int (8 : Int32)), (.ref b)])) rfl rfl (hb hby at_84)
  have N1 := Fr.snoc X1 N0 g_b
  rw [hfl] at W1
  have U1 : Wr _ _ b 8 (.int fl) := W1
  have V1 := V0.set (k := 8) (by decide) U1
  refine ⟨T1, h1, _, _, X1, e1, N1, (Keep.of_wr W1).1, V1, fun j hj => ?_, fun target kt => ?_⟩
  · show (if j = 8 then _ else f j) = _
    by_cases z : j = 8
    · rw [if_pos z]
    · rw [if_neg z]; exact hF j (by omega)
  · show Steps p.tables e below (T0.setTop (mkF m 78 #[.val (.long q1), .second, .val (.int p2), .val (.int p3), .val (.int p4), .val (.long n), .second, .val (.int i5), .val (.int fl), .val (.ref b), .unset, .unset, .unset] [])) _
    refine XS.aload X0.here hx rfl (hb hby at_78) rfl rfl ?_
    show Steps p.tables e below (T0.setTop (mkF m 80 #[.val (.long q1), .second, .val (.int p2), .val (.int p3), .val (.int p4), .val (.long n), .second, .val (.int i5), .val (.int fl), .val (.ref b), .unset, .unset, .unset] [(.ref b)])) _
    refine XS.bipush X0.here hx rfl (hb hby at_80) ?_
    show Steps p.tables e below (T0.setTop (mkF m 82 #[.val (.long q1), .second, .val (.int p2), .val (.int p3), .val (.int p4), .val (.long n), .second, .val (.int i5), .val (.int fl), .val (.ref b), .unset, .unset, .unset] [(.int (8 : Int32)), (.ref b)])) _
    refine XS.iload X0.here hx rfl (hb hby at_82) rfl ?_
    show Steps p.tables e below (T0.setTop (mkF m 84 #[.val (.long q1), .second, .val (.int p2), .val (.int p3), .val (.int p4), .val (.long n), .second, .val (.int i5), .val (.int fl), .val (.ref b), .unset, .unset, .unset] [(.int fl), (.int (8 : Int32)), (.ref b)])) _
    refine st1 _ ?_
    show Steps p.tables e below (T1.setTop (mkF m 85 #[.val (.long q1), .second, .val (.int p2), .val (.int p3), .val (.int p4), .val (.long n), .second, .val (.int i5), .val (.int fl), .val (.ref b), .unset, .unset, .unset] [])) _
    exact kt
set_option maxRecDepth 65536 in
set_option maxHeartbeats 40000000 in
theorem st_9 {p : Program} {l : Launch} {e : Env} {R : Room} {s : State} {m : MethodId} {args : Array Value} {below : List Frame} {meth : Method} {c : Code} {T0 : State} {locs : List Loc} {cells slots : Nat} {Z : State} {a0 : Array Value} {h0 : Heap} {f : Nat → Value} {n0 : Nat} (q1 n : Int64) (p2 p3 p4 i5 fl : Int32) (b : Addr) (X0 : Stand p l e R s m args below meth c T0 locs cells slots) (hx : p.tables.exec = Jvm.exec) (hZ : Z.Warmed39 s.vm) (hw : ∀ d ∈ tables_1, d.before a0 Z = true) (hby : c.code = code) (hown : s.vm.findClass "com/example/spanlace/spanlace/index/IndexOutputPutVLongPinLaw" = some m.cls) (e0 : T0.heap = h0) (N0 : Fr n0 locs) (g_b : n0 ≤ b) (V0 : own_A Z h0 b .byte 13 f) (hF : ∀ j, j < 9 → f j = .int fl) (hfl : nar .byte fl = fl) :
    ∃ (T' : State) (h' : Heap) (locs' : List Loc) (f' : Nat → Value), Stand p l e R s m args below meth c T' locs' cells slots ∧ T'.heap = h' ∧ Fr n0 locs' ∧ h0.size ≤ h'.size ∧ own_A Z h' b .byte 13 f' ∧ (∀ j, j < 10 → f' j = .int fl) ∧
      ∀ target, Steps p.tables e below (T'.setTop (mkF m 92 #[.val (.long q1), .second, .val (.int p2), .val (.int p3), .val (.int p4), .val (.long n), .second, .val (.int i5), .val (.int fl), .val (.ref b), .unset, .unset, .unset] [])) target → Steps p.tables e below (T0.setTop (mkF m 85 #[.val (.long q1), .second, .val (.int p2), .val (.int p3), .val (.int p4), .val (.long n), .second, .val (.int i5), .val (.int fl), .val (.ref b), .unset, .unset, .unset] [])) target := by
  obtain ⟨cl, Ar, Sz, Hs⟩ := id V0
  obtain ⟨T1, h1, X1, e1, W1, st1⟩ := stB X0 hx hZ e0 Ar (j := (9 : Int32)) (own_in (k := 9) Sz (by decide) rfl (by decide)) (g := (mkF m 91 #[.val (.long q1), .second, .val (.int p2), .val (.int p3), .val (.int p4), .val (.long n), .second, .val (.int i5), .val (.int fl), .val (.ref b), .unset, .unset, .unset] [(.int fl), (.int (9 : Int32)), (.ref b)])) rfl rfl (hb hby at_91)
  have N1 := Fr.snoc X1 N0 g_b
  rw [hfl] at W1
  have U1 : Wr _ _ b 9 (.int fl) := W1
  have V1 := V0.set (k := 9) (by decide) U1
  refine ⟨T1, h1, _, _, X1, e1, N1, (Keep.of_wr W1).1, V1, fun j hj => ?_, fun target kt => ?_⟩
  · show (if j = 9 then _ else f j) = _
    by_cases z : j = 9
    · rw [if_pos z]
    · rw [if_neg z]; exact hF j (by omega)
  · show Steps p.tables e below (T0.setTop (mkF m 85 #[.val (.long q1), .second, .val (.int p2), .val (.int p3), .val (.int p4), .val (.long n), .second, .val (.int i5), .val (.int fl), .val (.ref b), .unset, .unset, .unset] [])) _
    refine XS.aload X0.here hx rfl (hb hby at_85) rfl rfl ?_
    show Steps p.tables e below (T0.setTop (mkF m 87 #[.val (.long q1), .second, .val (.int p2), .val (.int p3), .val (.int p4), .val (.long n), .second, .val (.int i5), .val (.int fl), .val (.ref b), .unset, .unset, .unset] [(.ref b)])) _
    refine XS.bipush X0.here hx rfl (hb hby at_87) ?_
    show Steps p.tables e below (T0.setTop (mkF m 89 #[.val (.long q1), .second, .val (.int p2), .val (.int p3), .val (.int p4), .val (.long n), .second, .val (.int i5), .val (.int fl), .val (.ref b), .unset, .unset, .unset] [(.int (9 : Int32)), (.ref b)])) _
    refine XS.iload X0.here hx rfl (hb hby at_89) rfl ?_
    show Steps p.tables e below (T0.setTop (mkF m 91 #[.val (.long q1), .second, .val (.int p2), .val (.int p3), .val (.int p4), .val (.long n), .second, .val (.int i5), .val (.int fl), .val (.ref b), .unset, .unset, .unset] [(.int fl), (.int (9 : Int32)), (.ref b)])) _
    refine st1 _ ?_
    show Steps p.tables e below (T1.setTop (mkF m 92 #[.val (.long q1), .second, .val (.int p2), .val (.int p3), .val (.int p4), .val (.long n), .second, .val (.int i5), .val (.int fl), .val (.ref b), .unset, .unset, .unset] [])) _
    exact kt
set_option maxRecDepth 65536 in
set_option maxHeartbeats 40000000 in
theorem st_10 {p : Program} {l : Launch} {e : Env} {R : Room} {s : State} {m : MethodId} {args : Array Value} {below : List Frame} {meth : Method} {c : Code} {T0 : State} {locs : List Loc} {cells slots : Nat} {Z : State} {a0 : Array Value} {h0 : Heap} {f : Nat → Value} {n0 : Nat} (q1 n : Int64) (p2 p3 p4 i5 fl : Int32) (b : Addr) (X0 : Stand p l e R s m args below meth c T0 locs cells slots) (hx : p.tables.exec = Jvm.exec) (hZ : Z.Warmed39 s.vm) (hw : ∀ d ∈ tables_1, d.before a0 Z = true) (hby : c.code = code) (hown : s.vm.findClass "com/example/spanlace/spanlace/index/IndexOutputPutVLongPinLaw" = some m.cls) (e0 : T0.heap = h0) (N0 : Fr n0 locs) (g_b : n0 ≤ b) (V0 : own_A Z h0 b .byte 13 f) (hF : ∀ j, j < 10 → f j = .int fl) (hfl : nar .byte fl = fl) :
    ∃ (T' : State) (h' : Heap) (locs' : List Loc) (f' : Nat → Value), Stand p l e R s m args below meth c T' locs' cells slots ∧ T'.heap = h' ∧ Fr n0 locs' ∧ h0.size ≤ h'.size ∧ own_A Z h' b .byte 13 f' ∧ (∀ j, j < 11 → f' j = .int fl) ∧
      ∀ target, Steps p.tables e below (T'.setTop (mkF m 99 #[.val (.long q1), .second, .val (.int p2), .val (.int p3), .val (.int p4), .val (.long n), .second, .val (.int i5), .val (.int fl), .val (.ref b), .unset, .unset, .unset] [])) target → Steps p.tables e below (T0.setTop (mkF m 92 #[.val (.long q1), .second, .val (.int p2), .val (.int p3), .val (.int p4), .val (.long n), .second, .val (.int i5), .val (.int fl), .val (.ref b), .unset, .unset, .unset] [])) target := by
  obtain ⟨cl, Ar, Sz, Hs⟩ := id V0
  obtain ⟨T1, h1, X1, e1, W1, st1⟩ := stB X0 hx hZ e0 Ar (j := (10 : Int32)) (own_in (k := 10) Sz (by decide) rfl (by decide)) (g := (mkF m 98 #[.val (.long q1), .second, .val (.int p2), .val (.int p3), .val (.int p4), .val (.long n), .second, .val (.int i5), .val (.int fl), .val (.ref b), .unset, .unset, .unset] [(.int fl), (.int (10 : Int32)), (.ref b)])) rfl rfl (hb hby at_98)
  have N1 := Fr.snoc X1 N0 g_b
  rw [hfl] at W1
  have U1 : Wr _ _ b 10 (.int fl) := W1
  have V1 := V0.set (k := 10) (by decide) U1
  refine ⟨T1, h1, _, _, X1, e1, N1, (Keep.of_wr W1).1, V1, fun j hj => ?_, fun target kt => ?_⟩
  · show (if j = 10 then _ else f j) = _
    by_cases z : j = 10
    · rw [if_pos z]
    · rw [if_neg z]; exact hF j (by omega)
  · show Steps p.tables e below (T0.setTop (mkF m 92 #[.val (.long q1), .second, .val (.int p2), .val (.int p3), .val (.int p4), .val (.long n), .second, .val (.int i5), .val (.int fl), .val (.ref b), .unset, .unset, .unset] [])) _
    refine XS.aload X0.here hx rfl (hb hby at_92) rfl rfl ?_
    show Steps p.tables e below (T0.setTop (mkF m 94 #[.val (.long q1), .second, .val (.int p2), .val (.int p3), .val (.int p4), .val (.long n), .second, .val (.int i5), .val (.int fl), .val (.ref b), .unset, .unset, .unset] [(.ref b)])) _
    refine XS.bipush X0.here hx rfl (hb hby at_94) ?_
    show Steps p.tables e below (T0.setTop (mkF m 96 #[.val (.long q1), .second, .val (.int p2), .val (.int p3), .val (.int p4), .val (.long n), .second, .val (.int i5), .val (.int fl), .val (.ref b), .unset, .unset, .unset] [(.int (10 : Int32)), (.ref b)])) _
    refine XS.iload X0.here hx rfl (hb hby at_96) rfl ?_
    show Steps p.tables e below (T0.setTop (mkF m 98 #[.val (.long q1), .second, .val (.int p2), .val (.int p3), .val (.int p4), .val (.long n), .second, .val (.int i5), .val (.int fl), .val (.ref b), .unset, .unset, .unset] [(.int fl), (.int (10 : Int32)), (.ref b)])) _
    refine st1 _ ?_
    show Steps p.tables e below (T1.setTop (mkF m 99 #[.val (.long q1), .second, .val (.int p2), .val (.int p3), .val (.int p4), .val (.long n), .second, .val (.int i5), .val (.int fl), .val (.ref b), .unset, .unset, .unset] [])) _
    exact kt
set_option maxRecDepth 65536 in
set_option maxHeartbeats 40000000 in
theorem st_11 {p : Program} {l : Launch} {e : Env} {R : Room} {s : State} {m : MethodId} {args : Array Value} {below : List Frame} {meth : Method} {c : Code} {T0 : State} {locs : List Loc} {cells slots : Nat} {Z : State} {a0 : Array Value} {h0 : Heap} {f : Nat → Value} {n0 : Nat} (q1 n : Int64) (p2 p3 p4 i5 fl : Int32) (b : Addr) (X0 : Stand p l e R s m args below meth c T0 locs cells slots) (hx : p.tables.exec = Jvm.exec) (hZ : Z.Warmed39 s.vm) (hw : ∀ d ∈ tables_1, d.before a0 Z = true) (hby : c.code = code) (hown : s.vm.findClass "com/example/spanlace/spanlace/index/IndexOutputPutVLongPinLaw" = some m.cls) (e0 : T0.heap = h0) (N0 : Fr n0 locs) (g_b : n0 ≤ b) (V0 : own_A Z h0 b .byte 13 f) (hF : ∀ j, j < 11 → f j = .int fl) (hfl : nar .byte fl = fl) :
    ∃ (T' : State) (h' : Heap) (locs' : List Loc) (f' : Nat → Value), Stand p l e R s m args below meth c T' locs' cells slots ∧ T'.heap = h' ∧ Fr n0 locs' ∧ h0.size ≤ h'.size ∧ own_A Z h' b .byte 13 f' ∧ (∀ j, j < 12 → f' j = .int fl) ∧
      ∀ target, Steps p.tables e below (T'.setTop (mkF m 106 #[.val (.long q1), .second, .val (.int p2), .val (.int p3), .val (.int p4), .val (.long n), .second, .val (.int i5), .val (.int fl), .val (.ref b), .unset, .unset, .unset] [])) target → Steps p.tables e below (T0.setTop (mkF m 99 #[.val (.long q1), .second, .val (.int p2), .val (.int p3), .val (.int p4), .val (.long n), .second, .val (.int i5), .val (.int fl), .val (.ref b), .unset, .unset, .unset] [])) target := by
  obtain ⟨cl, Ar, Sz, Hs⟩ := id V0
  obtain ⟨T1, h1, X1, e1, W1, st1⟩ := stB X0 hx hZ e0 Ar (j := (11 : Int32)) (own_in (k := 11) Sz (by decide) rfl (by decide)) (g := (mkF m 105 #[.val (.long q1), .second, .val (.int p2), .val (.int p3), .val (.int p4), .val (.long n), .second, .val (.int i5), .val (.int fl), .val (.ref b), .unset, .unset, .unset] [(.int fl), (.int (11 : Int32)), (.ref b)])) rfl rfl (hb hby at_105)
  have N1 := Fr.snoc X1 N0 g_b
  rw [hfl] at W1
  have U1 : Wr _ _ b 11 (.int fl) := W1
  have V1 := V0.set (k := 11) (by decide) U1
  refine ⟨T1, h1, _, _, X1, e1, N1, (Keep.of_wr W1).1, V1, fun j hj => ?_, fun target kt => ?_⟩
  · show (if j = 11 then _ else f j) = _
    by_cases z : j = 11
    · rw [if_pos z]
    · rw [if_neg z]; exact hF j (by omega)
  · show Steps p.tables e below (T0.setTop (mkF m 99 #[.val (.long q1), .second, .val (.int p2), .val (.int p3), .val (.int p4), .val (.long n), .second, .val (.int i5), .val (.int fl), .val (.ref b), .unset, .unset, .unset] [])) _
    refine XS.aload X0.here hx rfl (hb hby at_99) rfl rfl ?_
    show Steps p.tables e below (T0.setTop (mkF m 101 #[.val (.long q1), .second, .val (.int p2), .val (.int p3), .val (.int p4), .val (.long n), .second, .val (.int i5), .val (.int fl), .val (.ref b), .unset, .unset, .unset] [(.ref b)])) _
    refine XS.bipush X0.here hx rfl (hb hby at_101) ?_
    show Steps p.tables e below (T0.setTop (mkF m 103 #[.val (.long q1), .second, .val (.int p2), .val (.int p3), .val (.int p4), .val (.long n), .second, .val (.int i5), .val (.int fl), .val (.ref b), .unset, .unset, .unset] [(.int (11 : Int32)), (.ref b)])) _
    refine XS.iload X0.here hx rfl (hb hby at_103) rfl ?_
    show Steps p.tables e below (T0.setTop (mkF m 105 #[.val (.long q1), .second, .val (.int p2), .val (.int p3), .val (.int p4), .val (.long n), .second, .val (.int i5), .val (.int fl), .val (.ref b), .unset, .unset, .unset] [(.int fl), (.int (11 : Int32)), (.ref b)])) _
    refine st1 _ ?_
    show Steps p.tables e below (T1.setTop (mkF m 106 #[.val (.long q1), .second, .val (.int p2), .val (.int p3), .val (.int p4), .val (.long n), .second, .val (.int i5), .val (.int fl), .val (.ref b), .unset, .unset, .unset] [])) _
    exact kt
set_option maxRecDepth 65536 in
set_option maxHeartbeats 40000000 in
theorem st_12 {p : Program} {l : Launch} {e : Env} {R : Room} {s : State} {m : MethodId} {args : Array Value} {below : List Frame} {meth : Method} {c : Code} {T0 : State} {locs : List Loc} {cells slots : Nat} {Z : State} {a0 : Array Value} {h0 : Heap} {f : Nat → Value} {n0 : Nat} (q1 n : Int64) (p2 p3 p4 i5 fl : Int32) (b : Addr) (X0 : Stand p l e R s m args below meth c T0 locs cells slots) (hx : p.tables.exec = Jvm.exec) (hZ : Z.Warmed39 s.vm) (hw : ∀ d ∈ tables_1, d.before a0 Z = true) (hby : c.code = code) (hown : s.vm.findClass "com/example/spanlace/spanlace/index/IndexOutputPutVLongPinLaw" = some m.cls) (e0 : T0.heap = h0) (N0 : Fr n0 locs) (g_b : n0 ≤ b) (V0 : own_A Z h0 b .byte 13 f) (hF : ∀ j, j < 12 → f j = .int fl) (hfl : nar .byte fl = fl) :
    ∃ (T' : State) (h' : Heap) (locs' : List Loc) (f' : Nat → Value), Stand p l e R s m args below meth c T' locs' cells slots ∧ T'.heap = h' ∧ Fr n0 locs' ∧ h0.size ≤ h'.size ∧ own_A Z h' b .byte 13 f' ∧ (∀ j, j < 13 → f' j = .int fl) ∧
      ∀ target, Steps p.tables e below (T'.setTop (mkF m 113 #[.val (.long q1), .second, .val (.int p2), .val (.int p3), .val (.int p4), .val (.long n), .second, .val (.int i5), .val (.int fl), .val (.ref b), .unset, .unset, .unset] [])) target → Steps p.tables e below (T0.setTop (mkF m 106 #[.val (.long q1), .second, .val (.int p2), .val (.int p3), .val (.int p4), .val (.long n), .second, .val (.int i5), .val (.int fl), .val (.ref b), .unset, .unset, .unset] [])) target := by
  obtain ⟨cl, Ar, Sz, Hs⟩ := id V0
  obtain ⟨T1, h1, X1, e1, W1, st1⟩ := stB X0 hx hZ e0 Ar (j := (12 : Int32)) (own_in (k := 12) Sz (by decide) rfl (by decide)) (g := (mkF m 112 #[.val (.long q1), .second, .val (.int p2), .val (.int p3), .val (.int p4), .val (.long n), .second, .val (.int i5), .val (.int fl), .val (.ref b), .unset, .unset, .unset] [(.int fl), (.int (12 : Int32)), (.ref b)])) rfl rfl (hb hby at_112)
  have N1 := Fr.snoc X1 N0 g_b
  rw [hfl] at W1
  have U1 : Wr _ _ b 12 (.int fl) := W1
  have V1 := V0.set (k := 12) (by decide) U1
  refine ⟨T1, h1, _, _, X1, e1, N1, (Keep.of_wr W1).1, V1, fun j hj => ?_, fun target kt => ?_⟩
  · show (if j = 12 then _ else f j) = _
    by_cases z : j = 12
    · rw [if_pos z]
    · rw [if_neg z]; exact hF j (by omega)
  · show Steps p.tables e below (T0.setTop (mkF m 106 #[.val (.long q1), .second, .val (.int p2), .val (.int p3), .val (.int p4), .val (.long n), .second, .val (.int i5), .val (.int fl), .val (.ref b), .unset, .unset, .unset] [])) _
    refine XS.aload X0.here hx rfl (hb hby at_106) rfl rfl ?_
    show Steps p.tables e below (T0.setTop (mkF m 108 #[.val (.long q1), .second, .val (.int p2), .val (.int p3), .val (.int p4), .val (.long n), .second, .val (.int i5), .val (.int fl), .val (.ref b), .unset, .unset, .unset] [(.ref b)])) _
    refine XS.bipush X0.here hx rfl (hb hby at_108) ?_
    show Steps p.tables e below (T0.setTop (mkF m 110 #[.val (.long q1), .second, .val (.int p2), .val (.int p3), .val (.int p4), .val (.long n), .second, .val (.int i5), .val (.int fl), .val (.ref b), .unset, .unset, .unset] [(.int (12 : Int32)), (.ref b)])) _
    refine XS.iload X0.here hx rfl (hb hby at_110) rfl ?_
    show Steps p.tables e below (T0.setTop (mkF m 112 #[.val (.long q1), .second, .val (.int p2), .val (.int p3), .val (.int p4), .val (.long n), .second, .val (.int i5), .val (.int fl), .val (.ref b), .unset, .unset, .unset] [(.int fl), (.int (12 : Int32)), (.ref b)])) _
    refine st1 _ ?_
    show Steps p.tables e below (T1.setTop (mkF m 113 #[.val (.long q1), .second, .val (.int p2), .val (.int p3), .val (.int p4), .val (.long n), .second, .val (.int i5), .val (.int fl), .val (.ref b), .unset, .unset, .unset] [])) _
    exact kt
set_option maxRecDepth 65536 in
set_option maxHeartbeats 40000000 in
theorem ck_0 {p : Program} {l : Launch} {e : Env} {s : State} {m : MethodId} {args : Array Value} {below : List Frame} {meth : Method} {c : Code} {T0 : State} {locs : List Loc} {cells slots : Nat} {Z : State} {a0 : Array Value} {h0 : Heap} {f : Nat → Value} {n0 : Nat} (q1 n : Int64) (p2 p3 p4 i5 fl : Int32) (b : Addr) (le en : Int32) (X0 : Stand p l e room_1 s m args below meth c T0 locs cells slots) (hx : p.tables.exec = Jvm.exec) (hZ : Z.Warmed39 s.vm) (hw : ∀ d ∈ tables_1, d.before a0 Z = true) (hby : c.code = code) (hown : s.vm.findClass "com/example/spanlace/spanlace/index/IndexOutputPutVLongPinLaw" = some m.cls) (hml : c.maxLocals = 13) (e0 : T0.heap = h0) (N0 : Fr n0 locs) (Z0 : n0 ≤ h0.size) (hcl : cells + 0 ≤ room_1.cells) (hsl : slots + 0 ≤ room_1.slots) (V0 : own_A Z h0 b .byte 13 f) (hat : f ((0 : Int32).toNatClampNeg) = .int (own_want (0 : Int32) i5 le n fl)) :
    ∃ (T' : State) (locs' : List Loc), Stand p l e room_1 s m args below meth c T' locs' cells slots ∧ T'.heap = h0 ∧ Fr n0 locs' ∧
      ∀ target, Steps p.tables e below (T'.setTop (mkF m 177 #[.val (.long q1), .second, .val (.int p2), .val (.int p3), .val (.int p4), .val (.long n), .second, .val (.int i5), .val (.int fl), .val (.ref b), .val (.int le), .val (.int en), .val (.int (1 : Int32))] [])) target → Steps p.tables e below (T0.setTop (mkF m 148 #[.val (.long q1), .second, .val (.int p2), .val (.int p3), .val (.int p4), .val (.long n), .second, .val (.int i5), .val (.int fl), .val (.ref b), .val (.int le), .val (.int en), .val (.int (1 : Int32))] [])) target := by
  obtain ⟨_, _, ⟨T1, L1, k1, n1⟩, -, X1, ⟨Lc1, hQ1, l1, y1, z1⟩, st1⟩ := Jvm.LawKit.callS X0 hx (y := (⟨"com/example/spanlace/spanlace/index/IndexOutputPutVLongPinLaw", "cell", "([BIIIJB)Z"⟩ : MethodName)) hown (mvT hZ (hw _ (List.mem_of_getElem? (i := 12) rfl))) (mvT hZ (hw _ (List.mem_of_getElem? (i := 13) rfl))) (mvT hZ (hw _ (List.mem_of_getElem? (i := 4) rfl))) (mvT hZ (hw _ (List.mem_of_getElem? (i := 14) rfl))) (by decide) (backOf (W := 0) (rm2 l Z a0 hw [] b (0 : Int32) i5 le n fl f h0 n0 Z0 V0 (by decide) (by decide) hat) hZ (hw _ (List.mem_of_getElem? (i := 14) rfl)) (hw _ (List.mem_of_getElem? (i := 4) rfl)) (by decide) (by decide)) (g := (mkF m 164 #[.val (.long q1), .second, .val (.int p2), .val (.int p3), .val (.int p4), .val (.long n), .second, .val (.int i5), .val (.int fl), .val (.ref b), .val (.int le), .val (.int en), .val (.int (1 : Int32))] [(.int fl), (.long n), (.int le), (.int i5), (.int (0 : Int32)), (.ref b)])) rfl (by rw [hml]; rfl) (argsL := [(.ref b), (.int (0 : Int32)), (.int i5), (.int le), (.long n), (.int fl)]) (rest := []) (lenOf pdx_0 rfl) rfl (by show 2 * 0 + _ ≤ _; exact Nat.le_of_eq rfl) (hb hby at_164) (fun _ _ => ⟨rfl, e0, hcl, hsl⟩)
  dsimp only [Pt.U, Pt.locs, Pt.cells, Pt.slots] at X1 l1 y1 z1 st1 hQ1
  subst l1 y1 z1
  obtain ⟨rfl, N1q, e1⟩ := hQ1
  have N1 := Fr.app N0 N1q
  refine ⟨T1, _, X1, e1, N1, fun target kt => ?_⟩
  show Steps p.tables e below (T0.setTop (mkF m 148 #[.val (.long q1), .second, .val (.int p2), .val (.int p3), .val (.int p4), .val (.long n), .second, .val (.int i5), .val (.int fl), .val (.ref b), .val (.int le), .val (.int en), .val (.int (1 : Int32))] [])) _
  refine XS.iload X0.here hx rfl (hb hby at_148) rfl ?_
  show Steps p.tables e below (T0.setTop (mkF m 150 #[.val (.long q1), .second, .val (.int p2), .val (.int p3), .val (.int p4), .val (.long n), .second, .val (.int i5), .val (.int fl), .val (.ref b), .val (.int le), .val (.int en), .val (.int (1 : Int32))] [(.int (1 : Int32))])) _
  refine XS.ifNo X0.here hx rfl (hb hby at_150) rfl ((if0 _ _).trans (feq (by decide : ¬ ((1 : Int32) = (0 : Int32)))).1) ?_
  show Steps p.tables e below (T0.setTop (mkF m 153 #[.val (.long q1), .second, .val (.int p2), .val (.int p3), .val (.int p4), .val (.long n), .second, .val (.int i5), .val (.int fl), .val (.ref b), .val (.int le), .val (.int en), .val (.int (1 : Int32))] [])) _
  refine XS.aload X0.here hx rfl (hb hby at_153) rfl rfl ?_
  show Steps p.tables e below (T0.setTop (mkF m 155 #[.val (.long q1), .second, .val (.int p2), .val (.int p3), .val (.int p4), .val (.long n), .second, .val (.int i5), .val (.int fl), .val (.ref b), .val (.int le), .val (.int en), .val (.int (1 : Int32))] [(.ref b)])) _
  refine XS.iconst X0.here hx rfl (hb hby at_155) ?_
  show Steps p.tables e below (T0.setTop (mkF m 156 #[.val (.long q1), .second, .val (.int p2), .val (.int p3), .val (.int p4), .val (.long n), .second, .val (.int i5), .val (.int fl), .val (.ref b), .val (.int le), .val (.int en), .val (.int (1 : Int32))] [(.int (0 : Int32)), (.ref b)])) _
  refine XS.iload X0.here hx rfl (hb hby at_156) rfl ?_
  show Steps p.tables e below (T0.setTop (mkF m 158 #[.val (.long q1), .second, .val (.int p2), .val (.int p3), .val (.int p4), .val (.long n), .second, .val (.int i5), .val (.int fl), .val (.ref b), .val (.int le), .val (.int en), .val (.int (1 : Int32))] [(.int i5), (.int (0 : Int32)), (.ref b)])) _
  refine XS.iload X0.here hx rfl (hb hby at_158) rfl ?_
  show Steps p.tables e below (T0.setTop (mkF m 160 #[.val (.long q1), .second, .val (.int p2), .val (.int p3), .val (.int p4), .val (.long n), .second, .val (.int i5), .val (.int fl), .val (.ref b), .val (.int le), .val (.int en), .val (.int (1 : Int32))] [(.int le), (.int i5), (.int (0 : Int32)), (.ref b)])) _
  refine XS.lload X0.here hx rfl (hb hby at_160) rfl ?_
  show Steps p.tables e below (T0.setTop (mkF m 162 #[.val (.long q1), .second, .val (.int p2), .val (.int p3), .val (.int p4), .val (.long n), .second, .val (.int i5), .val (.int fl), .val (.ref b), .val (.int le), .val (.int en), .val (.int (1 : Int32))] [(.long n), (.int le), (.int i5), (.int (0 : Int32)), (.ref b)])) _
  refine XS.iload X0.here hx rfl (hb hby at_162) rfl ?_
  show Steps p.tables e below (T0.setTop (mkF m 164 #[.val (.long q1), .second, .val (.int p2), .val (.int p3), .val (.int p4), .val (.long n), .second, .val (.int i5), .val (.int fl), .val (.ref b), .val (.int le), .val (.int en), .val (.int (1 : Int32))] [(.int fl), (.long n), (.int le), (.int i5), (.int (0 : Int32)), (.ref b)])) _
  refine st1 _ ?_
  show Steps p.tables e below (T1.setTop (mkF m 167 #[.val (.long q1), .second, .val (.int p2), .val (.int p3), .val (.int p4), .val (.long n), .second, .val (.int i5), .val (.int fl), .val (.ref b), .val (.int le), .val (.int en), .val (.int (1 : Int32))] [(.int (1 : Int32))])) _
  refine XS.ifNo X1.here hx rfl (hb hby at_167) rfl ((if0 _ _).trans (feq (by decide : ¬ ((1 : Int32) = (0 : Int32)))).1) ?_
  show Steps p.tables e below (T1.setTop (mkF m 170 #[.val (.long q1), .second, .val (.int p2), .val (.int p3), .val (.int p4), .val (.long n), .second, .val (.int i5), .val (.int fl), .val (.ref b), .val (.int le), .val (.int en), .val (.int (1 : Int32))] [])) _
  refine XS.iconst X1.here hx rfl (hb hby at_170) ?_
  show Steps p.tables e below (T1.setTop (mkF m 171 #[.val (.long q1), .second, .val (.int p2), .val (.int p3), .val (.int p4), .val (.long n), .second, .val (.int i5), .val (.int fl), .val (.ref b), .val (.int le), .val (.int en), .val (.int (1 : Int32))] [(.int (1 : Int32))])) _
  refine XS.goto X1.here hx rfl (pc0 := 171) (pc' := 175) rfl (hb hby at_171) (by decide) (by decide) ?_
  show Steps p.tables e below (T1.setTop (mkF m 175 #[.val (.long q1), .second, .val (.int p2), .val (.int p3), .val (.int p4), .val (.long n), .second, .val (.int i5), .val (.int fl), .val (.ref b), .val (.int le), .val (.int en), .val (.int (1 : Int32))] [(.int (1 : Int32))])) _
  refine XS.istore X1.here hx rfl (hb hby at_175) rfl (l' := #[.val (.long q1), .second, .val (.int p2), .val (.int p3), .val (.int p4), .val (.long n), .second, .val (.int i5), .val (.int fl), .val (.ref b), .val (.int le), .val (.int en), .val (.int (1 : Int32))]) rfl ?_
  show Steps p.tables e below (T1.setTop (mkF m 177 #[.val (.long q1), .second, .val (.int p2), .val (.int p3), .val (.int p4), .val (.long n), .second, .val (.int i5), .val (.int fl), .val (.ref b), .val (.int le), .val (.int en), .val (.int (1 : Int32))] [])) _
  exact kt
set_option maxRecDepth 65536 in
set_option maxHeartbeats 40000000 in
theorem ck_1 {p : Program} {l : Launch} {e : Env} {s : State} {m : MethodId} {args : Array Value} {below : List Frame} {meth : Method} {c : Code} {T0 : State} {locs : List Loc} {cells slots : Nat} {Z : State} {a0 : Array Value} {h0 : Heap} {f : Nat → Value} {n0 : Nat} (q1 n : Int64) (p2 p3 p4 i5 fl : Int32) (b : Addr) (le en : Int32) (X0 : Stand p l e room_1 s m args below meth c T0 locs cells slots) (hx : p.tables.exec = Jvm.exec) (hZ : Z.Warmed39 s.vm) (hw : ∀ d ∈ tables_1, d.before a0 Z = true) (hby : c.code = code) (hown : s.vm.findClass "com/example/spanlace/spanlace/index/IndexOutputPutVLongPinLaw" = some m.cls) (hml : c.maxLocals = 13) (e0 : T0.heap = h0) (N0 : Fr n0 locs) (Z0 : n0 ≤ h0.size) (hcl : cells + 0 ≤ room_1.cells) (hsl : slots + 0 ≤ room_1.slots) (V0 : own_A Z h0 b .byte 13 f) (hat : f ((1 : Int32).toNatClampNeg) = .int (own_want (1 : Int32) i5 le n fl)) :
    ∃ (T' : State) (locs' : List Loc), Stand p l e room_1 s m args below meth c T' locs' cells slots ∧ T'.heap = h0 ∧ Fr n0 locs' ∧
      ∀ target, Steps p.tables e below (T'.setTop (mkF m 206 #[.val (.long q1), .second, .val (.int p2), .val (.int p3), .val (.int p4), .val (.long n), .second, .val (.int i5), .val (.int fl), .val (.ref b), .val (.int le), .val (.int en), .val (.int (1 : Int32))] [])) target → Steps p.tables e below (T0.setTop (mkF m 177 #[.val (.long q1), .second, .val (.int p2), .val (.int p3), .val (.int p4), .val (.long n), .second, .val (.int i5), .val (.int fl), .val (.ref b), .val (.int le), .val (.int en), .val (.int (1 : Int32))] [])) target := by
  obtain ⟨_, _, ⟨T1, L1, k1, n1⟩, -, X1, ⟨Lc1, hQ1, l1, y1, z1⟩, st1⟩ := Jvm.LawKit.callS X0 hx (y := (⟨"com/example/spanlace/spanlace/index/IndexOutputPutVLongPinLaw", "cell", "([BIIIJB)Z"⟩ : MethodName)) hown (mvT hZ (hw _ (List.mem_of_getElem? (i := 12) rfl))) (mvT hZ (hw _ (List.mem_of_getElem? (i := 13) rfl))) (mvT hZ (hw _ (List.mem_of_getElem? (i := 4) rfl))) (mvT hZ (hw _ (List.mem_of_getElem? (i := 14) rfl))) (by decide) (backOf (W := 0) (rm2 l Z a0 hw [] b (1 : Int32) i5 le n fl f h0 n0 Z0 V0 (by decide) (by decide) hat) hZ (hw _ (List.mem_of_getElem? (i := 14) rfl)) (hw _ (List.mem_of_getElem? (i := 4) rfl)) (by decide) (by decide)) (g := (mkF m 193 #[.val (.long q1), .second, .val (.int p2), .val (.int p3), .val (.int p4), .val (.long n), .second, .val (.int i5), .val (.int fl), .val (.ref b), .val (.int le), .val (.int en), .val (.int (1 : Int32))] [(.int fl), (.long n), (.int le), (.int i5), (.int (1 : Int32)), (.ref b)])) rfl (by rw [hml]; rfl) (argsL := [(.ref b), (.int (1 : Int32)), (.int i5), (.int le), (.long n), (.int fl)]) (rest := []) (lenOf pdx_0 rfl) rfl (by show 2 * 0 + _ ≤ _; exact Nat.le_of_eq rfl) (hb hby at_193) (fun _ _ => ⟨rfl, e0, hcl, hsl⟩)
  dsimp only [Pt.U, Pt.locs, Pt.cells, Pt.slots] at X1 l1 y1 z1 st1 hQ1
  subst l1 y1 z1
  obtain ⟨rfl, N1q, e1⟩ := hQ1
  have N1 := Fr.app N0 N1q
  refine ⟨T1, _, X1, e1, N1, fun target kt => ?_⟩
  show Steps p.tables e below (T0.setTop (mkF m 177 #[.val (.long q1), .second, .val (.int p2), .val (.int p3), .val (.int p4), .val (.long n), .second, .val (.int i5), .val (.int fl), .val (.ref b), .val (.int le), .val (.int en), .val (.int (1 : Int32))] [])) _
  refine XS.iload X0.here hx rfl (hb hby at_177) rfl ?_
  show Steps p.tables e below (T0.setTop (mkF m 179 #[.val (.long q1), .second, .val (.int p2), .val (.int p3), .val (.int p4), .val (.long n), .second, .val (.int i5), .val (.int fl), .val (.ref b), .val (.int le), .val (.int en), .val (.int (1 : Int32))] [(.int (1 : Int32))])) _
  refine XS.ifNo X0.here hx rfl (hb hby at_179) rfl ((if0 _ _).trans (feq (by decide : ¬ ((1 : Int32) = (0 : Int32)))).1) ?_
  show Steps p.tables e below (T0.setTop (mkF m 182 #[.val (.long q1), .second, .val (.int p2), .val (.int p3), .val (.int p4), .val (.long n), .second, .val (.int i5), .val (.int fl), .val (.ref b), .val (.int le), .val (.int en), .val (.int (1 : Int32))] [])) _
  refine XS.aload X0.here hx rfl (hb hby at_182) rfl rfl ?_
  show Steps p.tables e below (T0.setTop (mkF m 184 #[.val (.long q1), .second, .val (.int p2), .val (.int p3), .val (.int p4), .val (.long n), .second, .val (.int i5), .val (.int fl), .val (.ref b), .val (.int le), .val (.int en), .val (.int (1 : Int32))] [(.ref b)])) _
  refine XS.iconst X0.here hx rfl (hb hby at_184) ?_
  show Steps p.tables e below (T0.setTop (mkF m 185 #[.val (.long q1), .second, .val (.int p2), .val (.int p3), .val (.int p4), .val (.long n), .second, .val (.int i5), .val (.int fl), .val (.ref b), .val (.int le), .val (.int en), .val (.int (1 : Int32))] [(.int (1 : Int32)), (.ref b)])) _
  refine XS.iload X0.here hx rfl (hb hby at_185) rfl ?_
  show Steps p.tables e below (T0.setTop (mkF m 187 #[.val (.long q1), .second, .val (.int p2), .val (.int p3), .val (.int p4), .val (.long n), .second, .val (.int i5), .val (.int fl), .val (.ref b), .val (.int le), .val (.int en), .val (.int (1 : Int32))] [(.int i5), (.int (1 : Int32)), (.ref b)])) _
  refine XS.iload X0.here hx rfl (hb hby at_187) rfl ?_
  show Steps p.tables e below (T0.setTop (mkF m 189 #[.val (.long q1), .second, .val (.int p2), .val (.int p3), .val (.int p4), .val (.long n), .second, .val (.int i5), .val (.int fl), .val (.ref b), .val (.int le), .val (.int en), .val (.int (1 : Int32))] [(.int le), (.int i5), (.int (1 : Int32)), (.ref b)])) _
  refine XS.lload X0.here hx rfl (hb hby at_189) rfl ?_
  show Steps p.tables e below (T0.setTop (mkF m 191 #[.val (.long q1), .second, .val (.int p2), .val (.int p3), .val (.int p4), .val (.long n), .second, .val (.int i5), .val (.int fl), .val (.ref b), .val (.int le), .val (.int en), .val (.int (1 : Int32))] [(.long n), (.int le), (.int i5), (.int (1 : Int32)), (.ref b)])) _
  refine XS.iload X0.here hx rfl (hb hby at_191) rfl ?_
  show Steps p.tables e below (T0.setTop (mkF m 193 #[.val (.long q1), .second, .val (.int p2), .val (.int p3), .val (.int p4), .val (.long n), .second, .val (.int i5), .val (.int fl), .val (.ref b), .val (.int le), .val (.int en), .val (.int (1 : Int32))] [(.int fl), (.long n), (.int le), (.int i5), (.int (1 : Int32)), (.ref b)])) _
  refine st1 _ ?_
  show Steps p.tables e below (T1.setTop (mkF m 196 #[.val (.long q1), .second, .val (.int p2), .val (.int p3), .val (.int p4), .val (.long n), .second, .val (.int i5), .val (.int fl), .val (.ref b), .val (.int le), .val (.int en), .val (.int (1 : Int32))] [(.int (1 : Int32))])) _
  refine XS.ifNo X1.here hx rfl (hb hby at_196) rfl ((if0 _ _).trans (feq (by decide : ¬ ((1 : Int32) = (0 : Int32)))).1) ?_
  show Steps p.tables e below (T1.setTop (mkF m 199 #[.val (.long q1), .second, .val (.int p2), .val (.int p3), .val (.int p4), .val (.long n), .second, .val (.int i5), .val (.int fl), .val (.ref b), .val (.int le), .val (.int en), .val (.int (1 : Int32))] [])) _
  refine XS.iconst X1.here hx rfl (hb hby at_199) ?_
  show Steps p.tables e below (T1.setTop (mkF m 200 #[.val (.long q1), .second, .val (.int p2), .val (.int p3), .val (.int p4), .val (.long n), .second, .val (.int i5), .val (.int fl), .val (.ref b), .val (.int le), .val (.int en), .val (.int (1 : Int32))] [(.int (1 : Int32))])) _
  refine XS.goto X1.here hx rfl (pc0 := 200) (pc' := 204) rfl (hb hby at_200) (by decide) (by decide) ?_
  show Steps p.tables e below (T1.setTop (mkF m 204 #[.val (.long q1), .second, .val (.int p2), .val (.int p3), .val (.int p4), .val (.long n), .second, .val (.int i5), .val (.int fl), .val (.ref b), .val (.int le), .val (.int en), .val (.int (1 : Int32))] [(.int (1 : Int32))])) _
  refine XS.istore X1.here hx rfl (hb hby at_204) rfl (l' := #[.val (.long q1), .second, .val (.int p2), .val (.int p3), .val (.int p4), .val (.long n), .second, .val (.int i5), .val (.int fl), .val (.ref b), .val (.int le), .val (.int en), .val (.int (1 : Int32))]) rfl ?_
  show Steps p.tables e below (T1.setTop (mkF m 206 #[.val (.long q1), .second, .val (.int p2), .val (.int p3), .val (.int p4), .val (.long n), .second, .val (.int i5), .val (.int fl), .val (.ref b), .val (.int le), .val (.int en), .val (.int (1 : Int32))] [])) _
  exact kt
set_option maxRecDepth 65536 in
set_option maxHeartbeats 40000000 in
theorem ck_2 {p : Program} {l : Launch} {e : Env} {s : State} {m : MethodId} {args : Array Value} {below : List Frame} {meth : Method} {c : Code} {T0 : State} {locs : List Loc} {cells slots : Nat} {Z : State} {a0 : Array Value} {h0 : Heap} {f : Nat → Value} {n0 : Nat} (q1 n : Int64) (p2 p3 p4 i5 fl : Int32) (b : Addr) (le en : Int32) (X0 : Stand p l e room_1 s m args below meth c T0 locs cells slots) (hx : p.tables.exec = Jvm.exec) (hZ : Z.Warmed39 s.vm) (hw : ∀ d ∈ tables_1, d.before a0 Z = true) (hby : c.code = code) (hown : s.vm.findClass "com/example/spanlace/spanlace/index/IndexOutputPutVLongPinLaw" = some m.cls) (hml : c.maxLocals = 13) (e0 : T0.heap = h0) (N0 : Fr n0 locs) (Z0 : n0 ≤ h0.size) (hcl : cells + 0 ≤ room_1.cells) (hsl : slots + 0 ≤ room_1.slots) (V0 : own_A Z h0 b .byte 13 f) (hat : f ((2 : Int32).toNatClampNeg) = .int (own_want (2 : Int32) i5 le n fl)) :
    ∃ (T' : State) (locs' : List Loc), Stand p l e room_1 s m args below meth c T' locs' cells slots ∧ T'.heap = h0 ∧ Fr n0 locs' ∧
      ∀ target, Steps p.tables e below (T'.setTop (mkF m 235 #[.val (.long q1), .second, .val (.int p2), .val (.int p3), .val (.int p4), .val (.long n), .second, .val (.int i5), .val (.int fl), .val (.ref b), .val (.int le), .val (.int en), .val (.int (1 : Int32))] [])) target → Steps p.tables e below (T0.setTop (mkF m 206 #[.val (.long q1), .second, .val (.int p2), .val (.int p3), .val (.int p4), .val (.long n), .second, .val (.int i5), .val (.int fl), .val (.ref b), .val (.int le), .val (.int en), .val (.int (1 : Int32))] [])) target := by
  obtain ⟨_, _, ⟨T1, L1, k1, n1⟩, -, X1, ⟨Lc1, hQ1, l1, y1, z1⟩, st1⟩ := Jvm.LawKit.callS X0 hx (y := (⟨"com/example/spanlace/spanlace/index/IndexOutputPutVLongPinLaw", "cell", "([BIIIJB)Z"⟩ : MethodName)) hown (mvT hZ (hw _ (List.mem_of_getElem? (i := 12) rfl))) (mvT hZ (hw _ (List.mem_of_getElem? (i := 13) rfl))) (mvT hZ (hw _ (List.mem_of_getElem? (i := 4) rfl))) (mvT hZ (hw _ (List.mem_of_getElem? (i := 14) rfl))) (by decide) (backOf (W := 0) (rm2 l Z a0 hw [] b (2 : Int32) i5 le n fl f h0 n0 Z0 V0 (by decide) (by decide) hat) hZ (hw _ (List.mem_of_getElem? (i := 14) rfl)) (hw _ (List.mem_of_getElem? (i := 4) rfl)) (by decide) (by decide)) (g := (mkF m 222 #[.val (.long q1), .second, .val (.int p2), .val (.int p3), .val (.int p4), .val (.long n), .second, .val (.int i5), .val (.int fl), .val (.ref b), .val (.int le), .val (.int en), .val (.int (1 : Int32))] [(.int fl), (.long n), (.int le), (.int i5), (.int (2 : Int32)), (.ref b)])) rfl (by rw [hml]; rfl) (argsL := [(.ref b), (.int (2 : Int32)), (.int i5), (.int le), (.long n), (.int fl)]) (rest := []) (lenOf pdx_0 rfl) rfl (by show 2 * 0 + _ ≤ _; exact Nat.le_of_eq rfl) (hb hby at_222) (fun _ _ => ⟨rfl, e0, hcl, hsl⟩)
  dsimp only [Pt.U, Pt.locs, Pt.cells, Pt.slots] at X1 l1 y1 z1 st1 hQ1
  subst l1 y1 z1
  obtain ⟨rfl, N1q, e1⟩ := hQ1
  have N1 := Fr.app N0 N1q
  refine ⟨T1, _, X1, e1, N1, fun target kt => ?_⟩
  show Steps p.tables e below (T0.setTop (mkF m 206 #[.val (.long q1), .second, .val (.int p2), .val (.int p3), .val (.int p4), .val (.long n), .second, .val (.int i5), .val (.int fl), .val (.ref b), .val (.int le), .val (.int en), .val (.int (1 : Int32))] [])) _
  refine XS.iload X0.here hx rfl (hb hby at_206) rfl ?_
  show Steps p.tables e below (T0.setTop (mkF m 208 #[.val (.long q1), .second, .val (.int p2), .val (.int p3), .val (.int p4), .val (.long n), .second, .val (.int i5), .val (.int fl), .val (.ref b), .val (.int le), .val (.int en), .val (.int (1 : Int32))] [(.int (1 : Int32))])) _
  refine XS.ifNo X0.here hx rfl (hb hby at_208) rfl ((if0 _ _).trans (feq (by decide : ¬ ((1 : Int32) = (0 : Int32)))).1) ?_
  show Steps p.tables e below (T0.setTop (mkF m 211 #[.val (.long q1), .second, .val (.int p2), .val (.int p3), .val (.int p4), .val (.long n), .second, .val (.int i5), .val (.int fl), .val (.ref b), .val (.int le), .val (.int en), .val (.int (1 : Int32))] [])) _
  refine XS.aload X0.here hx rfl (hb hby at_211) rfl rfl ?_
  show Steps p.tables e below (T0.setTop (mkF m 213 #[.val (.long q1), .second, .val (.int p2), .val (.int p3), .val (.int p4), .val (.long n), .second, .val (.int i5), .val (.int fl), .val (.ref b), .val (.int le), .val (.int en), .val (.int (1 : Int32))] [(.ref b)])) _
  refine XS.iconst X0.here hx rfl (hb hby at_213) ?_
  show Steps p.tables e below (T0.setTop (mkF m 214 #[.val (.long q1), .second, .val (.int p2), .val (.int p3), .val (.int p4), .val (.long n), .second, .val (.int i5), .val (.int fl), .val (.ref b), .val (.int le), .val (.int en), .val (.int (1 : Int32))] [(.int (2 : Int32)), (.ref b)])) _
  refine XS.iload X0.here hx rfl (hb hby at_214) rfl ?_
  show Steps p.tables e below (T0.setTop (mkF m 216 #[.val (.long q1), .second, .val (.int p2), .val (.int p3), .val (.int p4), .val (.long n), .second, .val (.int i5), .val (.int fl), .val (.ref b), .val (.int le), .val (.int en), .val (.int (1 : Int32))] [(.int i5), (.int (2 : Int32)), (.ref b)])) _
  refine XS.iload X0.here hx rfl (hb hby at_216) rfl ?_
  show Steps p.tables e below (T0.setTop (mkF m 218 #[.val (.long q1), .second, .val (.int p2), .val (.int p3), .val (.int p4), .val (.long n), .second, .val (.int i5), .val (.int fl), .val (.ref b), .val (.int le), .val (.int en), .val (.int (1 : Int32))] [(.int le), (.int i5), (.int (2 : Int32)), (.ref b)])) _
  refine XS.lload X0.here hx rfl (hb hby at_218) rfl ?_
  show Steps p.tables e below (T0.setTop (mkF m 220 #[.val (.long q1), .second, .val (.int p2), .val (.int p3), .val (.int p4), .val (.long n), .second, .val (.int i5), .val (.int fl), .val (.ref b), .val (.int le), .val (.int en), .val (.int (1 : Int32))] [(.long n), (.int le), (.int i5), (.int (2 : Int32)), (.ref b)])) _
  refine XS.iload X0.here hx rfl (hb hby at_220) rfl ?_
  show Steps p.tables e below (T0.setTop (mkF m 222 #[.val (.long q1), .second, .val (.int p2), .val (.int p3), .val (.int p4), .val (.long n), .second, .val (.int i5), .val (.int fl), .val (.ref b), .val (.int le), .val (.int en), .val (.int (1 : Int32))] [(.int fl), (.long n), (.int le), (.int i5), (.int (2 : Int32)), (.ref b)])) _
  refine st1 _ ?_
  show Steps p.tables e below (T1.setTop (mkF m 225 #[.val (.long q1), .second, .val (.int p2), .val (.int p3), .val (.int p4), .val (.long n), .second, .val (.int i5), .val (.int fl), .val (.ref b), .val (.int le), .val (.int en), .val (.int (1 : Int32))] [(.int (1 : Int32))])) _
  refine XS.ifNo X1.here hx rfl (hb hby at_225) rfl ((if0 _ _).trans (feq (by decide : ¬ ((1 : Int32) = (0 : Int32)))).1) ?_
  show Steps p.tables e below (T1.setTop (mkF m 228 #[.val (.long q1), .second, .val (.int p2), .val (.int p3), .val (.int p4), .val (.long n), .second, .val (.int i5), .val (.int fl), .val (.ref b), .val (.int le), .val (.int en), .val (.int (1 : Int32))] [])) _
  refine XS.iconst X1.here hx rfl (hb hby at_228) ?_
  show Steps p.tables e below (T1.setTop (mkF m 229 #[.val (.long q1), .second, .val (.int p2), .val (.int p3), .val (.int p4), .val (.long n), .second, .val (.int i5), .val (.int fl), .val (.ref b), .val (.int le), .val (.int en), .val (.int (1 : Int32))] [(.int (1 : Int32))])) _
  refine XS.goto X1.here hx rfl (pc0 := 229) (pc' := 233) rfl (hb hby at_229) (by decide) (by decide) ?_
  show Steps p.tables e below (T1.setTop (mkF m 233 #[.val (.long q1), .second, .val (.int p2), .val (.int p3), .val (.int p4), .val (.long n), .second, .val (.int i5), .val (.int fl), .val (.ref b), .val (.int le), .val (.int en), .val (.int (1 : Int32))] [(.int (1 : Int32))])) _
  refine XS.istore X1.here hx rfl (hb hby at_233) rfl (l' := #[.val (.long q1), .second, .val (.int p2), .val (.int p3), .val (.int p4), .val (.long n), .second, .val (.int i5), .val (.int fl), .val (.ref b), .val (.int le), .val (.int en), .val (.int (1 : Int32))]) rfl ?_
  show Steps p.tables e below (T1.setTop (mkF m 235 #[.val (.long q1), .second, .val (.int p2), .val (.int p3), .val (.int p4), .val (.long n), .second, .val (.int i5), .val (.int fl), .val (.ref b), .val (.int le), .val (.int en), .val (.int (1 : Int32))] [])) _
  exact kt
set_option maxRecDepth 65536 in
set_option maxHeartbeats 40000000 in
theorem ck_3 {p : Program} {l : Launch} {e : Env} {s : State} {m : MethodId} {args : Array Value} {below : List Frame} {meth : Method} {c : Code} {T0 : State} {locs : List Loc} {cells slots : Nat} {Z : State} {a0 : Array Value} {h0 : Heap} {f : Nat → Value} {n0 : Nat} (q1 n : Int64) (p2 p3 p4 i5 fl : Int32) (b : Addr) (le en : Int32) (X0 : Stand p l e room_1 s m args below meth c T0 locs cells slots) (hx : p.tables.exec = Jvm.exec) (hZ : Z.Warmed39 s.vm) (hw : ∀ d ∈ tables_1, d.before a0 Z = true) (hby : c.code = code) (hown : s.vm.findClass "com/example/spanlace/spanlace/index/IndexOutputPutVLongPinLaw" = some m.cls) (hml : c.maxLocals = 13) (e0 : T0.heap = h0) (N0 : Fr n0 locs) (Z0 : n0 ≤ h0.size) (hcl : cells + 0 ≤ room_1.cells) (hsl : slots + 0 ≤ room_1.slots) (V0 : own_A Z h0 b .byte 13 f) (hat : f ((3 : Int32).toNatClampNeg) = .int (own_want (3 : Int32) i5 le n fl)) :
    ∃ (T' : State) (locs' : List Loc), Stand p l e room_1 s m args below meth c T' locs' cells slots ∧ T'.heap = h0 ∧ Fr n0 locs' ∧
      ∀ target, Steps p.tables e below (T'.setTop (mkF m 264 #[.val (.long q1), .second, .val (.int p2), .val (.int p3), .val (.int p4), .val (.long n), .second, .val (.int i5), .val (.int fl), .val (.ref b), .val (.int le), .val (.int en), .val (.int (1 : Int32))] [])) target → Steps p.tables e below (T0.setTop (mkF m 235 #[.val (.long q1), .second, .val (.int p2), .val (.int p3), .val (.int p4), .val (.long n), .second, .val (.int i5), .val (.int fl), .val (.ref b), .val (.int le), .val (.int en), .val (.int (1 : Int32))] [])) target := by
  obtain ⟨_, _, ⟨T1, L1, k1, n1⟩, -, X1, ⟨Lc1, hQ1, l1, y1, z1⟩, st1⟩ := Jvm.LawKit.callS X0 hx (y := (⟨"com/example/spanlace/spanlace/index/IndexOutputPutVLongPinLaw", "cell", "([BIIIJB)Z"⟩ : MethodName)) hown (mvT hZ (hw _ (List.mem_of_getElem? (i := 12) rfl))) (mvT hZ (hw _ (List.mem_of_getElem? (i := 13) rfl))) (mvT hZ (hw _ (List.mem_of_getElem? (i := 4) rfl))) (mvT hZ (hw _ (List.mem_of_getElem? (i := 14) rfl))) (by decide) (backOf (W := 0) (rm2 l Z a0 hw [] b (3 : Int32) i5 le n fl f h0 n0 Z0 V0 (by decide) (by decide) hat) hZ (hw _ (List.mem_of_getElem? (i := 14) rfl)) (hw _ (List.mem_of_getElem? (i := 4) rfl)) (by decide) (by decide)) (g := (mkF m 251 #[.val (.long q1), .second, .val (.int p2), .val (.int p3), .val (.int p4), .val (.long n), .second, .val (.int i5), .val (.int fl), .val (.ref b), .val (.int le), .val (.int en), .val (.int (1 : Int32))] [(.int fl), (.long n), (.int le), (.int i5), (.int (3 : Int32)), (.ref b)])) rfl (by rw [hml]; rfl) (argsL := [(.ref b), (.int (3 : Int32)), (.int i5), (.int le), (.long n), (.int fl)]) (rest := []) (lenOf pdx_0 rfl) rfl (by show 2 * 0 + _ ≤ _; exact Nat.le_of_eq rfl) (hb hby at_251) (fun _ _ => ⟨rfl, e0, hcl, hsl⟩)
  dsimp only [Pt.U, Pt.locs, Pt.cells, Pt.slots] at X1 l1 y1 z1 st1 hQ1
  subst l1 y1 z1
  obtain ⟨rfl, N1q, e1⟩ := hQ1
  have N1 := Fr.app N0 N1q
  refine ⟨T1, _, X1, e1, N1, fun target kt => ?_⟩
  show Steps p.tables e below (T0.setTop (mkF m 235 #[.val (.long q1), .second, .val (.int p2), .val (.int p3), .val (.int p4), .val (.long n), .second, .val (.int i5), .val (.int fl), .val (.ref b), .val (.int le), .val (.int en), .val (.int (1 : Int32))] [])) _
  refine XS.iload X0.here hx rfl (hb hby at_235) rfl ?_
  show Steps p.tables e below (T0.setTop (mkF m 237 #[.val (.long q1), .second, .val (.int p2), .val (.int p3), .val (.int p4), .val (.long n), .second, .val (.int i5), .val (.int fl), .val (.ref b), .val (.int le), .val (.int en), .val (.int (1 : Int32))] [(.int (1 : Int32))])) _
  refine XS.ifNo X0.here hx rfl (hb hby at_237) rfl ((if0 _ _).trans (feq (by decide : ¬ ((1 : Int32) = (0 : Int32)))).1) ?_
  show Steps p.tables e below (T0.setTop (mkF m 240 #[.val (.long q1), .second, .val (.int p2), .val (.int p3), .val (.int p4), .val (.long n), .second, .val (.int i5), .val (.int fl), .val (.ref b), .val (.int le), .val (.int en), .val (.int (1 : Int32))] [])) _
  refine XS.aload X0.here hx rfl (hb hby at_240) rfl rfl ?_
  show Steps p.tables e below (T0.setTop (mkF m 242 #[.val (.long q1), .second, .val (.int p2), .val (.int p3), .val (.int p4), .val (.long n), .second, .val (.int i5), .val (.int fl), .val (.ref b), .val (.int le), .val (.int en), .val (.int (1 : Int32))] [(.ref b)])) _
  refine XS.iconst X0.here hx rfl (hb hby at_242) ?_
  show Steps p.tables e below (T0.setTop (mkF m 243 #[.val (.long q1), .second, .val (.int p2), .val (.int p3), .val (.int p4), .val (.long n), .second, .val (.int i5), .val (.int fl), .val (.ref b), .val (.int le), .val (.int en), .val (.int (1 : Int32))] [(.int (3 : Int32)), (.ref b)])) _
  refine XS.iload X0.here hx rfl (hb hby at_243) rfl ?_
  show Steps p.tables e below (T0.setTop (mkF m 245 #[.val (.long q1), .second, .val (.int p2), .val (.int p3), .val (.int p4), .val (.long n), .second, .val (.int i5), .val (.int fl), .val (.ref b), .val (.int le), .val (.int en), .val (.int (1 : Int32))] [(.int i5), (.int (3 : Int32)), (.ref b)])) _
  refine XS.iload X0.here hx rfl (hb hby at_245) rfl ?_
  show Steps p.tables e below (T0.setTop (mkF m 247 #[.val (.long q1), .second, .val (.int p2), .val (.int p3), .val (.int p4), .val (.long n), .second, .val (.int i5), .val (.int fl), .val (.ref b), .val (.int le), .val (.int en), .val (.int (1 : Int32))] [(.int le), (.int i5), (.int (3 : Int32)), (.ref b)])) _
  refine XS.lload X0.here hx rfl (hb hby at_247) rfl ?_
  show Steps p.tables e below (T0.setTop (mkF m 249 #[.val (.long q1), .second, .val (.int p2), .val (.int p3), .val (.int p4), .val (.long n), .second, .val (.int i5), .val (.int fl), .val (.ref b), .val (.int le), .val (.int en), .val (.int (1 : Int32))] [(.long n), (.int le), (.int i5), (.int (3 : Int32)), (.ref b)])) _
  refine XS.iload X0.here hx rfl (hb hby at_249) rfl ?_
  show Steps p.tables e below (T0.setTop (mkF m 251 #[.val (.long q1), .second, .val (.int p2), .val (.int p3), .val (.int p4), .val (.long n), .second, .val (.int i5), .val (.int fl), .val (.ref b), .val (.int le), .val (.int en), .val (.int (1 : Int32))] [(.int fl), (.long n), (.int le), (.int i5), (.int (3 : Int32)), (.ref b)])) _
  refine st1 _ ?_
  show Steps p.tables e below (T1.setTop (mkF m 254 #[.val (.long q1), .second, .val (.int p2), .val (.int p3), .val (.int p4), .val (.long n), .second, .val (.int i5), .val (.int fl), .val (.ref b), .val (.int le), .val (.int en), .val (.int (1 : Int32))] [(.int (1 : Int32))])) _
  refine XS.ifNo X1.here hx rfl (hb hby at_254) rfl ((if0 _ _).trans (feq (by decide : ¬ ((1 : Int32) = (0 : Int32)))).1) ?_
  show Steps p.tables e below (T1.setTop (mkF m 257 #[.val (.long q1), .second, .val (.int p2), .val (.int p3), .val (.int p4), .val (.long n), .second, .val (.int i5), .val (.int fl), .val (.ref b), .val (.int le), .val (.int en), .val (.int (1 : Int32))] [])) _
  refine XS.iconst X1.here hx rfl (hb hby at_257) ?_
  show Steps p.tables e below (T1.setTop (mkF m 258 #[.val (.long q1), .second, .val (.int p2), .val (.int p3), .val (.int p4), .val (.long n), .second, .val (.int i5), .val (.int fl), .val (.ref b), .val (.int le), .val (.int en), .val (.int (1 : Int32))] [(.int (1 : Int32))])) _
  refine XS.goto X1.here hx rfl (pc0 := 258) (pc' := 262) rfl (hb hby at_258) (by decide) (by decide) ?_
  show Steps p.tables e below (T1.setTop (mkF m 262 #[.val (.long q1), .second, .val (.int p2), .val (.int p3), .val (.int p4), .val (.long n), .second, .val (.int i5), .val (.int fl), .val (.ref b), .val (.int le), .val (.int en), .val (.int (1 : Int32))] [(.int (1 : Int32))])) _
  refine XS.istore X1.here hx rfl (hb hby at_262) rfl (l' := #[.val (.long q1), .second, .val (.int p2), .val (.int p3), .val (.int p4), .val (.long n), .second, .val (.int i5), .val (.int fl), .val (.ref b), .val (.int le), .val (.int en), .val (.int (1 : Int32))]) rfl ?_
  show Steps p.tables e below (T1.setTop (mkF m 264 #[.val (.long q1), .second, .val (.int p2), .val (.int p3), .val (.int p4), .val (.long n), .second, .val (.int i5), .val (.int fl), .val (.ref b), .val (.int le), .val (.int en), .val (.int (1 : Int32))] [])) _
  exact kt
set_option maxRecDepth 65536 in
set_option maxHeartbeats 40000000 in
theorem ck_4 {p : Program} {l : Launch} {e : Env} {s : State} {m : MethodId} {args : Array Value} {below : List Frame} {meth : Method} {c : Code} {T0 : State} {locs : List Loc} {cells slots : Nat} {Z : State} {a0 : Array Value} {h0 : Heap} {f : Nat → Value} {n0 : Nat} (q1 n : Int64) (p2 p3 p4 i5 fl : Int32) (b : Addr) (le en : Int32) (X0 : Stand p l e room_1 s m args below meth c T0 locs cells slots) (hx : p.tables.exec = Jvm.exec) (hZ : Z.Warmed39 s.vm) (hw : ∀ d ∈ tables_1, d.before a0 Z = true) (hby : c.code = code) (hown : s.vm.findClass "com/example/spanlace/spanlace/index/IndexOutputPutVLongPinLaw" = some m.cls) (hml : c.maxLocals = 13) (e0 : T0.heap = h0) (N0 : Fr n0 locs) (Z0 : n0 ≤ h0.size) (hcl : cells + 0 ≤ room_1.cells) (hsl : slots + 0 ≤ room_1.slots) (V0 : own_A Z h0 b .byte 13 f) (hat : f ((4 : Int32).toNatClampNeg) = .int (own_want (4 : Int32) i5 le n fl)) :
    ∃ (T' : State) (locs' : List Loc), Stand p l e room_1 s m args below meth c T' locs' cells slots ∧ T'.heap = h0 ∧ Fr n0 locs' ∧
      ∀ target, Steps p.tables e below (T'.setTop (mkF m 293 #[.val (.long q1), .second, .val (.int p2), .val (.int p3), .val (.int p4), .val (.long n), .second, .val (.int i5), .val (.int fl), .val (.ref b), .val (.int le), .val (.int en), .val (.int (1 : Int32))] [])) target → Steps p.tables e below (T0.setTop (mkF m 264 #[.val (.long q1), .second, .val (.int p2), .val (.int p3), .val (.int p4), .val (.long n), .second, .val (.int i5), .val (.int fl), .val (.ref b), .val (.int le), .val (.int en), .val (.int (1 : Int32))] [])) target := by
  obtain ⟨_, _, ⟨T1, L1, k1, n1⟩, -, X1, ⟨Lc1, hQ1, l1, y1, z1⟩, st1⟩ := Jvm.LawKit.callS X0 hx (y := (⟨"com/example/spanlace/spanlace/index/IndexOutputPutVLongPinLaw", "cell", "([BIIIJB)Z"⟩ : MethodName)) hown (mvT hZ (hw _ (List.mem_of_getElem? (i := 12) rfl))) (mvT hZ (hw _ (List.mem_of_getElem? (i := 13) rfl))) (mvT hZ (hw _ (List.mem_of_getElem? (i := 4) rfl))) (mvT hZ (hw _ (List.mem_of_getElem? (i := 14) rfl))) (by decide) (backOf (W := 0) (rm2 l Z a0 hw [] b (4 : Int32) i5 le n fl f h0 n0 Z0 V0 (by decide) (by decide) hat) hZ (hw _ (List.mem_of_getElem? (i := 14) rfl)) (hw _ (List.mem_of_getElem? (i := 4) rfl)) (by decide) (by decide)) (g := (mkF m 280 #[.val (.long q1), .second, .val (.int p2), .val (.int p3), .val (.int p4), .val (.long n), .second, .val (.int i5), .val (.int fl), .val (.ref b), .val (.int le), .val (.int en), .val (.int (1 : Int32))] [(.int fl), (.long n), (.int le), (.int i5), (.int (4 : Int32)), (.ref b)])) rfl (by rw [hml]; rfl) (argsL := [(.ref b), (.int (4 : Int32)), (.int i5), (.int le), (.long n), (.int fl)]) (rest := []) (lenOf pdx_0 rfl) rfl (by show 2 * 0 + _ ≤ _; exact Nat.le_of_eq rfl) (hb hby at_280) (fun _ _ => ⟨rfl, e0, hcl, hsl⟩)
  dsimp only [Pt.U, Pt.locs, Pt.cells, Pt.slots] at X1 l1 y1 z1 st1 hQ1
  subst l1 y1 z1
  obtain ⟨rfl, N1q, e1⟩ := hQ1
  have N1 := Fr.app N0 N1q
  refine ⟨T1, _, X1, e1, N1, fun target kt => ?_⟩
  show Steps p.tables e below (T0.setTop (mkF m 264 #[.val (.long q1), .second, .val (.int p2), .val (.int p3), .val (.int p4), .val (.long n), .second, .val (.int i5), .val (.int fl), .val (.ref b), .val (.int le), .val (.int en), .val (.int (1 : Int32))] [])) _
  refine XS.iload X0.here hx rfl (hb hby at_264) rfl ?_
  show Steps p.tables e below (T0.setTop (mkF m 266 #[.val (.long q1), .second, .val (.int p2), .val (.int p3), .val (.int p4), .val (.long n), .second, .val (.int i5), .val (.int fl), .val (.ref b), .val (.int le), .val (.int en), .val (.int (1 : Int32))] [(.int (1 : Int32))])) _
  refine XS.ifNo X0.here hx rfl (hb hby at_266) rfl ((if0 _ _).trans (feq (by decide : ¬ ((1 : Int32) = (0 : Int32)))).1) ?_
  show Steps p.tables e below (T0.setTop (mkF m 269 #[.val (.long q1), .second, .val (.int p2), .val (.int p3), .val (.int p4), .val (.long n), .second, .val (.int i5), .val (.int fl), .val (.ref b), .val (.int le), .val (.int en), .val (.int (1 : Int32))] [])) _
  refine XS.aload X0.here hx rfl (hb hby at_269) rfl rfl ?_
  show Steps p.tables e below (T0.setTop (mkF m 271 #[.val (.long q1), .second, .val (.int p2), .val (.int p3), .val (.int p4), .val (.long n), .second, .val (.int i5), .val (.int fl), .val (.ref b), .val (.int le), .val (.int en), .val (.int (1 : Int32))] [(.ref b)])) _
  refine XS.iconst X0.here hx rfl (hb hby at_271) ?_
  show Steps p.tables e below (T0.setTop (mkF m 272 #[.val (.long q1), .second, .val (.int p2), .val (.int p3), .val (.int p4), .val (.long n), .second, .val (.int i5), .val (.int fl), .val (.ref b), .val (.int le), .val (.int en), .val (.int (1 : Int32))] [(.int (4 : Int32)), (.ref b)])) _
  refine XS.iload X0.here hx rfl (hb hby at_272) rfl ?_
  show Steps p.tables e below (T0.setTop (mkF m 274 #[.val (.long q1), .second, .val (.int p2), .val (.int p3), .val (.int p4), .val (.long n), .second, .val (.int i5), .val (.int fl), .val (.ref b), .val (.int le), .val (.int en), .val (.int (1 : Int32))] [(.int i5), (.int (4 : Int32)), (.ref b)])) _
  refine XS.iload X0.here hx rfl (hb hby at_274) rfl ?_
  show Steps p.tables e below (T0.setTop (mkF m 276 #[.val (.long q1), .second, .val (.int p2), .val (.int p3), .val (.int p4), .val (.long n), .second, .val (.int i5), .val (.int fl), .val (.ref b), .val (.int le), .val (.int en), .val (.int (1 : Int32))] [(.int le), (.int i5), (.int (4 : Int32)), (.ref b)])) _
  refine XS.lload X0.here hx rfl (hb hby at_276) rfl ?_
  show Steps p.tables e below (T0.setTop (mkF m 278 #[.val (.long q1), .second, .val (.int p2), .val (.int p3), .val (.int p4), .val (.long n), .second, .val (.int i5), .val (.int fl), .val (.ref b), .val (.int le), .val (.int en), .val (.int (1 : Int32))] [(.long n), (.int le), (.int i5), (.int (4 : Int32)), (.ref b)])) _
  refine XS.iload X0.here hx rfl (hb hby at_278) rfl ?_
  show Steps p.tables e below (T0.setTop (mkF m 280 #[.val (.long q1), .second, .val (.int p2), .val (.int p3), .val (.int p4), .val (.long n), .second, .val (.int i5), .val (.int fl), .val (.ref b), .val (.int le), .val (.int en), .val (.int (1 : Int32))] [(.int fl), (.long n), (.int le), (.int i5), (.int (4 : Int32)), (.ref b)])) _
  refine st1 _ ?_
  show Steps p.tables e below (T1.setTop (mkF m 283 #[.val (.long q1), .second, .val (.int p2), .val (.int p3), .val (.int p4), .val (.long n), .second, .val (.int i5), .val (.int fl), .val (.ref b), .val (.int le), .val (.int en), .val (.int (1 : Int32))] [(.int (1 : Int32))])) _
  refine XS.ifNo X1.here hx rfl (hb hby at_283) rfl ((if0 _ _).trans (feq (by decide : ¬ ((1 : Int32) = (0 : Int32)))).1) ?_
  show Steps p.tables e below (T1.setTop (mkF m 286 #[.val (.long q1), .second, .val (.int p2), .val (.int p3), .val (.int p4), .val (.long n), .second, .val (.int i5), .val (.int fl), .val (.ref b), .val (.int le), .val (.int en), .val (.int (1 : Int32))] [])) _
  refine XS.iconst X1.here hx rfl (hb hby at_286) ?_
  show Steps p.tables e below (T1.setTop (mkF m 287 #[.val (.long q1), .second, .val (.int p2), .val (.int p3), .val (.int p4), .val (.long n), .second, .val (.int i5), .val (.int fl), .val (.ref b), .val (.int le), .val (.int en), .val (.int (1 : Int32))] [(.int (1 : Int32))])) _
  refine XS.goto X1.here hx rfl (pc0 := 287) (pc' := 291) rfl (hb hby at_287) (by decide) (by decide) ?_
  show Steps p.tables e below (T1.setTop (mkF m 291 #[.val (.long q1), .second, .val (.int p2), .val (.int p3), .val (.int p4), .val (.long n), .second, .val (.int i5), .val (.int fl), .val (.ref b), .val (.int le), .val (.int en), .val (.int (1 : Int32))] [(.int (1 : Int32))])) _
  refine XS.istore X1.here hx rfl (hb hby at_291) rfl (l' := #[.val (.long q1), .second, .val (.int p2), .val (.int p3), .val (.int p4), .val (.long n), .second, .val (.int i5), .val (.int fl), .val (.ref b), .val (.int le), .val (.int en), .val (.int (1 : Int32))]) rfl ?_
  show Steps p.tables e below (T1.setTop (mkF m 293 #[.val (.long q1), .second, .val (.int p2), .val (.int p3), .val (.int p4), .val (.long n), .second, .val (.int i5), .val (.int fl), .val (.ref b), .val (.int le), .val (.int en), .val (.int (1 : Int32))] [])) _
  exact kt
set_option maxRecDepth 65536 in
set_option maxHeartbeats 40000000 in
theorem ck_5 {p : Program} {l : Launch} {e : Env} {s : State} {m : MethodId} {args : Array Value} {below : List Frame} {meth : Method} {c : Code} {T0 : State} {locs : List Loc} {cells slots : Nat} {Z : State} {a0 : Array Value} {h0 : Heap} {f : Nat → Value} {n0 : Nat} (q1 n : Int64) (p2 p3 p4 i5 fl : Int32) (b : Addr) (le en : Int32) (X0 : Stand p l e room_1 s m args below meth c T0 locs cells slots) (hx : p.tables.exec = Jvm.exec) (hZ : Z.Warmed39 s.vm) (hw : ∀ d ∈ tables_1, d.before a0 Z = true) (hby : c.code = code) (hown : s.vm.findClass "com/example/spanlace/spanlace/index/IndexOutputPutVLongPinLaw" = some m.cls) (hml : c.maxLocals = 13) (e0 : T0.heap = h0) (N0 : Fr n0 locs) (Z0 : n0 ≤ h0.size) (hcl : cells + 0 ≤ room_1.cells) (hsl : slots + 0 ≤ room_1.slots) (V0 : own_A Z h0 b .byte 13 f) (hat : f ((5 : Int32).toNatClampNeg) = .int (own_want (5 : Int32) i5 le n fl)) :
    ∃ (T' : State) (locs' : List Loc), Stand p l e room_1 s m args below meth c T' locs' cells slots ∧ T'.heap = h0 ∧ Fr n0 locs' ∧
      ∀ target, Steps p.tables e below (T'.setTop (mkF m 322 #[.val (.long q1), .second, .val (.int p2), .val (.int p3), .val (.int p4), .val (.long n), .second, .val (.int i5), .val (.int fl), .val (.ref b), .val (.int le), .val (.int en), .val (.int (1 : Int32))] [])) target → Steps p.tables e below (T0.setTop (mkF m 293 #[.val (.long q1), .second, .val (.int p2), .val (.int p3), .val (.int p4), .val (.long n), .second, .val (.int i5), .val (.int fl), .val (.ref b), .val (.int le), .val (.int en), .val (.int (1 : Int32))] [])) target := by
  obtain ⟨_, _, ⟨T1, L1, k1, n1⟩, -, X1, ⟨Lc1, hQ1, l1, y1, z1⟩, st1⟩ := Jvm.LawKit.callS X0 hx (y := (⟨"com/example/spanlace/spanlace/index/IndexOutputPutVLongPinLaw", "cell", "([BIIIJB)Z"⟩ : MethodName)) hown (mvT hZ (hw _ (List.mem_of_getElem? (i := 12) rfl))) (mvT hZ (hw _ (List.mem_of_getElem? (i := 13) rfl))) (mvT hZ (hw _ (List.mem_of_getElem? (i := 4) rfl))) (mvT hZ (hw _ (List.mem_of_getElem? (i := 14) rfl))) (by decide) (backOf (W := 0) (rm2 l Z a0 hw [] b (5 : Int32) i5 le n fl f h0 n0 Z0 V0 (by decide) (by decide) hat) hZ (hw _ (List.mem_of_getElem? (i := 14) rfl)) (hw _ (List.mem_of_getElem? (i := 4) rfl)) (by decide) (by decide)) (g := (mkF m 309 #[.val (.long q1), .second, .val (.int p2), .val (.int p3), .val (.int p4), .val (.long n), .second, .val (.int i5), .val (.int fl), .val (.ref b), .val (.int le), .val (.int en), .val (.int (1 : Int32))] [(.int fl), (.long n), (.int le), (.int i5), (.int (5 : Int32)), (.ref b)])) rfl (by rw [hml]; rfl) (argsL := [(.ref b), (.int (5 : Int32)), (.int i5), (.int le), (.long n), (.int fl)]) (rest := []) (lenOf pdx_0 rfl) rfl (by show 2 * 0 + _ ≤ _; exact Nat.le_of_eq rfl) (hb hby at_309) (fun _ _ => ⟨rfl, e0, hcl, hsl⟩)
  dsimp only [Pt.U, Pt.locs, Pt.cells, Pt.slots] at X1 l1 y1 z1 st1 hQ1
  subst l1 y1 z1
  obtain ⟨rfl, N1q, e1⟩ := hQ1
  have N1 := Fr.app N0 N1q
  refine ⟨T1, _, X1, e1, N1, fun target kt => ?_⟩
  show Steps p.tables e below (T0.setTop (mkF m 293 #[.val (.long q1), .second, .val (.int p2), .val (.int p3), .val (.int p4), .val (.long n), .second, .val (.int i5), .val (.int fl), .val (.ref b), .val (.int le), .val (.int en), .val (.int (1 : Int32))] [])) _
  refine XS.iload X0.here hx rfl (hb hby at_293) rfl ?_
  show Steps p.tables e below (T0.setTop (mkF m 295 #[.val (.long q1), .second, .val (.int p2), .val (.int p3), .val (.int p4), .val (.long n), .second, .val (.int i5), .val (.int fl), .val (.ref b), .val (.int le), .val (.int en), .val (.int (1 : Int32))] [(.int (1 : Int32))])) _
  refine XS.ifNo X0.here hx rfl (hb hby at_295) rfl ((if0 _ _).trans (feq (by decide : ¬ ((1 : Int32) = (0 : Int32)))).1) ?_
  show Steps p.tables e below (T0.setTop (mkF m 298 #[.val (.long q1), .second, .val (.int p2), .val (.int p3), .val (.int p4), .val (.long n), .second, .val (.int i5), .val (.int fl), .val (.ref b), .val (.int le), .val (.int en), .val (.int (1 : Int32))] [])) _
  refine XS.aload X0.here hx rfl (hb hby at_298) rfl rfl ?_
  show Steps p.tables e below (T0.setTop (mkF m 300 #[.val (.long q1), .second, .val (.int p2), .val (.int p3), .val (.int p4), .val (.long n), .second, .val (.int i5), .val (.int fl), .val (.ref b), .val (.int le), .val (.int en), .val (.int (1 : Int32))] [(.ref b)])) _
  refine XS.iconst X0.here hx rfl (hb hby at_300) ?_
  show Steps p.tables e below (T0.setTop (mkF m 301 #[.val (.long q1), .second, .val (.int p2), .val (.int p3), .val (.int p4), .val (.long n), .second, .val (.int i5), .val (.int fl), .val (.ref b), .val (.int le), .val (.int en), .val (.int (1 : Int32))] [(.int (5 : Int32)), (.ref b)])) _
  refine XS.iload X0.here hx rfl (hb hby at_301) rfl ?_
  show Steps p.tables e below (T0.setTop (mkF m 303 #[.val (.long q1), .second, .val (.int p2), .val (.int p3), .val (.int p4), .val (.long n), .second, .val (.int i5), .val (.int fl), .val (.ref b), .val (.int le), .val (.int en), .val (.int (1 : Int32))] [(.int i5), (.int (5 : Int32)), (.ref b)])) _
  refine XS.iload X0.here hx rfl (hb hby at_303) rfl ?_
  show Steps p.tables e below (T0.setTop (mkF m 305 #[.val (.long q1), .second, .val (.int p2), .val (.int p3), .val (.int p4), .val (.long n), .second, .val (.int i5), .val (.int fl), .val (.ref b), .val (.int le), .val (.int en), .val (.int (1 : Int32))] [(.int le), (.int i5), (.int (5 : Int32)), (.ref b)])) _
  refine XS.lload X0.here hx rfl (hb hby at_305) rfl ?_
  show Steps p.tables e below (T0.setTop (mkF m 307 #[.val (.long q1), .second, .val (.int p2), .val (.int p3), .val (.int p4), .val (.long n), .second, .val (.int i5), .val (.int fl), .val (.ref b), .val (.int le), .val (.int en), .val (.int (1 : Int32))] [(.long n), (.int le), (.int i5), (.int (5 : Int32)), (.ref b)])) _
  refine XS.iload X0.here hx rfl (hb hby at_307) rfl ?_
  show Steps p.tables e below (T0.setTop (mkF m 309 #[.val (.long q1), .second, .val (.int p2), .val (.int p3), .val (.int p4), .val (.long n), .second, .val (.int i5), .val (.int fl), .val (.ref b), .val (.int le), .val (.int en), .val (.int (1 : Int32))] [(.int fl), (.long n), (.int le), (.int i5), (.int (5 : Int32)), (.ref b)])) _
  refine st1 _ ?_
  show Steps p.tables e below (T1.setTop (mkF m 312 #[.val (.long q1), .second, .val (.int p2), .val (.int p3), .val (.int p4), .val (.long n), .second, .val (.int i5), .val (.int fl), .val (.ref b), .val (.int le), .val (.int en), .val (.int (1 : Int32))] [(.int (1 : Int32))])) _
  refine XS.ifNo X1.here hx rfl (hb hby at_312) rfl ((if0 _ _).trans (feq (by decide : ¬ ((1 : Int32) = (0 : Int32)))).1) ?_
  show Steps p.tables e below (T1.setTop (mkF m 315 #[.val (.long q1), .second, .val (.int p2), .val (.int p3), .val (.int p4), .val (.long n), .second, .val (.int i5), .val (.int fl), .val (.ref b), .val (.int le), .val (.int en), .val (.int (1 : Int32))] [])) _
  refine XS.iconst X1.here hx rfl (hb hby at_315) ?_
  show Steps p.tables e below (T1.setTop (mkF m 316 #[.val (.long q1), .second, .val (.int p2), .val (.int p3), .val (.int p4), .val (.long n), .second, .val (.int i5), .val (.int fl), .val (.ref b), .val (.int le), .val (.int en), .val (.int (1 : Int32))] [(.int (1 : Int32))])) _
  refine XS.goto X1.here hx rfl (pc0 := 316) (pc' := 320) rfl (hb hby at_316) (by decide) (by decide) ?_
  show Steps p.tables e below (T1.setTop (mkF m 320 #[.val (.long q1), .second, .val (.int p2), .val (.int p3), .val (.int p4), .val (.long n), .second, .val (.int i5), .val (.int fl), .val (.ref b), .val (.int le), .val (.int en), .val (.int (1 : Int32))] [(.int (1 : Int32))])) _
  refine XS.istore X1.here hx rfl (hb hby at_320) rfl (l' := #[.val (.long q1), .second, .val (.int p2), .val (.int p3), .val (.int p4), .val (.long n), .second, .val (.int i5), .val (.int fl), .val (.ref b), .val (.int le), .val (.int en), .val (.int (1 : Int32))]) rfl ?_
  show Steps p.tables e below (T1.setTop (mkF m 322 #[.val (.long q1), .second, .val (.int p2), .val (.int p3), .val (.int p4), .val (.long n), .second, .val (.int i5), .val (.int fl), .val (.ref b), .val (.int le), .val (.int en), .val (.int (1 : Int32))] [])) _
  exact kt
set_option maxRecDepth 65536 in
set_option maxHeartbeats 40000000 in
theorem ck_6 {p : Program} {l : Launch} {e : Env} {s : State} {m : MethodId} {args : Array Value} {below : List Frame} {meth : Method} {c : Code} {T0 : State} {locs : List Loc} {cells slots : Nat} {Z : State} {a0 : Array Value} {h0 : Heap} {f : Nat → Value} {n0 : Nat} (q1 n : Int64) (p2 p3 p4 i5 fl : Int32) (b : Addr) (le en : Int32) (X0 : Stand p l e room_1 s m args below meth c T0 locs cells slots) (hx : p.tables.exec = Jvm.exec) (hZ : Z.Warmed39 s.vm) (hw : ∀ d ∈ tables_1, d.before a0 Z = true) (hby : c.code = code) (hown : s.vm.findClass "com/example/spanlace/spanlace/index/IndexOutputPutVLongPinLaw" = some m.cls) (hml : c.maxLocals = 13) (e0 : T0.heap = h0) (N0 : Fr n0 locs) (Z0 : n0 ≤ h0.size) (hcl : cells + 0 ≤ room_1.cells) (hsl : slots + 0 ≤ room_1.slots) (V0 : own_A Z h0 b .byte 13 f) (hat : f ((6 : Int32).toNatClampNeg) = .int (own_want (6 : Int32) i5 le n fl)) :
    ∃ (T' : State) (locs' : List Loc), Stand p l e room_1 s m args below meth c T' locs' cells slots ∧ T'.heap = h0 ∧ Fr n0 locs' ∧
      ∀ target, Steps p.tables e below (T'.setTop (mkF m 352 #[.val (.long q1), .second, .val (.int p2), .val (.int p3), .val (.int p4), .val (.long n), .second, .val (.int i5), .val (.int fl), .val (.ref b), .val (.int le), .val (.int en), .val (.int (1 : Int32))] [])) target → Steps p.tables e below (T0.setTop (mkF m 322 #[.val (.long q1), .second, .val (.int p2), .val (.int p3), .val (.int p4), .val (.long n), .second, .val (.int i5), .val (.int fl), .val (.ref b), .val (.int le), .val (.int en), .val (.int (1 : Int32))] [])) target := by
  obtain ⟨_, _, ⟨T1, L1, k1, n1⟩, -, X1, ⟨Lc1, hQ1, l1, y1, z1⟩, st1⟩ := Jvm.LawKit.callS X0 hx (y := (⟨"com/example/spanlace/spanlace/index/IndexOutputPutVLongPinLaw", "cell", "([BIIIJB)Z"⟩ : MethodName)) hown (mvT hZ (hw _ (List.mem_of_getElem? (i := 12) rfl))) (mvT hZ (hw _ (List.mem_of_getElem? (i := 13) rfl))) (mvT hZ (hw _ (List.mem_of_getElem? (i := 4) rfl))) (mvT hZ (hw _ (List.mem_of_getElem? (i := 14) rfl))) (by decide) (backOf (W := 0) (rm2 l Z a0 hw [] b (6 : Int32) i5 le n fl f h0 n0 Z0 V0 (by decide) (by decide) hat) hZ (hw _ (List.mem_of_getElem? (i := 14) rfl)) (hw _ (List.mem_of_getElem? (i := 4) rfl)) (by decide) (by decide)) (g := (mkF m 339 #[.val (.long q1), .second, .val (.int p2), .val (.int p3), .val (.int p4), .val (.long n), .second, .val (.int i5), .val (.int fl), .val (.ref b), .val (.int le), .val (.int en), .val (.int (1 : Int32))] [(.int fl), (.long n), (.int le), (.int i5), (.int (6 : Int32)), (.ref b)])) rfl (by rw [hml]; rfl) (argsL := [(.ref b), (.int (6 : Int32)), (.int i5), (.int le), (.long n), (.int fl)]) (rest := []) (lenOf pdx_0 rfl) rfl (by show 2 * 0 + _ ≤ _; exact Nat.le_of_eq rfl) (hb hby at_339) (fun _ _ => ⟨rfl, e0, hcl, hsl⟩)
  dsimp only [Pt.U, Pt.locs, Pt.cells, Pt.slots] at X1 l1 y1 z1 st1 hQ1
  subst l1 y1 z1
  obtain ⟨rfl, N1q, e1⟩ := hQ1
  have N1 := Fr.app N0 N1q
  refine ⟨T1, _, X1, e1, N1, fun target kt => ?_⟩
  show Steps p.tables e below (T0.setTop (mkF m 322 #[.val (.long q1), .second, .val (.int p2), .val (.int p3), .val (.int p4), .val (.long n), .second, .val (.int i5), .val (.int fl), .val (.ref b), .val (.int le), .val (.int en), .val (.int (1 : Int32))] [])) _
  refine XS.iload X0.here hx rfl (hb hby at_322) rfl ?_
  show Steps p.tables e below (T0.setTop (mkF m 324 #[.val (.long q1), .second, .val (.int p2), .val (.int p3), .val (.int p4), .val (.long n), .second, .val (.int i5), .val (.int fl), .val (.ref b), .val (.int le), .val (.int en), .val (.int (1 : Int32))] [(.int (1 : Int32))])) _
  refine XS.ifNo X0.here hx rfl (hb hby at_324) rfl ((if0 _ _).trans (feq (by decide : ¬ ((1 : Int32) = (0 : Int32)))).1) ?_
  show Steps p.tables e below (T0.setTop (mkF m 327 #[.val (.long q1), .second, .val (.int p2), .val (.int p3), .val (.int p4), .val (.long n), .second, .val (.int i5), .val (.int fl), .val (.ref b), .val (.int le), .val (.int en), .val (.int (1 : Int32))] [])) _
  refine XS.aload X0.here hx rfl (hb hby at_327) rfl rfl ?_
  show Steps p.tables e below (T0.setTop (mkF m 329 #[.val (.long q1), .second, .val (.int p2), .val (.int p3), .val (.int p4), .val (.long n), .second, .val (.int i5), .val (.int fl), .val (.ref b), .val (.int le), .val (.int en), .val (.int (1 : Int32))] [(.ref b)])) _
  refine XS.bipush X0.here hx rfl (hb hby at_329) ?_
  show Steps p.tables e below (T0.setTop (mkF m 331 #[.val (.long q1), .second, .val (.int p2), .val (.int p3), .val (.int p4), .val (.long n), .second, .val (.int i5), .val (.int fl), .val (.ref b), .val (.int le), .val (.int en), .val (.int (1 : Int32))] [(.int (6 : Int32)), (.ref b)])) _
  refine XS.iload X0.here hx rfl (hb hby at_331) rfl ?_
  show Steps p.tables e below (T0.setTop (mkF m 333 #[.val (.long q1), .second, .val (.int p2), .val (.int p3), .val (.int p4), .val (.long n), .second, .val (.int i5), .val (.int fl), .val (.ref b), .val (.int le), .val (.int en), .val (.int (1 : Int32))] [(.int i5), (.int (6 : Int32)), (.ref b)])) _
  refine XS.iload X0.here hx rfl (hb hby at_333) rfl ?_
  show Steps p.tables e below (T0.setTop (mkF m 335 #[.val (.long q1), .second, .val (.int p2), .val (.int p3), .val (.int p4), .val (.long n), .second, .val (.int i5), .val (.int fl), .val (.ref b), .val (.int le), .val (.int en), .val (.int (1 : Int32))] [(.int le), (.int i5), (.int (6 : Int32)), (.ref b)])) _
  refine XS.lload X0.here hx rfl (hb hby at_335) rfl ?_
  show Steps p.tables e below (T0.setTop (mkF m 337 #[.val (.long q1), .second, .val (.int p2), .val (.int p3), .val (.int p4), .val (.long n), .second, .val (.int i5), .val (.int fl), .val (.ref b), .val (.int le), .val (.int en), .val (.int (1 : Int32))] [(.long n), (.int le), (.int i5), (.int (6 : Int32)), (.ref b)])) _
  refine XS.iload X0.here hx rfl (hb hby at_337) rfl ?_
  show Steps p.tables e below (T0.setTop (mkF m 339 #[.val (.long q1), .second, .val (.int p2), .val (.int p3), .val (.int p4), .val (.long n), .second, .val (.int i5), .val (.int fl), .val (.ref b), .val (.int le), .val (.int en), .val (.int (1 : Int32))] [(.int fl), (.long n), (.int le), (.int i5), (.int (6 : Int32)), (.ref b)])) _
  refine st1 _ ?_
  show Steps p.tables e below (T1.setTop (mkF m 342 #[.val (.long q1), .second, .val (.int p2), .val (.int p3), .val (.int p4), .val (.long n), .second, .val (.int i5), .val (.int fl), .val (.ref b), .val (.int le), .val (.int en), .val (.int (1 : Int32))] [(.int (1 : Int32))])) _
  refine XS.ifNo X1.here hx rfl (hb hby at_342) rfl ((if0 _ _).trans (feq (by decide : ¬ ((1 : Int32) = (0 : Int32)))).1) ?_
  show Steps p.tables e below (T1.setTop (mkF m 345 #[.val (.long q1), .second, .val (.int p2), .val (.int p3), .val (.int p4), .val (.long n), .second, .val (.int i5), .val (.int fl), .val (.ref b), .val (.int le), .val (.int en), .val (.int (1 : Int32))] [])) _
  refine XS.iconst X1.here hx rfl (hb hby at_345) ?_
  show Steps p.tables e below (T1.setTop (mkF m 346 #[.val (.long q1), .second, .val (.int p2), .val (.int p3), .val (.int p4), .val (.long n), .second, .val (.int i5), .val (.int fl), .val (.ref b), .val (.int le), .val (.int en), .val (.int (1 : Int32))] [(.int (1 : Int32))])) _
  refine XS.goto X1.here hx rfl (pc0 := 346) (pc' := 350) rfl (hb hby at_346) (by decide) (by decide) ?_
  show Steps p.tables e below (T1.setTop (mkF m 350 #[.val (.long q1), .second, .val (.int p2), .val (.int p3), .val (.int p4), .val (.long n), .second, .val (.int i5), .val (.int fl), .val (.ref b), .val (.int le), .val (.int en), .val (.int (1 : Int32))] [(.int (1 : Int32))])) _
  refine XS.istore X1.here hx rfl (hb hby at_350) rfl (l' := #[.val (.long q1), .second, .val (.int p2), .val (.int p3), .val (.int p4), .val (.long n), .second, .val (.int i5), .val (.int fl), .val (.ref b), .val (.int le), .val (.int en), .val (.int (1 : Int32))]) rfl ?_
  show Steps p.tables e below (T1.setTop (mkF m 352 #[.val (.long q1), .second, .val (.int p2), .val (.int p3), .val (.int p4), .val (.long n), .second, .val (.int i5), .val (.int fl), .val (.ref b), .val (.int le), .val (.int en), .val (.int (1 : Int32))] [])) _
  exact kt
set_option maxRecDepth 65536 in
set_option maxHeartbeats 40000000 in
theorem ck_7 {p : Program} {l : Launch} {e : Env} {s : State} {m : MethodId} {args : Array Value} {below : List Frame} {meth : Method} {c : Code} {T0 : State} {locs : List Loc} {cells slots : Nat} {Z : State} {a0 : Array Value} {h0 : Heap} {f : Nat → Value} {n0 : Nat} (q1 n : Int64) (p2 p3 p4 i5 fl : Int32) (b : Addr) (le en : Int32) (X0 : Stand p l e room_1 s m args below meth c T0 locs cells slots) (hx : p.tables.exec = Jvm.exec) (hZ : Z.Warmed39 s.vm) (hw : ∀ d ∈ tables_1, d.before a0 Z = true) (hby : c.code = code) (hown : s.vm.findClass "com/example/spanlace/spanlace/index/IndexOutputPutVLongPinLaw" = some m.cls) (hml : c.maxLocals = 13) (e0 : T0.heap = h0) (N0 : Fr n0 locs) (Z0 : n0 ≤ h0.size) (hcl : cells + 0 ≤ room_1.cells) (hsl : slots + 0 ≤ room_1.slots) (V0 : own_A Z h0 b .byte 13 f) (hat : f ((7 : Int32).toNatClampNeg) = .int (own_want (7 : Int32) i5 le n fl)) :
    ∃ (T' : State) (locs' : List Loc), Stand p l e room_1 s m args below meth c T' locs' cells slots ∧ T'.heap = h0 ∧ Fr n0 locs' ∧
      ∀ target, Steps p.tables e below (T'.setTop (mkF m 382 #[.val (.long q1), .second, .val (.int p2), .val (.int p3), .val (.int p4), .val (.long n), .second, .val (.int i5), .val (.int fl), .val (.ref b), .val (.int le), .val (.int en), .val (.int (1 : Int32))] [])) target → Steps p.tables e below (T0.setTop (mkF m 352 #[.val (.long q1), .second, .val (.int p2), .val (.int p3), .val (.int p4), .val (.long n), .second, .val (.int i5), .val (.int fl), .val (.ref b), .val (.int le), .val (.int en), .val (.int (1 : Int32))] [])) target := by
  obtain ⟨_, _, ⟨T1, L1, k1, n1⟩, -, X1, ⟨Lc1, hQ1, l1, y1, z1⟩, st1⟩ := Jvm.LawKit.callS X0 hx (y := (⟨"com/example/spanlace/spanlace/index/IndexOutputPutVLongPinLaw", "cell", "([BIIIJB)Z"⟩ : MethodName)) hown (mvT hZ (hw _ (List.mem_of_getElem? (i := 12) rfl))) (mvT hZ (hw _ (List.mem_of_getElem? (i := 13) rfl))) (mvT hZ (hw _ (List.mem_of_getElem? (i := 4) rfl))) (mvT hZ (hw _ (List.mem_of_getElem? (i := 14) rfl))) (by decide) (backOf (W := 0) (rm2 l Z a0 hw [] b (7 : Int32) i5 le n fl f h0 n0 Z0 V0 (by decide) (by decide) hat) hZ (hw _ (List.mem_of_getElem? (i := 14) rfl)) (hw _ (List.mem_of_getElem? (i := 4) rfl)) (by decide) (by decide)) (g := (mkF m 369 #[.val (.long q1), .second, .val (.int p2), .val (.int p3), .val (.int p4), .val (.long n), .second, .val (.int i5), .val (.int fl), .val (.ref b), .val (.int le), .val (.int en), .val (.int (1 : Int32))] [(.int fl), (.long n), (.int le), (.int i5), (.int (7 : Int32)), (.ref b)])) rfl (by rw [hml]; rfl) (argsL := [(.ref b), (.int (7 : Int32)), (.int i5), (.int le), (.long n), (.int fl)]) (rest := []) (lenOf pdx_0 rfl) rfl (by show 2 * 0 + _ ≤ _; exact Nat.le_of_eq rfl) (hb hby at_369) (fun _ _ => ⟨rfl, e0, hcl, hsl⟩)
  dsimp only [Pt.U, Pt.locs, Pt.cells, Pt.slots] at X1 l1 y1 z1 st1 hQ1
  subst l1 y1 z1
  obtain ⟨rfl, N1q, e1⟩ := hQ1
  have N1 := Fr.app N0 N1q
  refine ⟨T1, _, X1, e1, N1, fun target kt => ?_⟩
  show Steps p.tables e below (T0.setTop (mkF m 352 #[.val (.long q1), .second, .val (.int p2), .val (.int p3), .val (.int p4), .val (.long n), .second, .val (.int i5), .val (.int fl), .val (.ref b), .val (.int le), .val (.int en), .val (.int (1 : Int32))] [])) _
  refine XS.iload X0.here hx rfl (hb hby at_352) rfl ?_
  show Steps p.tables e below (T0.setTop (mkF m 354 #[.val (.long q1), .second, .val (.int p2), .val (.int p3), .val (.int p4), .val (.long n), .second, .val (.int i5), .val (.int fl), .val (.ref b), .val (.int le), .val (.int en), .val (.int (1 : Int32))] [(.int (1 : Int32))])) _
  refine XS.ifNo X0.here hx rfl (hb hby at_354) rfl ((if0 _ _).trans (feq (by decide : ¬ ((1 : Int32) = (0 : Int32)))).1) ?_
  show Steps p.tables e below (T0.setTop (mkF m 357 #[.val (.long q1), .second, .val (.int p2), .val (.int p3), .val (.int p4), .val (.long n), .second, .val (.int i5), .val (.int fl), .val (.ref b), .val (.int le), .val (.int en), .val (.int (1 : Int32))] [])) _
  refine XS.aload X0.here hx rfl (hb hby at_357) rfl rfl ?_
  show Steps p.tables e below (T0.setTop (mkF m 359 #[.val (.long q1), .second, .val (.int p2), .val (.int p3), .val (.int p4), .val (.long n), .second, .val (.int i5), .val (.int fl), .val (.ref b), .val (.int le), .val (.int en), .val (.int (1 : Int32))] [(.ref b)])) _
  refine XS.bipush X0.here hx rfl (hb hby at_359) ?_
  show Steps p.tables e below (T0.setTop (mkF m 361 #[.val (.long q1), .second, .val (.int p2), .val (.int p3), .val (.int p4), .val (.long n), .second, .val (.int i5), .val (.int fl), .val (.ref b), .val (.int le), .val (.int en), .val (.int (1 : Int32))] [(.int (7 : Int32)), (.ref b)])) _
  refine XS.iload X0.here hx rfl (hb hby at_361) rfl ?_
  show Steps p.tables e below (T0.setTop (mkF m 363 #[.val (.long q1), .second, .val (.int p2), .val (.int p3), .val (.int p4), .val (.long n), .second, .val (.int i5), .val (.int fl), .val (.ref b), .val (.int le), .val (.int en), .val (.int (1 : Int32))] [(.int i5), (.int (7 : Int32)), (.ref b)])) _
  refine XS.iload X0.here hx rfl (hb hby at_363) rfl ?_
  show Steps p.tables e below (T0.setTop (mkF m 365 #[.val (.long q1), .second, .val (.int p2), .val (.int p3), .val (.int p4), .val (.long n), .second, .val (.int i5), .val (.int fl), .val (.ref b), .val (.int le), .val (.int en), .val (.int (1 : Int32))] [(.int le), (.int i5), (.int (7 : Int32)), (.ref b)])) _
  refine XS.lload X0.here hx rfl (hb hby at_365) rfl ?_
  show Steps p.tables e below (T0.setTop (mkF m 367 #[.val (.long q1), .second, .val (.int p2), .val (.int p3), .val (.int p4), .val (.long n), .second, .val (.int i5), .val (.int fl), .val (.ref b), .val (.int le), .val (.int en), .val (.int (1 : Int32))] [(.long n), (.int le), (.int i5), (.int (7 : Int32)), (.ref b)])) _
  refine XS.iload X0.here hx rfl (hb hby at_367) rfl ?_
  show Steps p.tables e below (T0.setTop (mkF m 369 #[.val (.long q1), .second, .val (.int p2), .val (.int p3), .val (.int p4), .val (.long n), .second, .val (.int i5), .val (.int fl), .val (.ref b), .val (.int le), .val (.int en), .val (.int (1 : Int32))] [(.int fl), (.long n), (.int le), (.int i5), (.int (7 : Int32)), (.ref b)])) _
  refine st1 _ ?_
  show Steps p.tables e below (T1.setTop (mkF m 372 #[.val (.long q1), .second, .val (.int p2), .val (.int p3), .val (.int p4), .val (.long n), .second, .val (.int i5), .val (.int fl), .val (.ref b), .val (.int le), .val (.int en), .val (.int (1 : Int32))] [(.int (1 : Int32))])) _
  refine XS.ifNo X1.here hx rfl (hb hby at_372) rfl ((if0 _ _).trans (feq (by decide : ¬ ((1 : Int32) = (0 : Int32)))).1) ?_
  show Steps p.tables e below (T1.setTop (mkF m 375 #[.val (.long q1), .second, .val (.int p2), .val (.int p3), .val (.int p4), .val (.long n), .second, .val (.int i5), .val (.int fl), .val (.ref b), .val (.int le), .val (.int en), .val (.int (1 : Int32))] [])) _
  refine XS.iconst X1.here hx rfl (hb hby at_375) ?_
  show Steps p.tables e below (T1.setTop (mkF m 376 #[.val (.long q1), .second, .val (.int p2), .val (.int p3), .val (.int p4), .val (.long n), .second, .val (.int i5), .val (.int fl), .val (.ref b), .val (.int le), .val (.int en), .val (.int (1 : Int32))] [(.int (1 : Int32))])) _
  refine XS.goto X1.here hx rfl (pc0 := 376) (pc' := 380) rfl (hb hby at_376) (by decide) (by decide) ?_
  show Steps p.tables e below (T1.setTop (mkF m 380 #[.val (.long q1), .second, .val (.int p2), .val (.int p3), .val (.int p4), .val (.long n), .second, .val (.int i5), .val (.int fl), .val (.ref b), .val (.int le), .val (.int en), .val (.int (1 : Int32))] [(.int (1 : Int32))])) _
  refine XS.istore X1.here hx rfl (hb hby at_380) rfl (l' := #[.val (.long q1), .second, .val (.int p2), .val (.int p3), .val (.int p4), .val (.long n), .second, .val (.int i5), .val (.int fl), .val (.ref b), .val (.int le), .val (.int en), .val (.int (1 : Int32))]) rfl ?_
  show Steps p.tables e below (T1.setTop (mkF m 382 #[.val (.long q1), .second, .val (.int p2), .val (.int p3), .val (.int p4), .val (.long n), .second, .val (.int i5), .val (.int fl), .val (.ref b), .val (.int le), .val (.int en), .val (.int (1 : Int32))] [])) _
  exact kt
set_option maxRecDepth 65536 in
set_option maxHeartbeats 40000000 in
theorem ck_8 {p : Program} {l : Launch} {e : Env} {s : State} {m : MethodId} {args : Array Value} {below : List Frame} {meth : Method} {c : Code} {T0 : State} {locs : List Loc} {cells slots : Nat} {Z : State} {a0 : Array Value} {h0 : Heap} {f : Nat → Value} {n0 : Nat} (q1 n : Int64) (p2 p3 p4 i5 fl : Int32) (b : Addr) (le en : Int32) (X0 : Stand p l e room_1 s m args below meth c T0 locs cells slots) (hx : p.tables.exec = Jvm.exec) (hZ : Z.Warmed39 s.vm) (hw : ∀ d ∈ tables_1, d.before a0 Z = true) (hby : c.code = code) (hown : s.vm.findClass "com/example/spanlace/spanlace/index/IndexOutputPutVLongPinLaw" = some m.cls) (hml : c.maxLocals = 13) (e0 : T0.heap = h0) (N0 : Fr n0 locs) (Z0 : n0 ≤ h0.size) (hcl : cells + 0 ≤ room_1.cells) (hsl : slots + 0 ≤ room_1.slots) (V0 : own_A Z h0 b .byte 13 f) (hat : f ((8 : Int32).toNatClampNeg) = .int (own_want (8 : Int32) i5 le n fl)) :
    ∃ (T' : State) (locs' : List Loc), Stand p l e room_1 s m args below meth c T' locs' cells slots ∧ T'.heap = h0 ∧ Fr n0 locs' ∧
      ∀ target, Steps p.tables e below (T'.setTop (mkF m 412 #[.val (.long q1), .second, .val (.int p2), .val (.int p3), .val (.int p4), .val (.long n), .second, .val (.int i5), .val (.int fl), .val (.ref b), .val (.int le), .val (.int en), .val (.int (1 : Int32))] [])) target → Steps p.tables e below (T0.setTop (mkF m 382 #[.val (.long q1), .second, .val (.int p2), .val (.int p3), .val (.int p4), .val (.long n), .second, .val (.int i5), .val (.int fl), .val (.ref b), .val (.int le), .val (.int en), .val (.int (1 : Int32))] [])) target := by
  obtain ⟨_, _, ⟨T1, L1, k1, n1⟩, -, X1, ⟨Lc1, hQ1, l1, y1, z1⟩, st1⟩ := Jvm.LawKit.callS X0 hx (y := (⟨"com/example/spanlace/spanlace/index/IndexOutputPutVLongPinLaw", "cell", "([BIIIJB)Z"⟩ : MethodName)) hown (mvT hZ (hw _ (List.mem_of_getElem? (i := 12) rfl))) (mvT hZ (hw _ (List.mem_of_getElem? (i := 13) rfl))) (mvT hZ (hw _ (List.mem_of_getElem? (i := 4) rfl))) (mvT hZ (hw _ (List.mem_of_getElem? (i := 14) rfl))) (by decide) (backOf (W := 0) (rm2 l Z a0 hw [] b (8 : Int32) i5 le n fl f h0 n0 Z0 V0 (by decide) (by decide) hat) hZ (hw _ (List.mem_of_getElem? (i := 14) rfl)) (hw _ (List.mem_of_getElem? (i := 4) rfl)) (by decide) (by decide)) (g := (mkF m 399 #[.val (.long q1), .second, .val (.int p2), .val (.int p3), .val (.int p4), .val (.long n), .second, .val (.int i5), .val (.int fl), .val (.ref b), .val (.int le), .val (.int en), .val (.int (1 : Int32))] [(.int fl), (.long n), (.int le), (.int i5), (.int (8 : Int32)), (.ref b)])) rfl (by rw [hml]; rfl) (argsL := [(.ref b), (.int (8 : Int32)), (.int i5), (.int le), (.long n), (.int fl)]) (rest := []) (lenOf pdx_0 rfl) rfl (by show 2 * 0 + _ ≤ _; exact Nat.le_of_eq rfl) (hb hby at_399) (fun _ _ => ⟨rfl, e0, hcl, hsl⟩)
  dsimp only [Pt.U, Pt.locs, Pt.cells, Pt.slots] at X1 l1 y1 z1 st1 hQ1
  subst l1 y1 z1
  obtain ⟨rfl, N1q, e1⟩ := hQ1
  have N1 := Fr.app N0 N1q
  refine ⟨T1, _, X1, e1, N1, fun target kt => ?_⟩
  show Steps p.tables e below (T0.setTop (mkF m 382 #[.val (.long q1), .second, .val (.int p2), .val (.int p3), .val (.int p4), .val (.long n), .second, .val (.int i5), .val (.int fl), .val (.ref b), .val (.int le), .val (.int en), .val (.int (1 : Int32))] [])) _
  refine XS.iload X0.here hx rfl (hb hby at_382) rfl ?_
  show Steps p.tables e below (T0.setTop (mkF m 384 #[.val (.long q1), .second, .val (.int p2), .val (.int p3), .val (.int p4), .val (.long n), .second, .val (.int i5), .val (.int fl), .val (.ref b), .val (.int le), .val (.int en), .val (.int (1 : Int32))] [(.int (1 : Int32))])) _
  refine XS.ifNo X0.here hx rfl (hb hby at_384) rfl ((if0 _ _).trans (feq (by decide : ¬ ((1 : Int32) = (0 : Int32)))).1) ?_
  show Steps p.tables e below (T0.setTop (mkF m 387 #[.val (.long q1), .second, .val (.int p2), .val (.int p3), .val (.int p4), .val (.long n), .second, .val (.int i5), .val (.int fl), .val (.ref b), .val (.int le), .val (.int en), .val (.int (1 : Int32))] [])) _
  refine XS.aload X0.here hx rfl (hb hby at_387) rfl rfl ?_
  show Steps p.tables e below (T0.setTop (mkF m 389 #[.val (.long q1), .second, .val (.int p2), .val (.int p3), .val (.int p4), .val (.long n), .second, .val (.int i5), .val (.int fl), .val (.ref b), .val (.int le), .val (.int en), .val (.int (1 : Int32))] [(.ref b)])) _
  refine XS.bipush X0.here hx rfl (hb hby at_389) ?_
  show Steps p.tables e below (T0.setTop (mkF m 391 #[.val (.long q1), .second, .val (.int p2), .val (.int p3), .val (.int p4), .val (.long n), .second, .val (.int i5), .val (.int fl), .val (.ref b), .val (.int le), .val (.int en), .val (.int (1 : Int32))] [(.int (8 : Int32)), (.ref b)])) _
  refine XS.iload X0.here hx rfl (hb hby at_391) rfl ?_
  show Steps p.tables e below (T0.setTop (mkF m 393 #[.val (.long q1), .second, .val (.int p2), .val (.int p3), .val (.int p4), .val (.long n), .second, .val (.int i5), .val (.int fl), .val (.ref b), .val (.int le), .val (.int en), .val (.int (1 : Int32))] [(.int i5), (.int (8 : Int32)), (.ref b)])) _
  refine XS.iload X0.here hx rfl (hb hby at_393) rfl ?_
  show Steps p.tables e below (T0.setTop (mkF m 395 #[.val (.long q1), .second, .val (.int p2), .val (.int p3), .val (.int p4), .val (.long n), .second, .val (.int i5), .val (.int fl), .val (.ref b), .val (.int le), .val (.int en), .val (.int (1 : Int32))] [(.int le), (.int i5), (.int (8 : Int32)), (.ref b)])) _
  refine XS.lload X0.here hx rfl (hb hby at_395) rfl ?_
  show Steps p.tables e below (T0.setTop (mkF m 397 #[.val (.long q1), .second, .val (.int p2), .val (.int p3), .val (.int p4), .val (.long n), .second, .val (.int i5), .val (.int fl), .val (.ref b), .val (.int le), .val (.int en), .val (.int (1 : Int32))] [(.long n), (.int le), (.int i5), (.int (8 : Int32)), (.ref b)])) _
  refine XS.iload X0.here hx rfl (hb hby at_397) rfl ?_
  show Steps p.tables e below (T0.setTop (mkF m 399 #[.val (.long q1), .second, .val (.int p2), .val (.int p3), .val (.int p4), .val (.long n), .second, .val (.int i5), .val (.int fl), .val (.ref b), .val (.int le), .val (.int en), .val (.int (1 : Int32))] [(.int fl), (.long n), (.int le), (.int i5), (.int (8 : Int32)), (.ref b)])) _
  refine st1 _ ?_
  show Steps p.tables e below (T1.setTop (mkF m 402 #[.val (.long q1), .second, .val (.int p2), .val (.int p3), .val (.int p4), .val (.long n), .second, .val (.int i5), .val (.int fl), .val (.ref b), .val (.int le), .val (.int en), .val (.int (1 : Int32))] [(.int (1 : Int32))])) _
  refine XS.ifNo X1.here hx rfl (hb hby at_402) rfl ((if0 _ _).trans (feq (by decide : ¬ ((1 : Int32) = (0 : Int32)))).1) ?_
  show Steps p.tables e below (T1.setTop (mkF m 405 #[.val (.long q1), .second, .val (.int p2), .val (.int p3), .val (.int p4), .val (.long n), .second, .val (.int i5), .val (.int fl), .val (.ref b), .val (.int le), .val (.int en), .val (.int (1 : Int32))] [])) _
  refine XS.iconst X1.here hx rfl (hb hby at_405) ?_
  show Steps p.tables e below (T1.setTop (mkF m 406 #[.val (.long q1), .second, .val (.int p2), .val (.int p3), .val (.int p4), .val (.long n), .second, .val (.int i5), .val (.int fl), .val (.ref b), .val (.int le), .val (.int en), .val (.int (1 : Int32))] [(.int (1 : Int32))])) _
  refine XS.goto X1.here hx rfl (pc0 := 406) (pc' := 410) rfl (hb hby at_406) (by decide) (by decide) ?_
  show Steps p.tables e below (T1.setTop (mkF m 410 #[.val (.long q1), .second, .val (.int p2), .val (.int p3), .val (.int p4), .val (.long n), .second, .val (.int i5), .val (.int fl), .val (.ref b), .val (.int le), .val (.int en), .val (.int (1 : Int32))] [(.int (1 : Int32))])) _
  refine XS.istore X1.here hx rfl (hb hby at_410) rfl (l' := #[.val (.long q1), .second, .val (.int p2), .val (.int p3), .val (.int p4), .val (.long n), .second, .val (.int i5), .val (.int fl), .val (.ref b), .val (.int le), .val (.int en), .val (.int (1 : Int32))]) rfl ?_
  show Steps p.tables e below (T1.setTop (mkF m 412 #[.val (.long q1), .second, .val (.int p2), .val (.int p3), .val (.int p4), .val (.long n), .second, .val (.int i5), .val (.int fl), .val (.ref b), .val (.int le), .val (.int en), .val (.int (1 : Int32))] [])) _
  exact kt
set_option maxRecDepth 65536 in
set_option maxHeartbeats 40000000 in
theorem ck_9 {p : Program} {l : Launch} {e : Env} {s : State} {m : MethodId} {args : Array Value} {below : List Frame} {meth : Method} {c : Code} {T0 : State} {locs : List Loc} {cells slots : Nat} {Z : State} {a0 : Array Value} {h0 : Heap} {f : Nat → Value} {n0 : Nat} (q1 n : Int64) (p2 p3 p4 i5 fl : Int32) (b : Addr) (le en : Int32) (X0 : Stand p l e room_1 s m args below meth c T0 locs cells slots) (hx : p.tables.exec = Jvm.exec) (hZ : Z.Warmed39 s.vm) (hw : ∀ d ∈ tables_1, d.before a0 Z = true) (hby : c.code = code) (hown : s.vm.findClass "com/example/spanlace/spanlace/index/IndexOutputPutVLongPinLaw" = some m.cls) (hml : c.maxLocals = 13) (e0 : T0.heap = h0) (N0 : Fr n0 locs) (Z0 : n0 ≤ h0.size) (hcl : cells + 0 ≤ room_1.cells) (hsl : slots + 0 ≤ room_1.slots) (V0 : own_A Z h0 b .byte 13 f) (hat : f ((9 : Int32).toNatClampNeg) = .int (own_want (9 : Int32) i5 le n fl)) :
    ∃ (T' : State) (locs' : List Loc), Stand p l e room_1 s m args below meth c T' locs' cells slots ∧ T'.heap = h0 ∧ Fr n0 locs' ∧
      ∀ target, Steps p.tables e below (T'.setTop (mkF m 442 #[.val (.long q1), .second, .val (.int p2), .val (.int p3), .val (.int p4), .val (.long n), .second, .val (.int i5), .val (.int fl), .val (.ref b), .val (.int le), .val (.int en), .val (.int (1 : Int32))] [])) target → Steps p.tables e below (T0.setTop (mkF m 412 #[.val (.long q1), .second, .val (.int p2), .val (.int p3), .val (.int p4), .val (.long n), .second, .val (.int i5), .val (.int fl), .val (.ref b), .val (.int le), .val (.int en), .val (.int (1 : Int32))] [])) target := by
  obtain ⟨_, _, ⟨T1, L1, k1, n1⟩, -, X1, ⟨Lc1, hQ1, l1, y1, z1⟩, st1⟩ := Jvm.LawKit.callS X0 hx (y := (⟨"com/example/spanlace/spanlace/index/IndexOutputPutVLongPinLaw", "cell", "([BIIIJB)Z"⟩ : MethodName)) hown (mvT hZ (hw _ (List.mem_of_getElem? (i := 12) rfl))) (mvT hZ (hw _ (List.mem_of_getElem? (i := 13) rfl))) (mvT hZ (hw _ (List.mem_of_getElem? (i := 4) rfl))) (mvT hZ (hw _ (List.mem_of_getElem? (i := 14) rfl))) (by decide) (backOf (W := 0) (rm2 l Z a0 hw [] b (9 : Int32) i5 le n fl f h0 n0 Z0 V0 (by decide) (by decide) hat) hZ (hw _ (List.mem_of_getElem? (i := 14) rfl)) (hw _ (List.mem_of_getElem? (i := 4) rfl)) (by decide) (by decide)) (g := (mkF m 429 #[.val (.long q1), .second, .val (.int p2), .val (.int p3), .val (.int p4), .val (.long n), .second, .val (.int i5), .val (.int fl), .val (.ref b), .val (.int le), .val (.int en), .val (.int (1 : Int32))] [(.int fl), (.long n), (.int le), (.int i5), (.int (9 : Int32)), (.ref b)])) rfl (by rw [hml]; rfl) (argsL := [(.ref b), (.int (9 : Int32)), (.int i5), (.int le), (.long n), (.int fl)]) (rest := []) (lenOf pdx_0 rfl) rfl (by show 2 * 0 + _ ≤ _; exact Nat.le_of_eq rfl) (hb hby at_429) (fun _ _ => ⟨rfl, e0, hcl, hsl⟩)
  dsimp only [Pt.U, Pt.locs, Pt.cells, Pt.slots] at X1 l1 y1 z1 st1 hQ1
  subst l1 y1 z1
  obtain ⟨rfl, N1q, e1⟩ := hQ1
  have N1 := Fr.app N0 N1q
  refine ⟨T1, _, X1, e1, N1, fun target kt => ?_⟩
  show Steps p.tables e below (T0.setTop (mkF m 412 #[.val (.long q1), .second, .val (.int p2), .val (.int p3), .val (.int p4), .val (.long n), .second, .val (.int i5), .val (.int fl), .val (.ref b), .val (.int le), .val (.int en), .val (.int (1 : Int32))] [])) _
  refine XS.iload X0.here hx rfl (hb hby at_412) rfl ?_
  show Steps p.tables e below (T0.setTop (mkF m 414 #[.val (.long q1), .second, .val (.int p2), .val (.int p3), .val (.int p4), .val (.long n), .second, .val (.int i5), .val (.int fl), .val (.ref b), .val (.int le), .val (.int en), .val (.int (1 : Int32))] [(.int (1 : Int32))])) _
  refine XS.ifNo X0.here hx rfl (hb hby at_414) rfl ((if0 _ _).trans (feq (by decide : ¬ ((1 : Int32) = (0 : Int32)))).1) ?_
  show Steps p.tables e below (T0.setTop (mkF m 417 #[.val (.long q1), .second, .val (.int p2), .val (.int p3), .val (.int p4), .val (.long n), .second, .val (.int i5), .val (.int fl), .val (.ref b), .val (.int le), .val (.int en), .val (.int (1 : Int32))] [])) _
  refine XS.aload X0.here hx rfl (hb hby at_417) rfl rfl ?_
  show Steps p.tables e below (T0.setTop (mkF m 419 #[.val (.long q1), .second, .val (.int p2), .val (.int p3), .val (.int p4), .val (.long n), .second, .val (.int i5), .val (.int fl), .val (.ref b), .val (.int le), .val (.int en), .val (.int (1 : Int32))] [(.ref b)])) _
  refine XS.bipush X0.here hx rfl (hb hby at_419) ?_
  show Steps p.tables e below (T0.setTop (mkF m 421 #[.val (.long q1), .second, .val (.int p2), .val (.int p3), .val (.int p4), .val (.long n), .second, .val (.int i5), .val (.int fl), .val (.ref b), .val (.int le), .val (.int en), .val (.int (1 : Int32))] [(.int (9 : Int32)), (.ref b)])) _
  refine XS.iload X0.here hx rfl (hb hby at_421) rfl ?_
  show Steps p.tables e below (T0.setTop (mkF m 423 #[.val (.long q1), .second, .val (.int p2), .val (.int p3), .val (.int p4), .val (.long n), .second, .val (.int i5), .val (.int fl), .val (.ref b), .val (.int le), .val (.int en), .val (.int (1 : Int32))] [(.int i5), (.int (9 : Int32)), (.ref b)])) _
  refine XS.iload X0.here hx rfl (hb hby at_423) rfl ?_
  show Steps p.tables e below (T0.setTop (mkF m 425 #[.val (.long q1), .second, .val (.int p2), .val (.int p3), .val (.int p4), .val (.long n), .second, .val (.int i5), .val (.int fl), .val (.ref b), .val (.int le), .val (.int en), .val (.int (1 : Int32))] [(.int le), (.int i5), (.int (9 : Int32)), (.ref b)])) _
  refine XS.lload X0.here hx rfl (hb hby at_425) rfl ?_
  show Steps p.tables e below (T0.setTop (mkF m 427 #[.val (.long q1), .second, .val (.int p2), .val (.int p3), .val (.int p4), .val (.long n), .second, .val (.int i5), .val (.int fl), .val (.ref b), .val (.int le), .val (.int en), .val (.int (1 : Int32))] [(.long n), (.int le), (.int i5), (.int (9 : Int32)), (.ref b)])) _
  refine XS.iload X0.here hx rfl (hb hby at_427) rfl ?_
  show Steps p.tables e below (T0.setTop (mkF m 429 #[.val (.long q1), .second, .val (.int p2), .val (.int p3), .val (.int p4), .val (.long n), .second, .val (.int i5), .val (.int fl), .val (.ref b), .val (.int le), .val (.int en), .val (.int (1 : Int32))] [(.int fl), (.long n), (.int le), (.int i5), (.int (9 : Int32)), (.ref b)])) _
  refine st1 _ ?_
  show Steps p.tables e below (T1.setTop (mkF m 432 #[.val (.long q1), .second, .val (.int p2), .val (.int p3), .val (.int p4), .val (.long n), .second, .val (.int i5), .val (.int fl), .val (.ref b), .val (.int le), .val (.int en), .val (.int (1 : Int32))] [(.int (1 : Int32))])) _
  refine XS.ifNo X1.here hx rfl (hb hby at_432) rfl ((if0 _ _).trans (feq (by decide : ¬ ((1 : Int32) = (0 : Int32)))).1) ?_
  show Steps p.tables e below (T1.setTop (mkF m 435 #[.val (.long q1), .second, .val (.int p2), .val (.int p3), .val (.int p4), .val (.long n), .second, .val (.int i5), .val (.int fl), .val (.ref b), .val (.int le), .val (.int en), .val (.int (1 : Int32))] [])) _
  refine XS.iconst X1.here hx rfl (hb hby at_435) ?_
  show Steps p.tables e below (T1.setTop (mkF m 436 #[.val (.long q1), .second, .val (.int p2), .val (.int p3), .val (.int p4), .val (.long n), .second, .val (.int i5), .val (.int fl), .val (.ref b), .val (.int le), .val (.int en), .val (.int (1 : Int32))] [(.int (1 : Int32))])) _
  refine XS.goto X1.here hx rfl (pc0 := 436) (pc' := 440) rfl (hb hby at_436) (by decide) (by decide) ?_
  show Steps p.tables e below (T1.setTop (mkF m 440 #[.val (.long q1), .second, .val (.int p2), .val (.int p3), .val (.int p4), .val (.long n), .second, .val (.int i5), .val (.int fl), .val (.ref b), .val (.int le), .val (.int en), .val (.int (1 : Int32))] [(.int (1 : Int32))])) _
  refine XS.istore X1.here hx rfl (hb hby at_440) rfl (l' := #[.val (.long q1), .second, .val (.int p2), .val (.int p3), .val (.int p4), .val (.long n), .second, .val (.int i5), .val (.int fl), .val (.ref b), .val (.int le), .val (.int en), .val (.int (1 : Int32))]) rfl ?_
  show Steps p.tables e below (T1.setTop (mkF m 442 #[.val (.long q1), .second, .val (.int p2), .val (.int p3), .val (.int p4), .val (.long n), .second, .val (.int i5), .val (.int fl), .val (.ref b), .val (.int le), .val (.int en), .val (.int (1 : Int32))] [])) _
  exact kt
set_option maxRecDepth 65536 in
set_option maxHeartbeats 40000000 in
theorem ck_10 {p : Program} {l : Launch} {e : Env} {s : State} {m : MethodId} {args : Array Value} {below : List Frame} {meth : Method} {c : Code} {T0 : State} {locs : List Loc} {cells slots : Nat} {Z : State} {a0 : Array Value} {h0 : Heap} {f : Nat → Value} {n0 : Nat} (q1 n : Int64) (p2 p3 p4 i5 fl : Int32) (b : Addr) (le en : Int32) (X0 : Stand p l e room_1 s m args below meth c T0 locs cells slots) (hx : p.tables.exec = Jvm.exec) (hZ : Z.Warmed39 s.vm) (hw : ∀ d ∈ tables_1, d.before a0 Z = true) (hby : c.code = code) (hown : s.vm.findClass "com/example/spanlace/spanlace/index/IndexOutputPutVLongPinLaw" = some m.cls) (hml : c.maxLocals = 13) (e0 : T0.heap = h0) (N0 : Fr n0 locs) (Z0 : n0 ≤ h0.size) (hcl : cells + 0 ≤ room_1.cells) (hsl : slots + 0 ≤ room_1.slots) (V0 : own_A Z h0 b .byte 13 f) (hat : f ((10 : Int32).toNatClampNeg) = .int (own_want (10 : Int32) i5 le n fl)) :
    ∃ (T' : State) (locs' : List Loc), Stand p l e room_1 s m args below meth c T' locs' cells slots ∧ T'.heap = h0 ∧ Fr n0 locs' ∧
      ∀ target, Steps p.tables e below (T'.setTop (mkF m 472 #[.val (.long q1), .second, .val (.int p2), .val (.int p3), .val (.int p4), .val (.long n), .second, .val (.int i5), .val (.int fl), .val (.ref b), .val (.int le), .val (.int en), .val (.int (1 : Int32))] [])) target → Steps p.tables e below (T0.setTop (mkF m 442 #[.val (.long q1), .second, .val (.int p2), .val (.int p3), .val (.int p4), .val (.long n), .second, .val (.int i5), .val (.int fl), .val (.ref b), .val (.int le), .val (.int en), .val (.int (1 : Int32))] [])) target := by
  obtain ⟨_, _, ⟨T1, L1, k1, n1⟩, -, X1, ⟨Lc1, hQ1, l1, y1, z1⟩, st1⟩ := Jvm.LawKit.callS X0 hx (y := (⟨"com/example/spanlace/spanlace/index/IndexOutputPutVLongPinLaw", "cell", "([BIIIJB)Z"⟩ : MethodName)) hown (mvT hZ (hw _ (List.mem_of_getElem? (i := 12) rfl))) (mvT hZ (hw _ (List.mem_of_getElem? (i := 13) rfl))) (mvT hZ (hw _ (List.mem_of_getElem? (i := 4) rfl))) (mvT hZ (hw _ (List.mem_of_getElem? (i := 14) rfl))) (by decide) (backOf (W := 0) (rm2 l Z a0 hw [] b (10 : Int32) i5 le n fl f h0 n0 Z0 V0 (by decide) (by decide) hat) hZ (hw _ (List.mem_of_getElem? (i := 14) rfl)) (hw _ (List.mem_of_getElem? (i := 4) rfl)) (by decide) (by decide)) (g := (mkF m 459 #[.val (.long q1), .second, .val (.int p2), .val (.int p3), .val (.int p4), .val (.long n), .second, .val (.int i5), .val (.int fl), .val (.ref b), .val (.int le), .val (.int en), .val (.int (1 : Int32))] [(.int fl), (.long n), (.int le), (.int i5), (.int (10 : Int32)), (.ref b)])) rfl (by rw [hml]; rfl) (argsL := [(.ref b), (.int (10 : Int32)), (.int i5), (.int le), (.long n), (.int fl)]) (rest := []) (lenOf pdx_0 rfl) rfl (by show 2 * 0 + _ ≤ _; exact Nat.le_of_eq rfl) (hb hby at_459) (fun _ _ => ⟨rfl, e0, hcl, hsl⟩)
  dsimp only [Pt.U, Pt.locs, Pt.cells, Pt.slots] at X1 l1 y1 z1 st1 hQ1
  subst l1 y1 z1
  obtain ⟨rfl, N1q, e1⟩ := hQ1
  have N1 := Fr.app N0 N1q
  refine ⟨T1, _, X1, e1, N1, fun target kt => ?_⟩
  show Steps p.tables e below (T0.setTop (mkF m 442 #[.val (.long q1), .second, .val (.int p2), .val (.int p3), .val (.int p4), .val (.long n), .second, .val (.int i5), .val (.int fl), .val (.ref b), .val (.int le), .val (.int en), .val (.int (1 : Int32))] [])) _
  refine XS.iload X0.here hx rfl (hb hby at_442) rfl ?_
  show Steps p.tables e below (T0.setTop (mkF m 444 #[.val (.long q1), .second, .val (.int p2), .val (.int p3), .val (.int p4), .val (.long n), .second, .val (.int i5), .val (.int fl), .val (.ref b), .val (.int le), .val (.int en), .val (.int (1 : Int32))] [(.int (1 : Int32))])) _
  refine XS.ifNo X0.here hx rfl (hb hby at_444) rfl ((if0 _ _).trans (feq (by decide : ¬ ((1 : Int32) = (0 : Int32)))).1) ?_
  show Steps p.tables e below (T0.setTop (mkF m 447 #[.val (.long q1), .second, .val (.int p2), .val (.int p3), .val (.int p4), .val (.long n), .second, .val (.int i5), .val (.int fl), .val (.ref b), .val (.int le), .val (.int en), .val (.int (1 : Int32))] [])) _
  refine XS.aload X0.here hx rfl (hb hby at_447) rfl rfl ?_
  show Steps p.tables e below (T0.setTop (mkF m 449 #[.val (.long q1), .second, .val (.int p2), .val (.int p3), .val (.int p4), .val (.long n), .second, .val (.int i5), .val (.int fl), .val (.ref b), .val (.int le), .val (.int en), .val (.int (1 : Int32))] [(.ref b)])) _
  refine XS.bipush X0.here hx rfl (hb hby at_449) ?_
  show Steps p.tables e below (T0.setTop (mkF m 451 #[.val (.long q1), .second, .val (.int p2), .val (.int p3), .val (.int p4), .val (.long n), .second, .val (.int i5), .val (.int fl), .val (.ref b), .val (.int le), .val (.int en), .val (.int (1 : Int32))] [(.int (10 : Int32)), (.ref b)])) _
  refine XS.iload X0.here hx rfl (hb hby at_451) rfl ?_
  show Steps p.tables e below (T0.setTop (mkF m 453 #[.val (.long q1), .second, .val (.int p2), .val (.int p3), .val (.int p4), .val (.long n), .second, .val (.int i5), .val (.int fl), .val (.ref b), .val (.int le), .val (.int en), .val (.int (1 : Int32))] [(.int i5), (.int (10 : Int32)), (.ref b)])) _
  refine XS.iload X0.here hx rfl (hb hby at_453) rfl ?_
  show Steps p.tables e below (T0.setTop (mkF m 455 #[.val (.long q1), .second, .val (.int p2), .val (.int p3), .val (.int p4), .val (.long n), .second, .val (.int i5), .val (.int fl), .val (.ref b), .val (.int le), .val (.int en), .val (.int (1 : Int32))] [(.int le), (.int i5), (.int (10 : Int32)), (.ref b)])) _
  refine XS.lload X0.here hx rfl (hb hby at_455) rfl ?_
  show Steps p.tables e below (T0.setTop (mkF m 457 #[.val (.long q1), .second, .val (.int p2), .val (.int p3), .val (.int p4), .val (.long n), .second, .val (.int i5), .val (.int fl), .val (.ref b), .val (.int le), .val (.int en), .val (.int (1 : Int32))] [(.long n), (.int le), (.int i5), (.int (10 : Int32)), (.ref b)])) _
  refine XS.iload X0.here hx rfl (hb hby at_457) rfl ?_
  show Steps p.tables e below (T0.setTop (mkF m 459 #[.val (.long q1), .second, .val (.int p2), .val (.int p3), .val (.int p4), .val (.long n), .second, .val (.int i5), .val (.int fl), .val (.ref b), .val (.int le), .val (.int en), .val (.int (1 : Int32))] [(.int fl), (.long n), (.int le), (.int i5), (.int (10 : Int32)), (.ref b)])) _
  refine st1 _ ?_
  show Steps p.tables e below (T1.setTop (mkF m 462 #[.val (.long q1), .second, .val (.int p2), .val (.int p3), .val (.int p4), .val (.long n), .second, .val (.int i5), .val (.int fl), .val (.ref b), .val (.int le), .val (.int en), .val (.int (1 : Int32))] [(.int (1 : Int32))])) _
  refine XS.ifNo X1.here hx rfl (hb hby at_462) rfl ((if0 _ _).trans (feq (by decide : ¬ ((1 : Int32) = (0 : Int32)))).1) ?_
  show Steps p.tables e below (T1.setTop (mkF m 465 #[.val (.long q1), .second, .val (.int p2), .val (.int p3), .val (.int p4), .val (.long n), .second, .val (.int i5), .val (.int fl), .val (.ref b), .val (.int le), .val (.int en), .val (.int (1 : Int32))] [])) _
  refine XS.iconst X1.here hx rfl (hb hby at_465) ?_
  show Steps p.tables e below (T1.setTop (mkF m 466 #[.val (.long q1), .second, .val (.int p2), .val (.int p3), .val (.int p4), .val (.long n), .second, .val (.int i5), .val (.int fl), .val (.ref b), .val (.int le), .val (.int en), .val (.int (1 : Int32))] [(.int (1 : Int32))])) _
  refine XS.goto X1.here hx rfl (pc0 := 466) (pc' := 470) rfl (hb hby at_466) (by decide) (by decide) ?_
  show Steps p.tables e below (T1.setTop (mkF m 470 #[.val (.long q1), .second, .val (.int p2), .val (.int p3), .val (.int p4), .val (.long n), .second, .val (.int i5), .val (.int fl), .val (.ref b), .val (.int le), .val (.int en), .val (.int (1 : Int32))] [(.int (1 : Int32))])) _
  refine XS.istore X1.here hx rfl (hb hby at_470) rfl (l' := #[.val (.long q1), .second, .val (.int p2), .val (.int p3), .val (.int p4), .val (.long n), .second, .val (.int i5), .val (.int fl), .val (.ref b), .val (.int le), .val (.int en), .val (.int (1 : Int32))]) rfl ?_
  show Steps p.tables e below (T1.setTop (mkF m 472 #[.val (.long q1), .second, .val (.int p2), .val (.int p3), .val (.int p4), .val (.long n), .second, .val (.int i5), .val (.int fl), .val (.ref b), .val (.int le), .val (.int en), .val (.int (1 : Int32))] [])) _
  exact kt
set_option maxRecDepth 65536 in
set_option maxHeartbeats 40000000 in
theorem ck_11 {p : Program} {l : Launch} {e : Env} {s : State} {m : MethodId} {args : Array Value} {below : List Frame} {meth : Method} {c : Code} {T0 : State} {locs : List Loc} {cells slots : Nat} {Z : State} {a0 : Array Value} {h0 : Heap} {f : Nat → Value} {n0 : Nat} (q1 n : Int64) (p2 p3 p4 i5 fl : Int32) (b : Addr) (le en : Int32) (X0 : Stand p l e room_1 s m args below meth c T0 locs cells slots) (hx : p.tables.exec = Jvm.exec) (hZ : Z.Warmed39 s.vm) (hw : ∀ d ∈ tables_1, d.before a0 Z = true) (hby : c.code = code) (hown : s.vm.findClass "com/example/spanlace/spanlace/index/IndexOutputPutVLongPinLaw" = some m.cls) (hml : c.maxLocals = 13) (e0 : T0.heap = h0) (N0 : Fr n0 locs) (Z0 : n0 ≤ h0.size) (hcl : cells + 0 ≤ room_1.cells) (hsl : slots + 0 ≤ room_1.slots) (V0 : own_A Z h0 b .byte 13 f) (hat : f ((11 : Int32).toNatClampNeg) = .int (own_want (11 : Int32) i5 le n fl)) :
    ∃ (T' : State) (locs' : List Loc), Stand p l e room_1 s m args below meth c T' locs' cells slots ∧ T'.heap = h0 ∧ Fr n0 locs' ∧
      ∀ target, Steps p.tables e below (T'.setTop (mkF m 502 #[.val (.long q1), .second, .val (.int p2), .val (.int p3), .val (.int p4), .val (.long n), .second, .val (.int i5), .val (.int fl), .val (.ref b), .val (.int le), .val (.int en), .val (.int (1 : Int32))] [])) target → Steps p.tables e below (T0.setTop (mkF m 472 #[.val (.long q1), .second, .val (.int p2), .val (.int p3), .val (.int p4), .val (.long n), .second, .val (.int i5), .val (.int fl), .val (.ref b), .val (.int le), .val (.int en), .val (.int (1 : Int32))] [])) target := by
  obtain ⟨_, _, ⟨T1, L1, k1, n1⟩, -, X1, ⟨Lc1, hQ1, l1, y1, z1⟩, st1⟩ := Jvm.LawKit.callS X0 hx (y := (⟨"com/example/spanlace/spanlace/index/IndexOutputPutVLongPinLaw", "cell", "([BIIIJB)Z"⟩ : MethodName)) hown (mvT hZ (hw _ (List.mem_of_getElem? (i := 12) rfl))) (mvT hZ (hw _ (List.mem_of_getElem? (i := 13) rfl))) (mvT hZ (hw _ (List.mem_of_getElem? (i := 4) rfl))) (mvT hZ (hw _ (List.mem_of_getElem? (i := 14) rfl))) (by decide) (backOf (W := 0) (rm2 l Z a0 hw [] b (11 : Int32) i5 le n fl f h0 n0 Z0 V0 (by decide) (by decide) hat) hZ (hw _ (List.mem_of_getElem? (i := 14) rfl)) (hw _ (List.mem_of_getElem? (i := 4) rfl)) (by decide) (by decide)) (g := (mkF m 489 #[.val (.long q1), .second, .val (.int p2), .val (.int p3), .val (.int p4), .val (.long n), .second, .val (.int i5), .val (.int fl), .val (.ref b), .val (.int le), .val (.int en), .val (.int (1 : Int32))] [(.int fl), (.long n), (.int le), (.int i5), (.int (11 : Int32)), (.ref b)])) rfl (by rw [hml]; rfl) (argsL := [(.ref b), (.int (11 : Int32)), (.int i5), (.int le), (.long n), (.int fl)]) (rest := []) (lenOf pdx_0 rfl) rfl (by show 2 * 0 + _ ≤ _; exact Nat.le_of_eq rfl) (hb hby at_489) (fun _ _ => ⟨rfl, e0, hcl, hsl⟩)
  dsimp only [Pt.U, Pt.locs, Pt.cells, Pt.slots] at X1 l1 y1 z1 st1 hQ1
  subst l1 y1 z1
  obtain ⟨rfl, N1q, e1⟩ := hQ1
  have N1 := Fr.app N0 N1q
  refine ⟨T1, _, X1, e1, N1, fun target kt => ?_⟩
  show Steps p.tables e below (T0.setTop (mkF m 472 #[.val (.long q1), .second, .val (.int p2), .val (.int p3), .val (.int p4), .val (.long n), .second, .val (.int i5), .val (.int fl), .val (.ref b), .val (.int le), .val (.int en), .val (.int (1 : Int32))] [])) _
  refine XS.iload X0.here hx rfl (hb hby at_472) rfl ?_
  show Steps p.tables e below (T0.setTop (mkF m 474 #[.val (.long q1), .second, .val (.int p2), .val (.int p3), .val (.int p4), .val (.long n), .second, .val (.int i5), .val (.int fl), .val (.ref b), .val (.int le), .val (.int en), .val (.int (1 : Int32))] [(.int (1 : Int32))])) _
  refine XS.ifNo X0.here hx rfl (hb hby at_474) rfl ((if0 _ _).trans (feq (by decide : ¬ ((1 : Int32) = (0 : Int32)))).1) ?_
  show Steps p.tables e below (T0.setTop (mkF m 477 #[.val (.long q1), .second, .val (.int p2), .val (.int p3), .val (.int p4), .val (.long n), .second, .val (.int i5), .val (.int fl), .val (.ref b), .val (.int le), .val (.int en), .val (.int (1 : Int32))] [])) _
  refine XS.aload X0.here hx rfl (hb hby at_477) rfl rfl ?_
  show Steps p.tables e below (T0.setTop (mkF m 479 #[.val (.long q1), .second, .val (.int p2), .val (.int p3), .val (.int p4), .val (.long n), .second, .val (.int i5), .val (.int fl), .val (.ref b), .val (.int le), .val (.int en), .val (.int (1 : Int32))] [(.ref b)])) _
  refine XS.bipush X0.here hx rfl (hb hby at_479) ?_
  show Steps p.tables e below (T0.setTop (mkF m 481 #[.val (.long q1), .second, .val (.int p2), .val (.int p3), .val (.int p4), .val (.long n), .second, .val (.int i5), .val (.int fl), .val (.ref b), .val (.int le), .val (.int en), .val (.int (1 : Int32))] [(.int (11 : Int32)), (.ref b)])) _
  refine XS.iload X0.here hx rfl (hb hby at_481) rfl ?_
  show Steps p.tables e below (T0.setTop (mkF m 483 #[.val (.long q1), .second, .val (.int p2), .val (.int p3), .val (.int p4), .val (.long n), .second, .val (.int i5), .val (.int fl), .val (.ref b), .val (.int le), .val (.int en), .val (.int (1 : Int32))] [(.int i5), (.int (11 : Int32)), (.ref b)])) _
  refine XS.iload X0.here hx rfl (hb hby at_483) rfl ?_
  show Steps p.tables e below (T0.setTop (mkF m 485 #[.val (.long q1), .second, .val (.int p2), .val (.int p3), .val (.int p4), .val (.long n), .second, .val (.int i5), .val (.int fl), .val (.ref b), .val (.int le), .val (.int en), .val (.int (1 : Int32))] [(.int le), (.int i5), (.int (11 : Int32)), (.ref b)])) _
  refine XS.lload X0.here hx rfl (hb hby at_485) rfl ?_
  show Steps p.tables e below (T0.setTop (mkF m 487 #[.val (.long q1), .second, .val (.int p2), .val (.int p3), .val (.int p4), .val (.long n), .second, .val (.int i5), .val (.int fl), .val (.ref b), .val (.int le), .val (.int en), .val (.int (1 : Int32))] [(.long n), (.int le), (.int i5), (.int (11 : Int32)), (.ref b)])) _
  refine XS.iload X0.here hx rfl (hb hby at_487) rfl ?_
  show Steps p.tables e below (T0.setTop (mkF m 489 #[.val (.long q1), .second, .val (.int p2), .val (.int p3), .val (.int p4), .val (.long n), .second, .val (.int i5), .val (.int fl), .val (.ref b), .val (.int le), .val (.int en), .val (.int (1 : Int32))] [(.int fl), (.long n), (.int le), (.int i5), (.int (11 : Int32)), (.ref b)])) _
  refine st1 _ ?_
  show Steps p.tables e below (T1.setTop (mkF m 492 #[.val (.long q1), .second, .val (.int p2), .val (.int p3), .val (.int p4), .val (.long n), .second, .val (.int i5), .val (.int fl), .val (.ref b), .val (.int le), .val (.int en), .val (.int (1 : Int32))] [(.int (1 : Int32))])) _
  refine XS.ifNo X1.here hx rfl (hb hby at_492) rfl ((if0 _ _).trans (feq (by decide : ¬ ((1 : Int32) = (0 : Int32)))).1) ?_
  show Steps p.tables e below (T1.setTop (mkF m 495 #[.val (.long q1), .second, .val (.int p2), .val (.int p3), .val (.int p4), .val (.long n), .second, .val (.int i5), .val (.int fl), .val (.ref b), .val (.int le), .val (.int en), .val (.int (1 : Int32))] [])) _
  refine XS.iconst X1.here hx rfl (hb hby at_495) ?_
  show Steps p.tables e below (T1.setTop (mkF m 496 #[.val (.long q1), .second, .val (.int p2), .val (.int p3), .val (.int p4), .val (.long n), .second, .val (.int i5), .val (.int fl), .val (.ref b), .val (.int le), .val (.int en), .val (.int (1 : Int32))] [(.int (1 : Int32))])) _
  refine XS.goto X1.here hx rfl (pc0 := 496) (pc' := 500) rfl (hb hby at_496) (by decide) (by decide) ?_
  show Steps p.tables e below (T1.setTop (mkF m 500 #[.val (.long q1), .second, .val (.int p2), .val (.int p3), .val (.int p4), .val (.long n), .second, .val (.int i5), .val (.int fl), .val (.ref b), .val (.int le), .val (.int en), .val (.int (1 : Int32))] [(.int (1 : Int32))])) _
  refine XS.istore X1.here hx rfl (hb hby at_500) rfl (l' := #[.val (.long q1), .second, .val (.int p2), .val (.int p3), .val (.int p4), .val (.long n), .second, .val (.int i5), .val (.int fl), .val (.ref b), .val (.int le), .val (.int en), .val (.int (1 : Int32))]) rfl ?_
  show Steps p.tables e below (T1.setTop (mkF m 502 #[.val (.long q1), .second, .val (.int p2), .val (.int p3), .val (.int p4), .val (.long n), .second, .val (.int i5), .val (.int fl), .val (.ref b), .val (.int le), .val (.int en), .val (.int (1 : Int32))] [])) _
  exact kt
set_option maxRecDepth 65536 in
set_option maxHeartbeats 40000000 in
theorem ck_12 {p : Program} {l : Launch} {e : Env} {s : State} {m : MethodId} {args : Array Value} {below : List Frame} {meth : Method} {c : Code} {T0 : State} {locs : List Loc} {cells slots : Nat} {Z : State} {a0 : Array Value} {h0 : Heap} {f : Nat → Value} {n0 : Nat} (q1 n : Int64) (p2 p3 p4 i5 fl : Int32) (b : Addr) (le en : Int32) (X0 : Stand p l e room_1 s m args below meth c T0 locs cells slots) (hx : p.tables.exec = Jvm.exec) (hZ : Z.Warmed39 s.vm) (hw : ∀ d ∈ tables_1, d.before a0 Z = true) (hby : c.code = code) (hown : s.vm.findClass "com/example/spanlace/spanlace/index/IndexOutputPutVLongPinLaw" = some m.cls) (hml : c.maxLocals = 13) (e0 : T0.heap = h0) (N0 : Fr n0 locs) (Z0 : n0 ≤ h0.size) (hcl : cells + 0 ≤ room_1.cells) (hsl : slots + 0 ≤ room_1.slots) (V0 : own_A Z h0 b .byte 13 f) (hat : f ((12 : Int32).toNatClampNeg) = .int (own_want (12 : Int32) i5 le n fl)) :
    ∃ (T' : State) (locs' : List Loc), Stand p l e room_1 s m args below meth c T' locs' cells slots ∧ T'.heap = h0 ∧ Fr n0 locs' ∧
      ∀ target, Steps p.tables e below (T'.setTop (mkF m 532 #[.val (.long q1), .second, .val (.int p2), .val (.int p3), .val (.int p4), .val (.long n), .second, .val (.int i5), .val (.int fl), .val (.ref b), .val (.int le), .val (.int en), .val (.int (1 : Int32))] [])) target → Steps p.tables e below (T0.setTop (mkF m 502 #[.val (.long q1), .second, .val (.int p2), .val (.int p3), .val (.int p4), .val (.long n), .second, .val (.int i5), .val (.int fl), .val (.ref b), .val (.int le), .val (.int en), .val (.int (1 : Int32))] [])) target := by
  obtain ⟨_, _, ⟨T1, L1, k1, n1⟩, -, X1, ⟨Lc1, hQ1, l1, y1, z1⟩, st1⟩ := Jvm.LawKit.callS X0 hx (y := (⟨"com/example/spanlace/spanlace/index/IndexOutputPutVLongPinLaw", "cell", "([BIIIJB)Z"⟩ : MethodName)) hown (mvT hZ (hw _ (List.mem_of_getElem? (i := 12) rfl))) (mvT hZ (hw _ (List.mem_of_getElem? (i := 13) rfl))) (mvT hZ (hw _ (List.mem_of_getElem? (i := 4) rfl))) (mvT hZ (hw _ (List.mem_of_getElem? (i := 14) rfl))) (by decide) (backOf (W := 0) (rm2 l Z a0 hw [] b (12 : Int32) i5 le n fl f h0 n0 Z0 V0 (by decide) (by decide) hat) hZ (hw _ (List.mem_of_getElem? (i := 14) rfl)) (hw _ (List.mem_of_getElem? (i := 4) rfl)) (by decide) (by decide)) (g := (mkF m 519 #[.val (.long q1), .second, .val (.int p2), .val (.int p3), .val (.int p4), .val (.long n), .second, .val (.int i5), .val (.int fl), .val (.ref b), .val (.int le), .val (.int en), .val (.int (1 : Int32))] [(.int fl), (.long n), (.int le), (.int i5), (.int (12 : Int32)), (.ref b)])) rfl (by rw [hml]; rfl) (argsL := [(.ref b), (.int (12 : Int32)), (.int i5), (.int le), (.long n), (.int fl)]) (rest := []) (lenOf pdx_0 rfl) rfl (by show 2 * 0 + _ ≤ _; exact Nat.le_of_eq rfl) (hb hby at_519) (fun _ _ => ⟨rfl, e0, hcl, hsl⟩)
  dsimp only [Pt.U, Pt.locs, Pt.cells, Pt.slots] at X1 l1 y1 z1 st1 hQ1
  subst l1 y1 z1
  obtain ⟨rfl, N1q, e1⟩ := hQ1
  have N1 := Fr.app N0 N1q
  refine ⟨T1, _, X1, e1, N1, fun target kt => ?_⟩
  show Steps p.tables e below (T0.setTop (mkF m 502 #[.val (.long q1), .second, .val (.int p2), .val (.int p3), .val (.int p4), .val (.long n), .second, .val (.int i5), .val (.int fl), .val (.ref b), .val (.int le), .val (.int en), .val (.int (1 : Int32))] [])) _
  refine XS.iload X0.here hx rfl (hb hby at_502) rfl ?_
  show Steps p.tables e below (T0.setTop (mkF m 504 #[.val (.long q1), .second, .val (.int p2), .val (.int p3), .val (.int p4), .val (.long n), .second, .val (.int i5), .val (.int fl), .val (.ref b), .val (.int le), .val (.int en), .val (.int (1 : Int32))] [(.int (1 : Int32))])) _
  refine XS.ifNo X0.here hx rfl (hb hby at_504) rfl ((if0 _ _).trans (feq (by decide : ¬ ((1 : Int32) = (0 : Int32)))).1) ?_
  show Steps p.tables e below (T0.setTop (mkF m 507 #[.val (.long q1), .second, .val (.int p2), .val (.int p3), .val (.int p4), .val (.long n), .second, .val (.int i5), .val (.int fl), .val (.ref b), .val (.int le), .val (.int en), .val (.int (1 : Int32))] [])) _
  refine XS.aload X0.here hx rfl (hb hby at_507) rfl rfl ?_
  show Steps p.tables e below (T0.setTop (mkF m 509 #[.val (.long q1), .second, .val (.int p2), .val (.int p3), .val (.int p4), .val (.long n), .second, .val (.int i5), .val (.int fl), .val (.ref b), .val (.int le), .val (.int en), .val (.int (1 : Int32))] [(.ref b)])) _
  refine XS.bipush X0.here hx rfl (hb hby at_509) ?_
  show Steps p.tables e below (T0.setTop (mkF m 511 #[.val (.long q1), .second, .val (.int p2), .val (.int p3), .val (.int p4), .val (.long n), .second, .val (.int i5), .val (.int fl), .val (.ref b), .val (.int le), .val (.int en), .val (.int (1 : Int32))] [(.int (12 : Int32)), (.ref b)])) _
  refine XS.iload X0.here hx rfl (hb hby at_511) rfl ?_
  show Steps p.tables e below (T0.setTop (mkF m 513 #[.val (.long q1), .second, .val (.int p2), .val (.int p3), .val (.int p4), .val (.long n), .second, .val (.int i5), .val (.int fl), .val (.ref b), .val (.int le), .val (.int en), .val (.int (1 : Int32))] [(.int i5), (.int (12 : Int32)), (.ref b)])) _
  refine XS.iload X0.here hx rfl (hb hby at_513) rfl ?_
  show Steps p.tables e below (T0.setTop (mkF m 515 #[.val (.long q1), .second, .val (.int p2), .val (.int p3), .val (.int p4), .val (.long n), .second, .val (.int i5), .val (.int fl), .val (.ref b), .val (.int le), .val (.int en), .val (.int (1 : Int32))] [(.int le), (.int i5), (.int (12 : Int32)), (.ref b)])) _
  refine XS.lload X0.here hx rfl (hb hby at_515) rfl ?_
  show Steps p.tables e below (T0.setTop (mkF m 517 #[.val (.long q1), .second, .val (.int p2), .val (.int p3), .val (.int p4), .val (.long n), .second, .val (.int i5), .val (.int fl), .val (.ref b), .val (.int le), .val (.int en), .val (.int (1 : Int32))] [(.long n), (.int le), (.int i5), (.int (12 : Int32)), (.ref b)])) _
  refine XS.iload X0.here hx rfl (hb hby at_517) rfl ?_
  show Steps p.tables e below (T0.setTop (mkF m 519 #[.val (.long q1), .second, .val (.int p2), .val (.int p3), .val (.int p4), .val (.long n), .second, .val (.int i5), .val (.int fl), .val (.ref b), .val (.int le), .val (.int en), .val (.int (1 : Int32))] [(.int fl), (.long n), (.int le), (.int i5), (.int (12 : Int32)), (.ref b)])) _
  refine st1 _ ?_
  show Steps p.tables e below (T1.setTop (mkF m 522 #[.val (.long q1), .second, .val (.int p2), .val (.int p3), .val (.int p4), .val (.long n), .second, .val (.int i5), .val (.int fl), .val (.ref b), .val (.int le), .val (.int en), .val (.int (1 : Int32))] [(.int (1 : Int32))])) _
  refine XS.ifNo X1.here hx rfl (hb hby at_522) rfl ((if0 _ _).trans (feq (by decide : ¬ ((1 : Int32) = (0 : Int32)))).1) ?_
  show Steps p.tables e below (T1.setTop (mkF m 525 #[.val (.long q1), .second, .val (.int p2), .val (.int p3), .val (.int p4), .val (.long n), .second, .val (.int i5), .val (.int fl), .val (.ref b), .val (.int le), .val (.int en), .val (.int (1 : Int32))] [])) _
  refine XS.iconst X1.here hx rfl (hb hby at_525) ?_
  show Steps p.tables e below (T1.setTop (mkF m 526 #[.val (.long q1), .second, .val (.int p2), .val (.int p3), .val (.int p4), .val (.long n), .second, .val (.int i5), .val (.int fl), .val (.ref b), .val (.int le), .val (.int en), .val (.int (1 : Int32))] [(.int (1 : Int32))])) _
  refine XS.goto X1.here hx rfl (pc0 := 526) (pc' := 530) rfl (hb hby at_526) (by decide) (by decide) ?_
  show Steps p.tables e below (T1.setTop (mkF m 530 #[.val (.long q1), .second, .val (.int p2), .val (.int p3), .val (.int p4), .val (.long n), .second, .val (.int i5), .val (.int fl), .val (.ref b), .val (.int le), .val (.int en), .val (.int (1 : Int32))] [(.int (1 : Int32))])) _
  refine XS.istore X1.here hx rfl (hb hby at_530) rfl (l' := #[.val (.long q1), .second, .val (.int p2), .val (.int p3), .val (.int p4), .val (.long n), .second, .val (.int i5), .val (.int fl), .val (.ref b), .val (.int le), .val (.int en), .val (.int (1 : Int32))]) rfl ?_
  show Steps p.tables e below (T1.setTop (mkF m 532 #[.val (.long q1), .second, .val (.int p2), .val (.int p3), .val (.int p4), .val (.long n), .second, .val (.int i5), .val (.int fl), .val (.ref b), .val (.int le), .val (.int en), .val (.int (1 : Int32))] [])) _
  exact kt
theorem ef_0 (m : MethodId) (x0 : Int64) (x1 : Int32) (x2 : Int32) (x3 : Int32) : entryFrame m #[(.long x0), (.int x1), (.int x2), (.int x3)] maxLocals = mkF m 0 #[.val (.long x0), .second, .val (.int x1), .val (.int x2), .val (.int x3), .unset, .unset, .unset, .unset, .unset, .unset, .unset, .unset] [] := by first | (simp [entryFrame, mkF, argsToLocals, Value.category, maxLocals]; done) | rfl
theorem pn_0 : plainName "com/example/spanlace/spanlace/index/IndexOutputPutVLongPinLaw" = true := by first | (simp [plainName, overriddenIn]; done) | decide +kernel
def Q0 (Z : State) (q1 : Int64) (p2 : Int32) (p3 : Int32) (p4 : Int32) (h0 : Heap) (n0 : Nat) (rv : Option Value) (h : Heap) (Lq : List Loc) : Prop := rv = some (.int (1 : Int32)) ∧ Fr n0 Lq
set_option maxRecDepth 65536 in
set_option maxHeartbeats 40000000 in
theorem rm0 (l : Launch) (Z : State) (a0 : Array Value) (hw : ∀ d ∈ tables_1, d.before a0 Z = true) (ws : List Jvm.Cond) (q1 : Int64) (p2 : Int32) (p3 : Int32) (p4 : Int32) (h0 : Heap) (n0 : Nat) (Z0 : n0 ≤ h0.size) :
    MetFree l x (head1 (Jvm.Cond.code x code maxLocals ret :: ws) room_1) (fun xx U => xx = #[(.long q1), (.int p2), (.int p3), (.int p4)] ∧ Z.Warmed39 U.vm ∧ U.heap = h0) (fun _ _ _ _ _ => True) (fun _ U o U' => ∃ rv Lq, o = .returned rv ∧ Q0 Z q1 p2 p3 p4 h0 n0 rv U'.heap Lq ∧ FrameEnd U o U' Lq room_1.cells room_1.slots) := by
  refine MetFree.of_bodySF (plainFor_of_name pn_0) hisR ?_
  intro p e s m args below meth c s₁ Bd hml0 hP hK
  obtain ⟨rfl, hZ, hh⟩ := hP
  have hx := Bd.exec
  have hby := Bd.bytes
  have hml : c.maxLocals = 13 := hml0
  have hown : s.vm.findClass "com/example/spanlace/spanlace/index/IndexOutputPutVLongPinLaw" = some m.cls := findClass_of_methodNamed Bd.named
  have hnm := (name_of_methodNamed Bd.named Bd.method).1
  have X0 : Stand p l e room_1 s m #[(.long q1), (.int p2), (.int p3), (.int p4)] below meth c s₁ [] 0 0 := Stand.of_body Bd
  have e0 : s₁.heap = h0 := by rw [← hh, Bd.state]; rfl
  have N0 := Fr.nil n0
  have pre0 : ∀ t, Steps p.tables e below (s₁.setTop (mkF m 0 #[.val (.long q1), .second, .val (.int p2), .val (.int p3), .val (.int p4), .unset, .unset, .unset, .unset, .unset, .unset, .unset, .unset] [])) t → Steps p.tables e below (s₁.setTop (entryFrame m #[(.long q1), (.int p2), (.int p3), (.int p4)] maxLocals)) t := fun t k => castTop (ef_0 m q1 p2 p3 p4) k
  obtain ⟨a, ha, hat⟩ := own_ax p3
  have hc := own_ck (own_n q1 p2) (own_n0 q1 p2)
  have hk := own_k_lt (own_n q1 p2)
  have hlen : own_len (own_n q1 p2) = Int32.ofNat (own_k (own_n q1 p2) + 1) := rfl
  have hfl : nar .byte (own_fl p4) = (own_fl p4) := own_nar p4
  have sg0 : ∀ target, Steps p.tables e below (s₁.setTop (mkF m 22 #[.val (.long q1), .second, .val (.int p2), .val (.int p3), .val (.int p4), .val (.long (own_n q1 p2)), .second, .val (.int (own_a p3)), .val (.int (own_fl p4)), .unset, .unset, .unset, .unset] [])) target → Steps p.tables e below (s₁.setTop (mkF m 0 #[.val (.long q1), .second, .val (.int p2), .val (.int p3), .val (.int p4), .unset, .unset, .unset, .unset, .unset, .unset, .unset, .unset] [])) target := by
    intro target kt
    show Steps p.tables e below (s₁.setTop (mkF m 0 #[.val (.long q1), .second, .val (.int p2), .val (.int p3), .val (.int p4), .unset, .unset, .unset, .unset, .unset, .unset, .unset, .unset] [])) _
    refine XS.lloadN X0.here hx rfl (hb hby at_0) rfl ?_
    show Steps p.tables e below (s₁.setTop (mkF m 1 #[.val (.long q1), .second, .val (.int p2), .val (.int p3), .val (.int p4), .unset, .unset, .unset, .unset, .unset, .unset, .unset, .unset] [(.long q1)])) _
    refine X0.ldc2Long hx hown (mvT hZ (hw _ (List.mem_of_getElem? (i := 0) rfl))) (g := (mkF m 1 #[.val (.long q1), .second, .val (.int p2), .val (.int p3), .val (.int p4), .unset, .unset, .unset, .unset, .unset, .unset, .unset, .unset] [(.long q1)])) rfl (hb hby at_1) _ ?_
    show Steps p.tables e below (s₁.setTop (mkF m 4 #[.val (.long q1), .second, .val (.int p2), .val (.int p3), .val (.int p4), .unset, .unset, .unset, .unset, .unset, .unset, .unset, .unset] [(.long (9223372036854775807 : Int64)), (.long q1)])) _
    refine XS.land X0.here hx rfl (hb hby at_4) rfl ?_
    show Steps p.tables e below (s₁.setTop (mkF m 5 #[.val (.long q1), .second, .val (.int p2), .val (.int p3), .val (.int p4), .unset, .unset, .unset, .unset, .unset, .unset, .unset, .unset] [(.long (q1 &&& (9223372036854775807 : Int64)))])) _
    refine XS.iloadN X0.here hx rfl (hb hby at_5) rfl ?_
    show Steps p.tables e below (s₁.setTop (mkF m 6 #[.val (.long q1), .second, .val (.int p2), .val (.int p3), .val (.int p4), .unset, .unset, .unset, .unset, .unset, .unset, .unset, .unset] [(.int p2), (.long (q1 &&& (9223372036854775807 : Int64)))])) _
    refine XS.bipush X0.here hx rfl (hb hby at_6) ?_
    show Steps p.tables e below (s₁.setTop (mkF m 8 #[.val (.long q1), .second, .val (.int p2), .val (.int p3), .val (.int p4), .unset, .unset, .unset, .unset, .unset, .unset, .unset, .unset] [(.int (63 : Int32)), (.int p2), (.long (q1 &&& (9223372036854775807 : Int64)))])) _
    refine XS.iand X0.here hx rfl (hb hby at_8) rfl ?_
    show Steps p.tables e below (s₁.setTop (mkF m 9 #[.val (.long q1), .second, .val (.int p2), .val (.int p3), .val (.int p4), .unset, .unset, .unset, .unset, .unset, .unset, .unset, .unset] [(.int (p2 &&& (63 : Int32))), (.long (q1 &&& (9223372036854775807 : Int64)))])) _
    refine XS.lushr X0.here hx rfl (hb hby at_9) rfl ?_
    show Steps p.tables e below (s₁.setTop (mkF m 10 #[.val (.long q1), .second, .val (.int p2), .val (.int p3), .val (.int p4), .unset, .unset, .unset, .unset, .unset, .unset, .unset, .unset] [(.long (((q1 &&& (9223372036854775807 : Int64)).toUInt64 >>> ((p2 &&& (63 : Int32)) &&& 0x3f).toInt64.toUInt64).toInt64))])) _
    show Steps p.tables e below (s₁.setTop (mkF m 10 #[.val (.long q1), .second, .val (.int p2), .val (.int p3), .val (.int p4), .unset, .unset, .unset, .unset, .unset, .unset, .unset, .unset] [(.long (own_n q1 p2))])) _
    refine XS.lstore X0.here hx rfl (hb hby at_10) rfl (l' := #[.val (.long q1), .second, .val (.int p2), .val (.int p3), .val (.int p4), .val (.long (own_n q1 p2)), .second, .unset, .unset, .unset, .unset, .unset, .unset]) rfl ?_
    show Steps p.tables e below (s₁.setTop (mkF m 12 #[.val (.long q1), .second, .val (.int p2), .val (.int p3), .val (.int p4), .val (.long (own_n q1 p2)), .second, .unset, .unset, .unset, .unset, .unset, .unset] [])) _
    refine XS.iloadN X0.here hx rfl (hb hby at_12) rfl ?_
    show Steps p.tables e below (s₁.setTop (mkF m 13 #[.val (.long q1), .second, .val (.int p2), .val (.int p3), .val (.int p4), .val (.long (own_n q1 p2)), .second, .unset, .unset, .unset, .unset, .unset, .unset] [(.int p3)])) _
    refine XS.iconst X0.here hx rfl (hb hby at_13) ?_
    show Steps p.tables e below (s₁.setTop (mkF m 14 #[.val (.long q1), .second, .val (.int p2), .val (.int p3), .val (.int p4), .val (.long (own_n q1 p2)), .second, .unset, .unset, .unset, .unset, .unset, .unset] [(.int (3 : Int32)), (.int p3)])) _
    refine XS.iand X0.here hx rfl (hb hby at_14) rfl ?_
    show Steps p.tables e below (s₁.setTop (mkF m 15 #[.val (.long q1), .second, .val (.int p2), .val (.int p3), .val (.int p4), .val (.long (own_n q1 p2)), .second, .unset, .unset, .unset, .unset, .unset, .unset] [(.int (p3 &&& (3 : Int32)))])) _
    show Steps p.tables e below (s₁.setTop (mkF m 15 #[.val (.long q1), .second, .val (.int p2), .val (.int p3), .val (.int p4), .val (.long (own_n q1 p2)), .second, .unset, .unset, .unset, .unset, .unset, .unset] [(.int (own_a p3))])) _
    refine XS.istore X0.here hx rfl (hb hby at_15) rfl (l' := #[.val (.long q1), .second, .val (.int p2), .val (.int p3), .val (.int p4), .val (.long (own_n q1 p2)), .second, .val (.int (own_a p3)), .unset, .unset, .unset, .unset, .unset]) rfl ?_
    show Steps p.tables e below (s₁.setTop (mkF m 17 #[.val (.long q1), .second, .val (.int p2), .val (.int p3), .val (.int p4), .val (.long (own_n q1 p2)), .second, .val (.int (own_a p3)), .unset, .unset, .unset, .unset, .unset] [])) _
    refine XS.iload X0.here hx rfl (hb hby at_17) rfl ?_
    show Steps p.tables e below (s₁.setTop (mkF m 19 #[.val (.long q1), .second, .val (.int p2), .val (.int p3), .val (.int p4), .val (.long (own_n q1 p2)), .second, .val (.int (own_a p3)), .unset, .unset, .unset, .unset, .unset] [(.int p4)])) _
    refine XS.i2b X0.here hx rfl (hb hby at_19) rfl ?_
    show Steps p.tables e below (s₁.setTop (mkF m 20 #[.val (.long q1), .second, .val (.int p2), .val (.int p3), .val (.int p4), .val (.long (own_n q1 p2)), .second, .val (.int (own_a p3)), .unset, .unset, .unset, .unset, .unset] [(.int (p4.toInt8.toInt32))])) _
    show Steps p.tables e below (s₁.setTop (mkF m 20 #[.val (.long q1), .second, .val (.int p2), .val (.int p3), .val (.int p4), .val (.long (own_n q1 p2)), .second, .val (.int (own_a p3)), .unset, .unset, .unset, .unset, .unset] [(.int (own_fl p4))])) _
    refine XS.istore X0.here hx rfl (hb hby at_20) rfl (l' := #[.val (.long q1), .second, .val (.int p2), .val (.int p3), .val (.int p4), .val (.long (own_n q1 p2)), .second, .val (.int (own_a p3)), .val (.int (own_fl p4)), .unset, .unset, .unset, .unset]) rfl ?_
    show Steps p.tables e below (s₁.setTop (mkF m 22 #[.val (.long q1), .second, .val (.int p2), .val (.int p3), .val (.int p4), .val (.long (own_n q1 p2)), .second, .val (.int (own_a p3)), .val (.int (own_fl p4)), .unset, .unset, .unset, .unset] [])) _
    exact kt
  generalize own_k (own_n q1 p2) = k at hc hk hlen
  generalize own_n q1 p2 = n at hc hlen sg0
  generalize own_a p3 = i5 at hat sg0
  generalize own_fl p4 = fl at hfl sg0
  obtain ⟨T1, h1, k1, X1, e1, E1, A1, st1⟩ := newP X0 hx hZ (hw _ (List.mem_of_getElem? (i := 1) rfl)) e0 (g := (mkF m 24 #[.val (.long q1), .second, .val (.int p2), .val (.int p3), .val (.int p4), .val (.long n), .second, .val (.int i5), .val (.int fl), .unset, .unset, .unset, .unset] [(.int (13 : Int32))])) rfl (hb hby at_24) rfl (by decide) (cap := 13) (by decide) (by decide) (by decide) (by decide)
  obtain ⟨b, g1⟩ : ∃ z, z = h0.size := ⟨_, rfl⟩
  have g_b : n0 ≤ b := Nat.le_trans Z0 (Nat.le_of_eq g1.symm)
  rw [← g1] at A1 st1
  have V1 := own_A.new (n := 13) A1 (by decide)
  obtain ⟨S0, y0, lo0, f0, Y0, u0, M0, z0, v0, F0, ss0⟩ := st_0 q1 n p2 p3 p4 i5 fl b X1 hx hZ hw hby hown e1 N0 g_b V1 (fun j hj => absurd hj (by omega)) hfl
  obtain ⟨S1, y1, lo1, f1, Y1, u1, M1, z1, v1, F1, ss1⟩ := st_1 q1 n p2 p3 p4 i5 fl b Y0 hx hZ hw hby hown u0 M0 g_b v0 F0 hfl
  obtain ⟨S2, y2, lo2, f2, Y2, u2, M2, z2, v2, F2, ss2⟩ := st_2 q1 n p2 p3 p4 i5 fl b Y1 hx hZ hw hby hown u1 M1 g_b v1 F1 hfl
  obtain ⟨S3, y3, lo3, f3, Y3, u3, M3, z3, v3, F3, ss3⟩ := st_3 q1 n p2 p3 p4 i5 fl b Y2 hx hZ hw hby hown u2 M2 g_b v2 F2 hfl
  obtain ⟨S4, y4, lo4, f4, Y4, u4, M4, z4, v4, F4, ss4⟩ := st_4 q1 n p2 p3 p4 i5 fl b Y3 hx hZ hw hby hown u3 M3 g_b v3 F3 hfl
  obtain ⟨S5, y5, lo5, f5, Y5, u5, M5, z5, v5, F5, ss5⟩ := st_5 q1 n p2 p3 p4 i5 fl b Y4 hx hZ hw hby hown u4 M4 g_b v4 F4 hfl
  obtain ⟨S6, y6, lo6, f6, Y6, u6, M6, z6, v6, F6, ss6⟩ := st_6 q1 n p2 p3 p4 i5 fl b Y5 hx hZ hw hby hown u5 M5 g_b v5 F5 hfl
  obtain ⟨S7, y7, lo7, f7, Y7, u7, M7, z7, v7, F7, ss7⟩ := st_7 q1 n p2 p3 p4 i5 fl b Y6 hx hZ hw hby hown u6 M6 g_b v6 F6 hfl
  obtain ⟨S8, y8, lo8, f8, Y8, u8, M8, z8, v8, F8, ss8⟩ := st_8 q1 n p2 p3 p4 i5 fl b Y7 hx hZ hw hby hown u7 M7 g_b v7 F7 hfl
  obtain ⟨S9, y9, lo9, f9, Y9, u9, M9, z9, v9, F9, ss9⟩ := st_9 q1 n p2 p3 p4 i5 fl b Y8 hx hZ hw hby hown u8 M8 g_b v8 F8 hfl
  obtain ⟨S10, y10, lo10, f10, Y10, u10, M10, z10, v10, F10, ss10⟩ := st_10 q1 n p2 p3 p4 i5 fl b Y9 hx hZ hw hby hown u9 M9 g_b v9 F9 hfl
  obtain ⟨S11, y11, lo11, f11, Y11, u11, M11, z11, v11, F11, ss11⟩ := st_11 q1 n p2 p3 p4 i5 fl b Y10 hx hZ hw hby hown u10 M10 g_b v10 F10 hfl
  obtain ⟨S12, y12, lo12, f12, Y12, u12, M12, z12, v12, F12, ss12⟩ := st_12 q1 n p2 p3 p4 i5 fl b Y11 hx hZ hw hby hown u11 M11 g_b v11 F11 hfl
  have VF : own_A Z y12 b .byte 13 (fun _ => .int fl) := v12.alike F12
  obtain ⟨_, _, ⟨T2, L2, k2, n2⟩, -, X2, ⟨Lc2, hQ2, l2, y2, z2⟩, st2⟩ := Jvm.LawKit.callS Y12 hx (y := (⟨"com/example/spanlace/spanlace/index/IndexOutputPutVLongPinLaw", "length", "(J)I"⟩ : MethodName)) hown (mvT hZ (hw _ (List.mem_of_getElem? (i := 2) rfl))) (mvT hZ (hw _ (List.mem_of_getElem? (i := 3) rfl))) (mvT hZ (hw _ (List.mem_of_getElem? (i := 4) rfl))) (mvT hZ (hw _ (List.mem_of_getElem? (i := 5) rfl))) (by decide) (backOf (W := 0) (rm3 l Z a0 hw [] n y12 n0 (Nat.le_trans (Nat.le_trans (Nat.le_trans (Nat.le_trans (Nat.le_trans (Nat.le_trans (Nat.le_trans (Nat.le_trans (Nat.le_trans (Nat.le_trans (Nat.le_trans (Nat.le_trans (Nat.le_trans (Nat.le_trans Z0 E1.1) z0) z1) z2) z3) z4) z5) z6) z7) z8) z9) z10) z11) z12)) hZ (hw _ (List.mem_of_getElem? (i := 5) rfl)) (hw _ (List.mem_of_getElem? (i := 4) rfl)) (by decide) (by decide)) (g := (mkF m 115 #[.val (.long q1), .second, .val (.int p2), .val (.int p3), .val (.int p4), .val (.long n), .second, .val (.int i5), .val (.int fl), .val (.ref b), .unset, .unset, .unset] [(.long n)])) rfl (by rw [hml]; rfl) (argsL := [(.long n)]) (rest := []) (lenOf pdx_1 rfl) rfl (by show 2 * 0 + _ ≤ _; exact Nat.le_of_eq rfl) (hb hby at_115) (fun _ _ => ⟨rfl, u12, (by decide : 1 + 0 ≤ _), (by decide : 13 + 0 ≤ _)⟩)
  dsimp only [Pt.U, Pt.locs, Pt.cells, Pt.slots] at X2 l2 y2 z2 st2 hQ2
  subst l2 y2 z2
  obtain ⟨rfl, N2q, e2⟩ := hQ2
  have N2 := Fr.app M12 N2q
  obtain ⟨_, _, ⟨T3, L3, k3, n3⟩, -, X3, ⟨Lc3, hQ3, l3, y3, z3⟩, st3⟩ := Jvm.LawKit.callS X2 hx (y := (⟨"com/example/spanlace/spanlace/index/IndexOutput", "putVLong", "([BIJ)I"⟩ : MethodName)) hown (mvT hZ (hw _ (List.mem_of_getElem? (i := 7) rfl))) (mvT hZ (hw _ (List.mem_of_getElem? (i := 8) rfl))) (mvT hZ (hw _ (List.mem_of_getElem? (i := 9) rfl))) (mvT hZ (hw _ (List.mem_of_getElem? (i := 10) rfl))) (by decide) (backOf (W := 0) (rm1 l Z a0 hw [] b i5 n a k _ y12 n0 (Nat.le_trans (Nat.le_trans (Nat.le_trans (Nat.le_trans (Nat.le_trans (Nat.le_trans (Nat.le_trans (Nat.le_trans (Nat.le_trans (Nat.le_trans (Nat.le_trans (Nat.le_trans (Nat.le_trans (Nat.le_trans Z0 E1.1) z0) z1) z2) z3) z4) z5) z6) z7) z8) z9) z10) z11) z12) VF g_b hat (by omega) hc) hZ (hw _ (List.mem_of_getElem? (i := 10) rfl)) (hw _ (List.mem_of_getElem? (i := 9) rfl)) (by decide) (by decide)) (g := (mkF m 126 #[.val (.long q1), .second, .val (.int p2), .val (.int p3), .val (.int p4), .val (.long n), .second, .val (.int i5), .val (.int fl), .val (.ref b), .val (.int (own_len n)), .unset, .unset] [(.long n), (.int i5), (.ref b)])) rfl (by rw [hml]; rfl) (argsL := [(.ref b), (.int i5), (.long n)]) (rest := []) (lenOf pdx_2 rfl) rfl (by show 2 * 0 + _ ≤ _; exact Nat.le_of_eq rfl) (hb hby at_126) (fun _ _ => ⟨rfl, e2, (by decide : 1 + 0 ≤ _), (by decide : 13 + 0 ≤ _)⟩)
  dsimp only [Pt.U, Pt.locs, Pt.cells, Pt.slots] at X3 l3 y3 z3 st3 hQ3
  subst l3 y3 z3
  obtain ⟨rfl, N3q, K3, x3v⟩ := hQ3
  have N3 := Fr.app N2 N3q
  obtain ⟨R0, ro0, r0X, r0e, r0N, r0s⟩ := ck_0 q1 n p2 p3 p4 i5 fl b (own_len n) (Int32.ofNat (a + k + 1)) X3 hx hZ hw hby hown hml rfl N3 (Nat.le_trans (Nat.le_trans (Nat.le_trans (Nat.le_trans (Nat.le_trans (Nat.le_trans (Nat.le_trans (Nat.le_trans (Nat.le_trans (Nat.le_trans (Nat.le_trans (Nat.le_trans (Nat.le_trans (Nat.le_trans (Nat.le_trans Z0 E1.1) z0) z1) z2) z3) z4) z5) z6) z7) z8) z9) z10) z11) z12) K3.1) (by decide) (by decide) x3v (by rw [hat, hlen]; exact own_key n fl a k 0 ha hk (by decide))
  obtain ⟨R1, ro1, r1X, r1e, r1N, r1s⟩ := ck_1 q1 n p2 p3 p4 i5 fl b (own_len n) (Int32.ofNat (a + k + 1)) r0X hx hZ hw hby hown hml r0e r0N (Nat.le_trans (Nat.le_trans (Nat.le_trans (Nat.le_trans (Nat.le_trans (Nat.le_trans (Nat.le_trans (Nat.le_trans (Nat.le_trans (Nat.le_trans (Nat.le_trans (Nat.le_trans (Nat.le_trans (Nat.le_trans (Nat.le_trans Z0 E1.1) z0) z1) z2) z3) z4) z5) z6) z7) z8) z9) z10) z11) z12) K3.1) (by decide) (by decide) x3v (by rw [hat, hlen]; exact own_key n fl a k 1 ha hk (by decide))
  obtain ⟨R2, ro2, r2X, r2e, r2N, r2s⟩ := ck_2 q1 n p2 p3 p4 i5 fl b (own_len n) (Int32.ofNat (a + k + 1)) r1X hx hZ hw hby hown hml r1e r1N (Nat.le_trans (Nat.le_trans (Nat.le_trans (Nat.le_trans (Nat.le_trans (Nat.le_trans (Nat.le_trans (Nat.le_trans (Nat.le_trans (Nat.le_trans (Nat.le_trans (Nat.le_trans (Nat.le_trans (Nat.le_trans (Nat.le_trans Z0 E1.1) z0) z1) z2) z3) z4) z5) z6) z7) z8) z9) z10) z11) z12) K3.1) (by decide) (by decide) x3v (by rw [hat, hlen]; exact own_key n fl a k 2 ha hk (by decide))
  obtain ⟨R3, ro3, r3X, r3e, r3N, r3s⟩ := ck_3 q1 n p2 p3 p4 i5 fl b (own_len n) (Int32.ofNat (a + k + 1)) r2X hx hZ hw hby hown hml r2e r2N (Nat.le_trans (Nat.le_trans (Nat.le_trans (Nat.le_trans (Nat.le_trans (Nat.le_trans (Nat.le_trans (Nat.le_trans (Nat.le_trans (Nat.le_trans (Nat.le_trans (Nat.le_trans (Nat.le_trans (Nat.le_trans (Nat.le_trans Z0 E1.1) z0) z1) z2) z3) z4) z5) z6) z7) z8) z9) z10) z11) z12) K3.1) (by decide) (by decide) x3v (by rw [hat, hlen]; exact own_key n fl a k 3 ha hk (by decide))
  obtain ⟨R4, ro4, r4X, r4e, r4N, r4s⟩ := ck_4 q1 n p2 p3 p4 i5 fl b (own_len n) (Int32.ofNat (a + k + 1)) r3X hx hZ hw hby hown hml r3e r3N (Nat.le_trans (Nat.le_trans (Nat.le_trans (Nat.le_trans (Nat.le_trans (Nat.le_trans (Nat.le_trans (Nat.le_trans (Nat.le_trans (Nat.le_trans (Nat.le_trans (Nat.le_trans (Nat.le_trans (Nat.le_trans (Nat.le_trans Z0 E1.1) z0) z1) z2) z3) z4) z5) z6) z7) z8) z9) z10) z11) z12) K3.1) (by decide) (by decide) x3v (by rw [hat, hlen]; exact own_key n fl a k 4 ha hk (by decide))
  obtain ⟨R5, ro5, r5X, r5e, r5N, r5s⟩ := ck_5 q1 n p2 p3 p4 i5 fl b (own_len n) (Int32.ofNat (a + k + 1)) r4X hx hZ hw hby hown hml r4e r4N (Nat.le_trans (Nat.le_trans (Nat.le_trans (Nat.le_trans (Nat.le_trans (Nat.le_trans (Nat.le_trans (Nat.le_trans (Nat.le_trans (Nat.le_trans (Nat.le_trans (Nat.le_trans (Nat.le_trans (Nat.le_trans (Nat.le_trans Z0 E1.1) z0) z1) z2) z3) z4) z5) z6) z7) z8) z9) z10) z11) z12) K3.1) (by decide) (by decide) x3v (by rw [hat, hlen]; exact own_key n fl a k 5 ha hk (by decide))
  obtain ⟨R6, ro6, r6X, r6e, r6N, r6s⟩ := ck_6 q1 n p2 p3 p4 i5 fl b (own_len n) (Int32.ofNat (a + k + 1)) r5X hx hZ hw hby hown hml r5e r5N (Nat.le_trans (Nat.le_trans (Nat.le_trans (Nat.le_trans (Nat.le_trans (Nat.le_trans (Nat.le_trans (Nat.le_trans (Nat.le_trans (Nat.le_trans (Nat.le_trans (Nat.le_trans (Nat.le_trans (Nat.le_trans (Nat.le_trans Z0 E1.1) z0) z1) z2) z3) z4) z5) z6) z7) z8) z9) z10) z11) z12) K3.1) (by decide) (by decide) x3v (by rw [hat, hlen]; exact own_key n fl a k 6 ha hk (by decide))
  obtain ⟨R7, ro7, r7X, r7e, r7N, r7s⟩ := ck_7 q1 n p2 p3 p4 i5 fl b (own_len n) (Int32.ofNat (a + k + 1)) r6X hx hZ hw hby hown hml r6e r6N (Nat.le_trans (Nat.le_trans (Nat.le_trans (Nat.le_trans (Nat.le_trans (Nat.le_trans (Nat.le_trans (Nat.le_trans (Nat.le_trans (Nat.le_trans (Nat.le_trans (Nat.le_trans (Nat.le_trans (Nat.le_trans (Nat.le_trans Z0 E1.1) z0) z1) z2) z3) z4) z5) z6) z7) z8) z9) z10) z11) z12) K3.1) (by decide) (by decide) x3v (by rw [hat, hlen]; exact own_key n fl a k 7 ha hk (by decide))
  obtain ⟨R8, ro8, r8X, r8e, r8N, r8s⟩ := ck_8 q1 n p2 p3 p4 i5 fl b (own_len n) (Int32.ofNat (a + k + 1)) r7X hx hZ hw hby hown hml r7e r7N (Nat.le_trans (Nat.le_trans (Nat.le_trans (Nat.le_trans (Nat.le_trans (Nat.le_trans (Nat.le_trans (Nat.le_trans (Nat.le_trans (Nat.le_trans (Nat.le_trans (Nat.le_trans (Nat.le_trans (Nat.le_trans (Nat.le_trans Z0 E1.1) z0) z1) z2) z3) z4) z5) z6) z7) z8) z9) z10) z11) z12) K3.1) (by decide) (by decide) x3v (by rw [hat, hlen]; exact own_key n fl a k 8 ha hk (by decide))
  obtain ⟨R9, ro9, r9X, r9e, r9N, r9s⟩ := ck_9 q1 n p2 p3 p4 i5 fl b (own_len n) (Int32.ofNat (a + k + 1)) r8X hx hZ hw hby hown hml r8e r8N (Nat.le_trans (Nat.le_trans (Nat.le_trans (Nat.le_trans (Nat.le_trans (Nat.le_trans (Nat.le_trans (Nat.le_trans (Nat.le_trans (Nat.le_trans (Nat.le_trans (Nat.le_trans (Nat.le_trans (Nat.le_trans (Nat.le_trans Z0 E1.1) z0) z1) z2) z3) z4) z5) z6) z7) z8) z9) z10) z11) z12) K3.1) (by decide) (by decide) x3v (by rw [hat, hlen]; exact own_key n fl a k 9 ha hk (by decide))
  obtain ⟨R10, ro10, r10X, r10e, r10N, r10s⟩ := ck_10 q1 n p2 p3 p4 i5 fl b (own_len n) (Int32.ofNat (a + k + 1)) r9X hx hZ hw hby hown hml r9e r9N (Nat.le_trans (Nat.le_trans (Nat.le_trans (Nat.le_trans (Nat.le_trans (Nat.le_trans (Nat.le_trans (Nat.le_trans (Nat.le_trans (Nat.le_trans (Nat.le_trans (Nat.le_trans (Nat.le_trans (Nat.le_trans (Nat.le_trans Z0 E1.1) z0) z1) z2) z3) z4) z5) z6) z7) z8) z9) z10) z11) z12) K3.1) (by decide) (by decide) x3v (by rw [hat, hlen]; exact own_key n fl a k 10 ha hk (by decide))
  obtain ⟨R11, ro11, r11X, r11e, r11N, r11s⟩ := ck_11 q1 n p2 p3 p4 i5 fl b (own_len n) (Int32.ofNat (a + k + 1)) r10X hx hZ hw hby hown hml r10e r10N (Nat.le_trans (Nat.le_trans (Nat.le_trans (Nat.le_trans (Nat.le_trans (Nat.le_trans (Nat.le_trans (Nat.le_trans (Nat.le_trans (Nat.le_trans (Nat.le_trans (Nat.le_trans (Nat.le_trans (Nat.le_trans (Nat.le_trans Z0 E1.1) z0) z1) z2) z3) z4) z5) z6) z7) z8) z9) z10) z11) z12) K3.1) (by decide) (by decide) x3v (by rw [hat, hlen]; exact own_key n fl a k 11 ha hk (by decide))
  obtain ⟨R12, ro12, r12X, r12e, r12N, r12s⟩ := ck_12 q1 n p2 p3 p4 i5 fl b (own_len n) (Int32.ofNat (a + k + 1)) r11X hx hZ hw hby hown hml r11e r11N (Nat.le_trans (Nat.le_trans (Nat.le_trans (Nat.le_trans (Nat.le_trans (Nat.le_trans (Nat.le_trans (Nat.le_trans (Nat.le_trans (Nat.le_trans (Nat.le_trans (Nat.le_trans (Nat.le_trans (Nat.le_trans (Nat.le_trans Z0 E1.1) z0) z1) z2) z3) z4) z5) z6) z7) z8) z9) z10) z11) z12) K3.1) (by decide) (by decide) x3v (by rw [hat, hlen]; exact own_key n fl a k 12 ha hk (by decide))
  obtain ⟨fs, hr, hrun, hended, hW, hsame⟩ := r12X.leave (v := some (.int (1 : Int32))) (fun h => by rw [Bd.returns] at h; cases h)
  refine ⟨_, _, pre0 _ ?_, hrun, hended, _, _, rfl, ?_, ⟨_, rfl⟩, hW, hsame.mono (by decide) (by decide)⟩
  · show Steps p.tables e below (s₁.setTop (mkF m 0 #[.val (.long q1), .second, .val (.int p2), .val (.int p3), .val (.int p4), .unset, .unset, .unset, .unset, .unset, .unset, .unset, .unset] [])) _
    refine sg0 _ ?_
    show Steps p.tables e below (s₁.setTop (mkF m 22 #[.val (.long q1), .second, .val (.int p2), .val (.int p3), .val (.int p4), .val (.long n), .second, .val (.int i5), .val (.int fl), .unset, .unset, .unset, .unset] [])) _
    refine XS.bipush X0.here hx rfl (hb hby at_22) ?_
    show Steps p.tables e below (s₁.setTop (mkF m 24 #[.val (.long q1), .second, .val (.int p2), .val (.int p3), .val (.int p4), .val (.long n), .second, .val (.int i5), .val (.int fl), .unset, .unset, .unset, .unset] [(.int (13 : Int32))])) _
    refine st1 _ ?_
    show Steps p.tables e below (T1.setTop (mkF m 26 #[.val (.long q1), .second, .val (.int p2), .val (.int p3), .val (.int p4), .val (.long n), .second, .val (.int i5), .val (.int fl), .unset, .unset, .unset, .unset] [(.ref b)])) _
    refine XS.astore X1.here hx rfl (hb hby at_26) rfl rfl (l' := #[.val (.long q1), .second, .val (.int p2), .val (.int p3), .val (.int p4), .val (.long n), .second, .val (.int i5), .val (.int fl), .val (.ref b), .unset, .unset, .unset]) rfl ?_
    show Steps p.tables e below (T1.setTop (mkF m 28 #[.val (.long q1), .second, .val (.int p2), .val (.int p3), .val (.int p4), .val (.long n), .second, .val (.int i5), .val (.int fl), .val (.ref b), .unset, .unset, .unset] [])) _
    refine ss0 _ ?_
    show Steps p.tables e below (S0.setTop (mkF m 34 #[.val (.long q1), .second, .val (.int p2), .val (.int p3), .val (.int p4), .val (.long n), .second, .val (.int i5), .val (.int fl), .val (.ref b), .unset, .unset, .unset] [])) _
    refine ss1 _ ?_
    show Steps p.tables e below (S1.setTop (mkF m 40 #[.val (.long q1), .second, .val (.int p2), .val (.int p3), .val (.int p4), .val (.long n), .second, .val (.int i5), .val (.int fl), .val (.ref b), .unset, .unset, .unset] [])) _
    refine ss2 _ ?_
    show Steps p.tables e below (S2.setTop (mkF m 46 #[.val (.long q1), .second, .val (.int p2), .val (.int p3), .val (.int p4), .val (.long n), .second, .val (.int i5), .val (.int fl), .val (.ref b), .unset, .unset, .unset] [])) _
    refine ss3 _ ?_
    show Steps p.tables e below (S3.setTop (mkF m 52 #[.val (.long q1), .second, .val (.int p2), .val (.int p3), .val (.int p4), .val (.long n), .second, .val (.int i5), .val (.int fl), .val (.ref b), .unset, .unset, .unset] [])) _
    refine ss4 _ ?_
    show Steps p.tables e below (S4.setTop (mkF m 58 #[.val (.long q1), .second, .val (.int p2), .val (.int p3), .val (.int p4), .val (.long n), .second, .val (.int i5), .val (.int fl), .val (.ref b), .unset, .unset, .unset] [])) _
    refine ss5 _ ?_
    show Steps p.tables e below (S5.setTop (mkF m 64 #[.val (.long q1), .second, .val (.int p2), .val (.int p3), .val (.int p4), .val (.long n), .second, .val (.int i5), .val (.int fl), .val (.ref b), .unset, .unset, .unset] [])) _
    refine ss6 _ ?_
    show Steps p.tables e below (S6.setTop (mkF m 71 #[.val (.long q1), .second, .val (.int p2), .val (.int p3), .val (.int p4), .val (.long n), .second, .val (.int i5), .val (.int fl), .val (.ref b), .unset, .unset, .unset] [])) _
    refine ss7 _ ?_
    show Steps p.tables e below (S7.setTop (mkF m 78 #[.val (.long q1), .second, .val (.int p2), .val (.int p3), .val (.int p4), .val (.long n), .second, .val (.int i5), .val (.int fl), .val (.ref b), .unset, .unset, .unset] [])) _
    refine ss8 _ ?_
    show Steps p.tables e below (S8.setTop (mkF m 85 #[.val (.long q1), .second, .val (.int p2), .val (.int p3), .val (.int p4), .val (.long n), .second, .val (.int i5), .val (.int fl), .val (.ref b), .unset, .unset, .unset] [])) _
    refine ss9 _ ?_
    show Steps p.tables e below (S9.setTop (mkF m 92 #[.val (.long q1), .second, .val (.int p2), .val (.int p3), .val (.int p4), .val (.long n), .second, .val (.int i5), .val (.int fl), .val (.ref b), .unset, .unset, .unset] [])) _
    refine ss10 _ ?_
    show Steps p.tables e below (S10.setTop (mkF m 99 #[.val (.long q1), .second, .val (.int p2), .val (.int p3), .val (.int p4), .val (.long n), .second, .val (.int i5), .val (.int fl), .val (.ref b), .unset, .unset, .unset] [])) _
    refine ss11 _ ?_
    show Steps p.tables e below (S11.setTop (mkF m 106 #[.val (.long q1), .second, .val (.int p2), .val (.int p3), .val (.int p4), .val (.long n), .second, .val (.int i5), .val (.int fl), .val (.ref b), .unset, .unset, .unset] [])) _
    refine ss12 _ ?_
    show Steps p.tables e below (S12.setTop (mkF m 113 #[.val (.long q1), .second, .val (.int p2), .val (.int p3), .val (.int p4), .val (.long n), .second, .val (.int i5), .val (.int fl), .val (.ref b), .unset, .unset, .unset] [])) _
    refine XS.lload Y12.here hx rfl (hb hby at_113) rfl ?_
    show Steps p.tables e below (S12.setTop (mkF m 115 #[.val (.long q1), .second, .val (.int p2), .val (.int p3), .val (.int p4), .val (.long n), .second, .val (.int i5), .val (.int fl), .val (.ref b), .unset, .unset, .unset] [(.long n)])) _
    refine st2 _ ?_
    show Steps p.tables e below (T2.setTop (mkF m 118 #[.val (.long q1), .second, .val (.int p2), .val (.int p3), .val (.int p4), .val (.long n), .second, .val (.int i5), .val (.int fl), .val (.ref b), .unset, .unset, .unset] [(.int (own_len n))])) _
    refine XS.istore X2.here hx rfl (hb hby at_118) rfl (l' := #[.val (.long q1), .second, .val (.int p2), .val (.int p3), .val (.int p4), .val (.long n), .second, .val (.int i5), .val (.int fl), .val (.ref b), .val (.int (own_len n)), .unset, .unset]) rfl ?_
    show Steps p.tables e below (T2.setTop (mkF m 120 #[.val (.long q1), .second, .val (.int p2), .val (.int p3), .val (.int p4), .val (.long n), .second, .val (.int i5), .val (.int fl), .val (.ref b), .val (.int (own_len n)), .unset, .unset] [])) _
    refine XS.aload X2.here hx rfl (hb hby at_120) rfl rfl ?_
    show Steps p.tables e below (T2.setTop (mkF m 122 #[.val (.long q1), .second, .val (.int p2), .val (.int p3), .val (.int p4), .val (.long n), .second, .val (.int i5), .val (.int fl), .val (.ref b), .val (.int (own_len n)), .unset, .unset] [(.ref b)])) _
    refine XS.iload X2.here hx rfl (hb hby at_122) rfl ?_
    show Steps p.tables e below (T2.setTop (mkF m 124 #[.val (.long q1), .second, .val (.int p2), .val (.int p3), .val (.int p4), .val (.long n), .second, .val (.int i5), .val (.int fl), .val (.ref b), .val (.int (own_len n)), .unset, .unset] [(.int i5), (.ref b)])) _
    refine XS.lload X2.here hx rfl (hb hby at_124) rfl ?_
    show Steps p.tables e below (T2.setTop (mkF m 126 #[.val (.long q1), .second, .val (.int p2), .val (.int p3), .val (.int p4), .val (.long n), .second, .val (.int i5), .val (.int fl), .val (.ref b), .val (.int (own_len n)), .unset, .unset] [(.long n), (.int i5), (.ref b)])) _
    refine st3 _ ?_
    show Steps p.tables e below (T3.setTop (mkF m 129 #[.val (.long q1), .second, .val (.int p2), .val (.int p3), .val (.int p4), .val (.long n), .second, .val (.int i5), .val (.int fl), .val (.ref b), .val (.int (own_len n)), .unset, .unset] [(.int (Int32.ofNat (a + k + 1)))])) _
    refine XS.istore X3.here hx rfl (hb hby at_129) rfl (l' := #[.val (.long q1), .second, .val (.int p2), .val (.int p3), .val (.int p4), .val (.long n), .second, .val (.int i5), .val (.int fl), .val (.ref b), .val (.int (own_len n)), .val (.int (Int32.ofNat (a + k + 1))), .unset]) rfl ?_
    show Steps p.tables e below (T3.setTop (mkF m 131 #[.val (.long q1), .second, .val (.int p2), .val (.int p3), .val (.int p4), .val (.long n), .second, .val (.int i5), .val (.int fl), .val (.ref b), .val (.int (own_len n)), .val (.int (Int32.ofNat (a + k + 1))), .unset] [])) _
    refine XS.iload X3.here hx rfl (hb hby at_131) rfl ?_
    show Steps p.tables e below (T3.setTop (mkF m 133 #[.val (.long q1), .second, .val (.int p2), .val (.int p3), .val (.int p4), .val (.long n), .second, .val (.int i5), .val (.int fl), .val (.ref b), .val (.int (own_len n)), .val (.int (Int32.ofNat (a + k + 1))), .unset] [(.int (Int32.ofNat (a + k + 1)))])) _
    refine XS.iload X3.here hx rfl (hb hby at_133) rfl ?_
    show Steps p.tables e below (T3.setTop (mkF m 135 #[.val (.long q1), .second, .val (.int p2), .val (.int p3), .val (.int p4), .val (.long n), .second, .val (.int i5), .val (.int fl), .val (.ref b), .val (.int (own_len n)), .val (.int (Int32.ofNat (a + k + 1))), .unset] [(.int i5), (.int (Int32.ofNat (a + k + 1)))])) _
    refine XS.iload X3.here hx rfl (hb hby at_135) rfl ?_
    show Steps p.tables e below (T3.setTop (mkF m 137 #[.val (.long q1), .second, .val (.int p2), .val (.int p3), .val (.int p4), .val (.long n), .second, .val (.int i5), .val (.int fl), .val (.ref b), .val (.int (own_len n)), .val (.int (Int32.ofNat (a + k + 1))), .unset] [(.int (own_len n)), (.int i5), (.int (Int32.ofNat (a + k + 1)))])) _
    refine XS.iadd X3.here hx rfl (hb hby at_137) rfl ?_
    show Steps p.tables e below (T3.setTop (mkF m 138 #[.val (.long q1), .second, .val (.int p2), .val (.int p3), .val (.int p4), .val (.long n), .second, .val (.int i5), .val (.int fl), .val (.ref b), .val (.int (own_len n)), .val (.int (Int32.ofNat (a + k + 1))), .unset] [(.int (i5 + (own_len n))), (.int (Int32.ofNat (a + k + 1)))])) _
    refine XS.icmpNo X3.here hx rfl (hb hby at_138) rfl (teq (by rw [hat, hlen, ← Int32.ofNat_add]; rfl : (Int32.ofNat (a + k + 1)) = (i5 + (own_len n)))).2 ?_
    show Steps p.tables e below (T3.setTop (mkF m 141 #[.val (.long q1), .second, .val (.int p2), .val (.int p3), .val (.int p4), .val (.long n), .second, .val (.int i5), .val (.int fl), .val (.ref b), .val (.int (own_len n)), .val (.int (Int32.ofNat (a + k + 1))), .unset] [])) _
    refine XS.iconst X3.here hx rfl (hb hby at_141) ?_
    show Steps p.tables e below (T3.setTop (mkF m 142 #[.val (.long q1), .second, .val (.int p2), .val (.int p3), .val (.int p4), .val (.long n), .second, .val (.int i5), .val (.int fl), .val (.ref b), .val (.int (own_len n)), .val (.int (Int32.ofNat (a + k + 1))), .unset] [(.int (1 : Int32))])) _
    refine XS.goto X3.here hx rfl (pc0 := 142) (pc' := 146) rfl (hb hby at_142) (by decide) (by decide) ?_
    show Steps p.tables e below (T3.setTop (mkF m 146 #[.val (.long q1), .second, .val (.int p2), .val (.int p3), .val (.int p4), .val (.long n), .second, .val (.int i5), .val (.int fl), .val (.ref b), .val (.int (own_len n)), .val (.int (Int32.ofNat (a + k + 1))), .unset] [(.int (1 : Int32))])) _
    refine XS.istore X3.here hx rfl (hb hby at_146) rfl (l' := #[.val (.long q1), .second, .val (.int p2), .val (.int p3), .val (.int p4), .val (.long n), .second, .val (.int i5), .val (.int fl), .val (.ref b), .val (.int (own_len n)), .val (.int (Int32.ofNat (a + k + 1))), .val (.int (1 : Int32))]) rfl ?_
    show Steps p.tables e below (T3.setTop (mkF m 148 #[.val (.long q1), .second, .val (.int p2), .val (.int p3), .val (.int p4), .val (.long n), .second, .val (.int i5), .val (.int fl), .val (.ref b), .val (.int (own_len n)), .val (.int (Int32.ofNat (a + k + 1))), .val (.int (1 : Int32))] [])) _
    refine r0s _ ?_
    show Steps p.tables e below (R0.setTop (mkF m 177 #[.val (.long q1), .second, .val (.int p2), .val (.int p3), .val (.int p4), .val (.long n), .second, .val (.int i5), .val (.int fl), .val (.ref b), .val (.int (own_len n)), .val (.int (Int32.ofNat (a + k + 1))), .val (.int (1 : Int32))] [])) _
    refine r1s _ ?_
    show Steps p.tables e below (R1.setTop (mkF m 206 #[.val (.long q1), .second, .val (.int p2), .val (.int p3), .val (.int p4), .val (.long n), .second, .val (.int i5), .val (.int fl), .val (.ref b), .val (.int (own_len n)), .val (.int (Int32.ofNat (a + k + 1))), .val (.int (1 : Int32))] [])) _
    refine r2s _ ?_
    show Steps p.tables e below (R2.setTop (mkF m 235 #[.val (.long q1), .second, .val (.int p2), .val (.int p3), .val (.int p4), .val (.long n), .second, .val (.int i5), .val (.int fl), .val (.ref b), .val (.int (own_len n)), .val (.int (Int32.ofNat (a + k + 1))), .val (.int (1 : Int32))] [])) _
    refine r3s _ ?_
    show Steps p.tables e below (R3.setTop (mkF m 264 #[.val (.long q1), .second, .val (.int p2), .val (.int p3), .val (.int p4), .val (.long n), .second, .val (.int i5), .val (.int fl), .val (.ref b), .val (.int (own_len n)), .val (.int (Int32.ofNat (a + k + 1))), .val (.int (1 : Int32))] [])) _
    refine r4s _ ?_
    show Steps p.tables e below (R4.setTop (mkF m 293 #[.val (.long q1), .second, .val (.int p2), .val (.int p3), .val (.int p4), .val (.long n), .second, .val (.int i5), .val (.int fl), .val (.ref b), .val (.int (own_len n)), .val (.int (Int32.ofNat (a + k + 1))), .val (.int (1 : Int32))] [])) _
    refine r5s _ ?_
    show Steps p.tables e below (R5.setTop (mkF m 322 #[.val (.long q1), .second, .val (.int p2), .val (.int p3), .val (.int p4), .val (.long n), .second, .val (.int i5), .val (.int fl), .val (.ref b), .val (.int (own_len n)), .val (.int (Int32.ofNat (a + k + 1))), .val (.int (1 : Int32))] [])) _
    refine r6s _ ?_
    show Steps p.tables e below (R6.setTop (mkF m 352 #[.val (.long q1), .second, .val (.int p2), .val (.int p3), .val (.int p4), .val (.long n), .second, .val (.int i5), .val (.int fl), .val (.ref b), .val (.int (own_len n)), .val (.int (Int32.ofNat (a + k + 1))), .val (.int (1 : Int32))] [])) _
    refine r7s _ ?_
    show Steps p.tables e below (R7.setTop (mkF m 382 #[.val (.long q1), .second, .val (.int p2), .val (.int p3), .val (.int p4), .val (.long n), .second, .val (.int i5), .val (.int fl), .val (.ref b), .val (.int (own_len n)), .val (.int (Int32.ofNat (a + k + 1))), .val (.int (1 : Int32))] [])) _
    refine r8s _ ?_
    show Steps p.tables e below (R8.setTop (mkF m 412 #[.val (.long q1), .second, .val (.int p2), .val (.int p3), .val (.int p4), .val (.long n), .second, .val (.int i5), .val (.int fl), .val (.ref b), .val (.int (own_len n)), .val (.int (Int32.ofNat (a + k + 1))), .val (.int (1 : Int32))] [])) _
    refine r9s _ ?_
    show Steps p.tables e below (R9.setTop (mkF m 442 #[.val (.long q1), .second, .val (.int p2), .val (.int p3), .val (.int p4), .val (.long n), .second, .val (.int i5), .val (.int fl), .val (.ref b), .val (.int (own_len n)), .val (.int (Int32.ofNat (a + k + 1))), .val (.int (1 : Int32))] [])) _
    refine r10s _ ?_
    show Steps p.tables e below (R10.setTop (mkF m 472 #[.val (.long q1), .second, .val (.int p2), .val (.int p3), .val (.int p4), .val (.long n), .second, .val (.int i5), .val (.int fl), .val (.ref b), .val (.int (own_len n)), .val (.int (Int32.ofNat (a + k + 1))), .val (.int (1 : Int32))] [])) _
    refine r11s _ ?_
    show Steps p.tables e below (R11.setTop (mkF m 502 #[.val (.long q1), .second, .val (.int p2), .val (.int p3), .val (.int p4), .val (.long n), .second, .val (.int i5), .val (.int fl), .val (.ref b), .val (.int (own_len n)), .val (.int (Int32.ofNat (a + k + 1))), .val (.int (1 : Int32))] [])) _
    refine r12s _ ?_
    show Steps p.tables e below (R12.setTop (mkF m 532 #[.val (.long q1), .second, .val (.int p2), .val (.int p3), .val (.int p4), .val (.long n), .second, .val (.int i5), .val (.int fl), .val (.ref b), .val (.int (own_len n)), .val (.int (Int32.ofNat (a + k + 1))), .val (.int (1 : Int32))] [])) _
    refine XS.iload r12X.here hx rfl (hb hby at_532) rfl ?_
    show Steps p.tables e below (R12.setTop (mkF m 534 #[.val (.long q1), .second, .val (.int p2), .val (.int p3), .val (.int p4), .val (.long n), .second, .val (.int i5), .val (.int fl), .val (.ref b), .val (.int (own_len n)), .val (.int (Int32.ofNat (a + k + 1))), .val (.int (1 : Int32))] [(.int (1 : Int32))])) _
    exact retN r12X hx (t := .boolean) Bd.returns (by simp) (hb hby at_534) hr
  · show Q0 Z q1 p2 p3 p4 h0 n0 _ R12.heap _
    rw [r12e]
    exact ⟨rfl, r12N⟩
set_option maxRecDepth 65536 in
set_option maxHeartbeats 40000000 in
theorem comes_1 {Post : Tables → Env → Array Value → State → Outcome → State → Prop} (hpost : ∀ tb e args s v u, (limb_1_1.after args s (.returned v) u = true ∧ limb_1_2.after args s (.returned v) u = true ∧ True) → FrameEnd s (.returned v) u (Jvm.fieldLocs frame_1_writes args s ++ Jvm.arrayLocs frame_1_arrays args s ++ Jvm.staticLocs frame_1_statics s) 16 128 → Post tb e args s (.returned v) u) :
    ArmFor flags0 classFile x code maxLocals ret World_1 tables_1 room_1 Calls_1 rest_1 Pre_1 Post := by
  intro l hfl _ _ p e ha hc hk s m args below hf hA hF happ hP
  obtain ⟨hcalls, hrest, hpre⟩ := hP
  obtain ⟨-, -, -, hnamed, -, -, -, hat⟩ := (Spec.applies_iff hf).mp happ
  obtain ⟨hg, hn⟩ := and_e (Cond.before_iff.mp (show (Jvm.Cond.and given_1 narrow_1).before args s = true from hpre))
  obtain ⟨gc, gr0⟩ := and_e hg
  obtain ⟨ga0, gr1⟩ := and_e gr0
  obtain ⟨ga1, gr2⟩ := and_e gr1
  obtain ⟨ga2, gr3⟩ := and_e gr2
  obtain ⟨w0, w1, w2, w3, rfl⟩ : ∃ w0 w1 w2 w3 : Value, args = #[w0, w1, w2, w3] := by
    have hs : args.size = 4 := by simpa [Cond.value, given_1] using gc
    obtain ⟨L⟩ := args
    match L, hs with
    | [w0, w1, w2, w3], _ => exact ⟨w0, w1, w2, w3, rfl⟩
  have hw := fun d (hd : d ∈ tables_1) => atoms_spec (ws := Jvm.Cond.code x code maxLocals ret :: tables_1) hat d (List.mem_cons_of_mem _ hd)
  obtain ⟨i0, ei0⟩ := isL_v ga0
  obtain rfl : w0 = (.long i0) := Option.some.inj ei0
  obtain ⟨i1, ei1⟩ := is_v ga1
  obtain rfl : w1 = (.int i1) := Option.some.inj ei1
  obtain ⟨i2, ei2⟩ := is_v ga2
  obtain rfl : w2 = (.int i2) := Option.some.inj ei2
  obtain ⟨i3, ei3⟩ := is_v gr3
  obtain rfl : w3 = (.int i3) := Option.some.inj ei3
  obtain ⟨n, o, h1, h2, h3, _, L, rfl, ⟨rfl, N⟩, hq⟩ := rm0 l s _ hw tables_1 i0 i1 i2 i3 s.heap s.heap.size (Nat.le_refl _)  p e ha hc hk s m _ below hf ((Spec.applies_iff_loose hf).mp happ).1 ⟨rfl, State.Warmed39.refl s, rfl⟩ trivial
  refine ⟨n, _, h1, h2, h3, hpost _ _ _ _ _ _ ⟨Cond.after_iff.mpr rfl, Cond.after_iff.mpr (eq_i res_at (Term.int_eval (1)) rfl), trivial⟩ ⟨hq.1, hq.2.1, (hq.2.2.sift fun y hy => Or.inr (N y hy)).mono (by decide) (by decide)⟩⟩
theorem main_1_1 : Claimed_1_1 := comes_1 fun _ _ _ _ _ _ h hF => ⟨h.1, hF⟩
theorem main_1_2 : Claimed_1_2 := comes_1 fun _ _ _ _ _ _ h hF => ⟨h.2.1, hF⟩
end Jvm.Pilot.@@N@@
namespace Jvm.Pilot.@@N@@
open Jvm Jvm.ClassFile Sem Op Lib Jvm.Free Jvm.Stand Jvm.Pilot.@@N@@.Jvm.D
/-! MADE BY PROGRAM (witnessworld.py) out of the Statement's table words and the real class files: 11 classes; the members and pool entries that the words name. The judged class is class 1, her method 1. -/
namespace start1
open Jvm.ClassFile
def u (s : String) : CpInfo := .utf8 (stringToUtf16 s)
/-- a pool by its gaps: so many unusable entries, then the entry; so many at the end -/
def gap : Nat → List CpInfo → List CpInfo
  | 0, r => r
  | n + 1, r => .unusable :: gap n r
def poolList (es : List (Nat × CpInfo)) (last : Nat) : List CpInfo := es.foldr (fun e r => gap e.1 (e.2 :: r)) (gap last [])
def pool (es : List (Nat × CpInfo)) (last : Nat) : Array CpInfo := ⟨poolList es last⟩
def fileOf (pool : Array CpInfo) (this : Nat) (attrs : Array Attribute := #[]) (ms : Array MethodInfo := #[]) (fl : Nat := 33) (sup : Nat := 0) (ifs : Array Nat := #[]) (fds : Array FieldInfo := #[]) : ClassFile where
  minorVersion := 0
  majorVersion := 65
  constantPool := pool
  accessFlags := fl
  thisClass := this
  superClass := sup
  interfaces := ifs
  fields := fds
  methods := ms
  attributes := attrs
def plain (name : String) (sup : Option ClassId) : Class where
  name := name
  kind := .ordinary
  loader := none
  accessFlags := 33
  super := sup
  interfaces := #[]
  cf := none
  fields := #[]
  methods := #[]
  instanceTypes := #[]
  staticTypes := #[]
  resolved := #[]
  callSites := []
  init := .initialized
  statics := none
  mirror := none

def pool0 : Array CpInfo := pool [(5, u "<init>"), (0, u "()V"), (1, .class_ 10), (1, u "java/lang/Object")] 113

def k0m0 : Method := { name := "<init>", desc := "()V", sig := { parameters := [], returnType := none }, accessFlags := 1, code := none }
/-- java/lang/Object -/
def k0 : Class := { plain "java/lang/Object" none with
  accessFlags := 33
  interfaces := #[]
  cf := some (fileOf pool0 8 #[] #[{ accessFlags := 1, nameIndex := 5, descriptorIndex := 6, attributes := #[] }] 33 0 #[] #[])
  fields := #[]
  methods := #[k0m0]
  instanceTypes := #[]
  staticTypes := #[]
  resolved := Array.replicate 124 none
  statics := none }

def pool1 : Array CpInfo := pool [(2, .class_ 4), (1, u "java/lang/Object"), (0, u "<init>"), (0, u "()V"), (2, .long 9223372036854775807), (1, .methodref 12 13), (0, .class_ 14), (0, .nameAndType 15 16), (0, u "com/example/spanlace/spanlace/index/IndexOutputPutVLongPinLaw"), (0, u "length"), (0, u "(J)I"), (0, .methodref 18 19), (0, .class_ 20), (0, .nameAndType 21 22), (0, u "com/example/spanlace/spanlace/index/IndexOutput"), (0, u "putVLong"), (0, u "([BIJ)I"), (0, .methodref 12 24), (0, .nameAndType 25 26), (0, u "cell"), (0, u "([BIIIJB)Z"), (0, .long 128), (1, .long 16384), (1, .long 2097152), (1, .long 268435456), (1, .long 34359738368), (1, .long 4398046511104), (1, .long 562949953421312), (1, .long 72057594037927936), (1, .long 127), (3, u "law"), (0, u "(JIII)Z")] 5

def k1m0 : Method := { name := "<init>", desc := "()V", sig := { parameters := [], returnType := none }, accessFlags := 1, code := none }
def k1c1 : Code := { maxStack := 7, maxLocals := 13, code := code, exceptionTable := #[], attributes := #[] }
def k1m1 : Method := { name := "law", desc := "(JIII)Z", sig := { parameters := [.long, .int, .int, .int], returnType := some .boolean }, accessFlags := 9, code := some k1c1 }
def k1c2 : Code := { maxStack := 4, maxLocals := 2, code := method_3_code, exceptionTable := #[], attributes := #[] }
def k1m2 : Method := { name := "length", desc := "(J)I", sig := { parameters := [.long], returnType := some .int }, accessFlags := 10, code := some k1c2 }
def k1c3 : Code := { maxStack := 4, maxLocals := 9, code := method_4_code, exceptionTable := #[], attributes := #[] }
def k1m3 : Method := { name := "cell", desc := "([BIIIJB)Z", sig := { parameters := [(.array .byte), .int, .int, .int, .long, .byte], returnType := some .boolean }, accessFlags := 10, code := some k1c3 }
/-- com/example/spanlace/spanlace/index/IndexOutputPutVLongPinLaw -/
def k1 : Class := { plain "com/example/spanlace/spanlace/index/IndexOutputPutVLongPinLaw" (some 0) with
  accessFlags := 49
  interfaces := #[]
  cf := some (fileOf pool1 12 #[] #[{ accessFlags := 1, nameIndex := 5, descriptorIndex := 6, attributes := #[] }, { accessFlags := 9, nameIndex := 47, descriptorIndex := 48, attributes := #[] }, { accessFlags := 10, nameIndex := 15, descriptorIndex := 16, attributes := #[] }, { accessFlags := 10, nameIndex := 25, descriptorIndex := 26, attributes := #[] }] 49 2 #[] #[])
  fields := #[]
  methods := #[k1m0, k1m1, k1m2, k1m3]
  instanceTypes := #[]
  staticTypes := #[]
  resolved := Array.replicate 54 none
  statics := none }

def pool2 : Array CpInfo := pool [(1, .class_ 2), (0, u "java/lang/AutoCloseable"), (0, .class_ 4), (0, u "java/lang/Object")] 7

/-- java/lang/AutoCloseable -/
def k2 : Class := { plain "java/lang/AutoCloseable" (some 0) with
  accessFlags := 1537
  interfaces := #[]
  cf := some (fileOf pool2 1 #[] #[] 1537 3 #[] #[])
  fields := #[]
  methods := #[]
  instanceTypes := #[]
  staticTypes := #[]
  resolved := Array.replicate 12 none
  statics := none }

def pool3 : Array CpInfo := pool [(1, .class_ 2), (0, u "java/io/Closeable"), (0, .class_ 4), (0, u "java/lang/Object"), (0, .class_ 6), (0, u "java/lang/AutoCloseable")] 7

/-- java/io/Closeable -/
def k3 : Class := { plain "java/io/Closeable" (some 0) with
  accessFlags := 1537
  interfaces := #[2]
  cf := some (fileOf pool3 1 #[] #[] 1537 3 #[5] #[])
  fields := #[]
  methods := #[]
  instanceTypes := #[]
  staticTypes := #[]
  resolved := Array.replicate 14 none
  statics := none }

def pool4 : Array CpInfo := pool [(2, .class_ 4), (1, u "java/lang/Object"), (2, .class_ 8), (0, u "com/example/spanlace/spanlace/index/IndexOutput"), (9, u "buffer"), (0, u "Ljava/nio/ByteBuffer;"), (5, u "checksum"), (0, u "Ljava/util/zip/CRC32;"), (2, u "file"), (0, u "Ljava/nio/file/Path;"), (2, u "channel"), (0, u "Ljava/nio/channels/FileChannel;"), (2, u "check"), (0, u "Lcom/example/spanlace/spanlace/index/IndexOutput$WriteCheck;"), (25, u "flushed"), (0, u "J"), (41, u "putVLong"), (0, u "([BIJ)I"), (2, .long 18446744073709551488), (1, .long 127), (1, .long 128), (104, .class_ 222), (1, u "com/example/spanlace/spanlace/index/IndexOutput$WriteCheck"), (18, .class_ 242), (0, u "java/io/Closeable"), (0, u "BUFFER_SIZE"), (0, u "I"), (1, u "SEVEN_BITS"), (1, u "MORE"), (1, u "MAX_VLONG_BYTES")] 40

def k4c0 : Code := { maxStack := 6, maxLocals := 7, code := prog_41_method_10_code, exceptionTable := #[], attributes := #[] }
def k4m0 : Method := { name := "putVLong", desc := "([BIJ)I", sig := { parameters := [(.array .byte), .int, .long], returnType := some .int }, accessFlags := 8, code := some k4c0 }
/-- com/example/spanlace/spanlace/index/IndexOutput -/
def k4 : Class := { plain "com/example/spanlace/spanlace/index/IndexOutput" (some 0) with
  accessFlags := 48
  interfaces := #[3]
  cf := some (fileOf pool4 7 #[.nestMembers #[220]] #[{ accessFlags := 8, nameIndex := 107, descriptorIndex := 108, attributes := #[] }] 48 2 #[241] #[{ accessFlags := 26, nameIndex := 243, descriptorIndex := 244, attributes := #[] }, { accessFlags := 26, nameIndex := 246, descriptorIndex := 244, attributes := #[] }, { accessFlags := 26, nameIndex := 248, descriptorIndex := 244, attributes := #[] }, { accessFlags := 26, nameIndex := 250, descriptorIndex := 244, attributes := #[] }, { accessFlags := 18, nameIndex := 29, descriptorIndex := 30, attributes := #[] }, { accessFlags := 18, nameIndex := 33, descriptorIndex := 34, attributes := #[] }, { accessFlags := 18, nameIndex := 37, descriptorIndex := 38, attributes := #[] }, { accessFlags := 18, nameIndex := 18, descriptorIndex := 19, attributes := #[] }, { accessFlags := 18, nameIndex := 25, descriptorIndex := 26, attributes := #[] }, { accessFlags := 2, nameIndex := 64, descriptorIndex := 65, attributes := #[] }])
  fields := #[{ name := "BUFFER_SIZE", type := .int, accessFlags := 26, slot := 0, constantValue := 0 }, { name := "SEVEN_BITS", type := .int, accessFlags := 26, slot := 1, constantValue := 0 }, { name := "MORE", type := .int, accessFlags := 26, slot := 2, constantValue := 0 }, { name := "MAX_VLONG_BYTES", type := .int, accessFlags := 26, slot := 3, constantValue := 0 }, { name := "file", type := (.object "java/nio/file/Path"), accessFlags := 18, slot := 0, constantValue := 0 }, { name := "channel", type := (.object "java/nio/channels/FileChannel"), accessFlags := 18, slot := 1, constantValue := 0 }, { name := "check", type := (.object "com/example/spanlace/spanlace/index/IndexOutput$WriteCheck"), accessFlags := 18, slot := 2, constantValue := 0 }, { name := "buffer", type := (.object "java/nio/ByteBuffer"), accessFlags := 18, slot := 3, constantValue := 0 }, { name := "checksum", type := (.object "java/util/zip/CRC32"), accessFlags := 18, slot := 4, constantValue := 0 }, { name := "flushed", type := .long, accessFlags := 2, slot := 5, constantValue := 0 }]
  methods := #[k4m0]
  instanceTypes := #[(.object "java/nio/file/Path"), (.object "java/nio/channels/FileChannel"), (.object "com/example/spanlace/spanlace/index/IndexOutput$WriteCheck"), (.object "java/nio/ByteBuffer"), (.object "java/util/zip/CRC32"), .long]
  staticTypes := #[.int, .int, .int, .int]
  resolved := Array.replicate 291 none
  statics := none }

def pool5 : Array CpInfo := pool [(1, u "java/lang/Cloneable"), (0, .class_ 1), (0, u "java/lang/Object"), (0, .class_ 3)] 3

/-- java/lang/Cloneable -/
def k5 : Class := { plain "java/lang/Cloneable" (some 0) with
  accessFlags := 1537
  interfaces := #[]
  cf := some (fileOf pool5 2 #[] #[] 1537 4 #[] #[])
  fields := #[]
  methods := #[]
  instanceTypes := #[]
  staticTypes := #[]
  resolved := Array.replicate 8 none
  statics := none }

def pool6 : Array CpInfo := pool [(1, u "java/io/Serializable"), (0, .class_ 1), (0, u "java/lang/Object"), (0, .class_ 3)] 3

/-- java/io/Serializable -/
def k6 : Class := { plain "java/io/Serializable" (some 0) with
  accessFlags := 1537
  interfaces := #[]
  cf := some (fileOf pool6 2 #[] #[] 1537 4 #[] #[])
  fields := #[]
  methods := #[]
  instanceTypes := #[]
  staticTypes := #[]
  resolved := Array.replicate 8 none
  statics := none }

/-- the primitive byte -/
def k7 : Class := { plain "byte" none with kind := .primitive 'B', accessFlags := 0x411 }
/-- [B -/
def k8 : Class := { plain "[B" (some 0) with kind := .array 7 .byte, interfaces := #[5, 6], accessFlags := 1041 }

/-- the primitive int -/
def k9 : Class := { plain "int" none with kind := .primitive 'I', accessFlags := 0x411 }
/-- [I -/
def k10 : Class := { plain "[I" (some 0) with kind := .array 9 .int, interfaces := #[5, 6], accessFlags := 1041 }

def heap : Heap := #[]
def classes : Array Class := #[k0, k1, k2, k3, k4, k5, k6, k7, k8, k9, k10]
def interned : List (Array UInt16 × Addr) := []
def slotsUsed : Nat := 0
def theMethod : MethodId := ⟨1, 1⟩
def args0 : Array Value := #[.long 5, .int 300, .int 7, .int 2]
def aboutOver (below : List Frame) : State where
  vm := { classes := classes, interned := interned.toArray }
  heap := heap
  slotsUsed := slotsUsed
  threads := #[{ frames := .invoking theMethod args0 :: below }]
def below0 : List Frame := [.native { method := ⟨0, 0⟩, args := #[] }]
def about1 : State := aboutOver below0
def p0 : Program := .bare "" "" ""
def e0 : Env := launch0.env 0 0 0
theorem w_frames : about1.frames = Frame.invoking theMethod args0 :: below0 := rfl
set_option maxRecDepth 65536 in
theorem w_args : argsFit about1.vm theMethod args0 = true := by decide +kernel
set_option maxRecDepth 65536 in
theorem w_heap : heapFits about1 = true := by decide +kernel
set_option maxRecDepth 65536 in
theorem w_runnable : about1.curStatus? = some .runnable := by decide +kernel
set_option maxRecDepth 65536 in
theorem w_alone : about1.alone = true := by decide +kernel
set_option maxRecDepth 65536 in
theorem w_named : about1.methodNamed? x = some theMethod := by decide +kernel
set_option maxRecDepth 65536 in
theorem w_hears : about1.hears theMethod below0 = true := by decide +kernel
set_option maxRecDepth 65536 in
theorem w_ripe : about1.ripe theMethod args0 below0 = true := by decide +kernel
theorem w_running : about1.status = .running := rfl
set_option maxRecDepth 65536 in
theorem w_room : about1.hasRoom e0.platform room_1 = true :=
  launch0.hasRoom_least _ room_1 (by decide +kernel) (by decide +kernel) (by decide +kernel) (by decide +kernel) (by decide +kernel) (by decide +kernel)
theorem allAtoms_all (ts : List Jvm.Cond) (a : Array Jvm.Value) (st : Jvm.State) : (allAtoms ts).before a st = ts.all (fun c => c.before a st) := by
  induction ts with
  | nil => rfl
  | cons c t ih =>
    show (Jvm.Cond.and c (allAtoms t)).before a st = _
    rw [Jvm.Cond.before_and, ih, List.all_cons]
def words1 : List Jvm.Cond := Jvm.Cond.code x code maxLocals ret :: tables_1
/-- a 'code' word, met by the world's own term for the bytes: nothing is compared byte by byte -/
theorem code_word {y : MethodName} {bytes : ByteArray} {mx : Nat} {rt : Option FieldType} {a : Array Value} {s : State} {m : MethodId} {meth : Method} {c : Code} (h1 : s.methodNamed? y = some m) (h2 : s.vm.method? m = some meth) (h3 : meth.code = some c) (h4 : c.code = bytes)
    (h5 : (c.maxLocals == mx && c.exceptionTable.isEmpty && decide (c.maxStack ≤ mostOperands) && decide (meth.sig.returnType = rt) && !meth.locks && decide (parseMethodDescriptor y.desc = some meth.sig)) = true) : (Jvm.Cond.code y bytes mx rt).before a s = true := by
  simp only [Bool.and_eq_true, beq_iff_eq, Bool.not_eq_true', decide_eq_true_eq] at h5
  obtain ⟨⟨⟨⟨⟨g1, g2⟩, g3⟩, g4⟩, g5⟩, g6⟩ := h5
  simp [Cond.before, Cond.holds, Cond.value, h1, h2, h3, h4, g1, g2, g3, g4, g5, g6]
def isCode : Jvm.Cond → Bool
  | .code _ _ _ _ => true
  | _ => false
theorem all_split {L : List Jvm.Cond} {P : Jvm.Cond → Bool} (h1 : L.all (fun c => isCode c || P c) = true) (h2 : ∀ c ∈ L.filter isCode, P c = true) : L.all P = true := by
  refine List.all_eq_true.mpr fun c hc => ?_
  have h := List.all_eq_true.mp h1 c hc
  rcases Bool.eq_false_or_eq_true (isCode c) with hi | hi
  · exact h2 c (List.mem_filter.mpr ⟨hc, hi⟩)
  · simpa [hi] using h
set_option maxRecDepth 65536 in
theorem w_c0 : (Jvm.Cond.code x code maxLocals ret).before args0 about1 = true := code_word (m := ⟨1, 1⟩) (meth := k1m1) (c := k1c1) (by decide +kernel) rfl rfl rfl (by decide +kernel)
set_option maxRecDepth 65536 in
theorem w_c1 : (Jvm.Cond.code ({ cls := "com/example/spanlace/spanlace/index/IndexOutputPutVLongPinLaw", name := "length", desc := "(J)I" } : Jvm.MethodName) method_3_code (2 : Nat) (Option.some Jvm.ClassFile.FieldType.int)).before args0 about1 = true := code_word (m := ⟨1, 2⟩) (meth := k1m2) (c := k1c2) (by decide +kernel) rfl rfl rfl (by decide +kernel)
set_option maxRecDepth 65536 in
theorem w_c2 : (Jvm.Cond.code ({ cls := "com/example/spanlace/spanlace/index/IndexOutput", name := "putVLong", desc := "([BIJ)I" } : Jvm.MethodName) prog_41_method_10_code (7 : Nat) (Option.some Jvm.ClassFile.FieldType.int)).before args0 about1 = true := code_word (m := ⟨4, 0⟩) (meth := k4m0) (c := k4c0) (by decide +kernel) rfl rfl rfl (by decide +kernel)
set_option maxRecDepth 65536 in
theorem w_c3 : (Jvm.Cond.code ({ cls := "com/example/spanlace/spanlace/index/IndexOutputPutVLongPinLaw", name := "cell", desc := "([BIIIJB)Z" } : Jvm.MethodName) method_4_code (9 : Nat) (Option.some Jvm.ClassFile.FieldType.boolean)).before args0 about1 = true := code_word (m := ⟨1, 3⟩) (meth := k1m3) (c := k1c3) (by decide +kernel) rfl rfl rfl (by decide +kernel)
def codes1 : List Jvm.Cond := [Jvm.Cond.code x code maxLocals ret, Jvm.Cond.code ({ cls := "com/example/spanlace/spanlace/index/IndexOutputPutVLongPinLaw", name := "length", desc := "(J)I" } : Jvm.MethodName) method_3_code (2 : Nat) (Option.some Jvm.ClassFile.FieldType.int), Jvm.Cond.code ({ cls := "com/example/spanlace/spanlace/index/IndexOutput", name := "putVLong", desc := "([BIJ)I" } : Jvm.MethodName) prog_41_method_10_code (7 : Nat) (Option.some Jvm.ClassFile.FieldType.int), Jvm.Cond.code ({ cls := "com/example/spanlace/spanlace/index/IndexOutputPutVLongPinLaw", name := "cell", desc := "([BIIIJB)Z" } : Jvm.MethodName) method_4_code (9 : Nat) (Option.some Jvm.ClassFile.FieldType.boolean)]
set_option maxRecDepth 65536 in
theorem codes_eq : words1.filter isCode = codes1 := rfl
theorem w_codes : ∀ c ∈ words1.filter isCode, c.before args0 about1 = true := by
  rw [codes_eq]
  intro c hc
  simp only [codes1, List.mem_cons, List.not_mem_nil, or_false] at hc
  rcases hc with rfl | rfl | rfl | rfl
  · exact w_c0
  · exact w_c1
  · exact w_c2
  · exact w_c3
set_option maxRecDepth 65536 in
theorem w_t1 : (words1.take 24).all (fun c => isCode c || c.before args0 about1) = true := by decide +kernel
set_option maxRecDepth 65536 in
theorem w_t2 : (words1.drop 24).all (fun c => isCode c || c.before args0 about1) = true := by decide +kernel
theorem w_tables : (allAtoms (Jvm.Cond.code x code maxLocals ret :: tables_1)).before args0 about1 = true := by
  rw [allAtoms_all]
  show words1.all (fun c => c.before args0 about1) = true
  refine all_split ?_ w_codes
  rw [← List.take_append_drop 24 words1, List.all_append, w_t1, w_t2]
  rfl
set_option maxRecDepth 65536 in
theorem w_case : (Jvm.Cond.and given_1 narrow_1).before args0 about1 = true := by decide +kernel
theorem w_applies : (headSpec (Jvm.Cond.code x code maxLocals ret :: tables_1) room_1).applies x e0.platform about1 = true :=
  (Spec.applies_iff w_frames).mpr ⟨w_running, w_runnable, w_alone, w_named, w_hears, w_ripe, w_room, w_tables⟩
theorem atStart : AtStart classFile x code maxLocals ret World_1 tables_1 room_1 Calls_1 rest_1 Pre_1 launch0 p0 e0 about1 theMethod args0 below0 :=
  ⟨lists_1, trivial, launch0.admits_env _ _ _, launch0.least_env, fairChoices_fair.cas, fairChoices_fair.clock, w_frames, w_args, w_heap, w_applies, trivial, trivial, w_case⟩
end start1
theorem witness_1 : WitnessClaimed_1 := ⟨start1.p0, start1.e0, start1.about1, start1.theMethod, start1.args0, start1.below0, start1.atStart⟩
end Jvm.Pilot.@@N@@
