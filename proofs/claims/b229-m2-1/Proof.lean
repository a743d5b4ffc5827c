import JvmDerived
import JvmDerived.Pilot.@@N@@Statement
import JvmDerived.Pilot.@@N@@Code
set_option linter.unusedVariables false
set_option linter.unusedSimpArgs false
namespace Jvm.RoadKit
open Sem ClassFile Op Lib Jvm.Stand Jvm.Free Jvm.LawKit
section New
variable {p : Program} {l : Launch} {e : Env} {R : Room} {s : State} {m : MethodId} {args : Array Value} {below : List Frame} {meth : Method} {c : Code} {T : State} {locs : List Loc} {cells slots : Nat}
theorem retI (X : Stand p l e R s m args below meth c T locs cells slots) (hx : p.tables.exec = Jvm.exec) {pc : Nat} {Ls : Array Slot} {z : Int32} {rest : List Value} (hret : meth.sig.returnType = some .int) (hd : decode c.code pc = .ok (.ireturn, 1)) {fs : List Frame}
    (hl : ∀ (f : JFrame) (acts : List Action), f.method = m → f.locked = none → f.entered = [] → (doReturn e (T.setTop f) acts (some (.int z))).1 = T.setFrames fs) : Steps p.tables e below (T.setTop (mkF m pc Ls (.int z :: rest))) (T.setFrames fs) := by
  have hm' : T.vm.method? m = some meth := X.method'
  have hn : narrow .int (.int z) = .int z := rfl
  show Steps p.tables e below (T.setTop { method := m, pc := pc, locals := Ls, stack := _ :: rest, locked := none }) _
  jvm_step X.here [X.here.top, hx, hd, hm', hret, hn]
  first | (intro acts; rw [hl _ acts rfl rfl rfl]) | rw [hl _ _ rfl rfl rfl]
  exact Steps.refl _
end New
end Jvm.RoadKit
namespace Jvm.Pilot.@@N@@
open Jvm Jvm.ClassFile Sem Op Lib Jvm.Free Jvm.Stand Jvm.LawKit Jvm.RoadKit Bundle Jvm.Pilot.@@N@@.Jvm.D
def own_sx (b s z : Int32) : Int32 := if z < b then z else ((z.toUInt32 >>> (s &&& 31).toUInt32).toInt32)
def own_sk (b d z k : Int32) : Int32 := if z < b then k else k + d
def own_x0 (z : Int32) : Int32 := z
def own_x1 (z : Int32) : Int32 := own_sx (65536 : Int32) (16 : Int32) (own_x0 z)
def own_x2 (z : Int32) : Int32 := own_sx (256 : Int32) (8 : Int32) (own_x1 z)
def own_x3 (z : Int32) : Int32 := own_sx (16 : Int32) (4 : Int32) (own_x2 z)
def own_x4 (z : Int32) : Int32 := own_sx (4 : Int32) (2 : Int32) (own_x3 z)
def own_k0 (z : Int32) : Int32 := (31 : Int32)
def own_k1 (z : Int32) : Int32 := own_sk (65536 : Int32) (-16 : Int32) (own_x0 z) (own_k0 z)
def own_k2 (z : Int32) : Int32 := own_sk (256 : Int32) (-8 : Int32) (own_x1 z) (own_k1 z)
def own_k3 (z : Int32) : Int32 := own_sk (16 : Int32) (-4 : Int32) (own_x2 z) (own_k2 z)
def own_k4 (z : Int32) : Int32 := own_sk (4 : Int32) (-2 : Int32) (own_x3 z) (own_k3 z)
def own_nlz (z : Int32) : Int32 := own_k4 z - (((own_x4 z).toUInt32 >>> ((1 : Int32) &&& 31).toUInt32).toInt32)
def own_cs (c : Int32) : Int32 := if c < (16 : Int32) then ((c + (1 : Int32)) <<< ((4 : Int32) &&& 31)) else (((5 : Int32) + ((c - (16 : Int32)) % (4 : Int32))) <<< ((((8 : Int32) + ((c - (16 : Int32)) / (4 : Int32))) - (2 : Int32)) &&& 31))
def own_sc (z : Int32) : Int32 := if (256 : Int32) < z then ((((16 : Int32) + ((((31 : Int32) - own_nlz (z - (1 : Int32))) - (8 : Int32)) * (4 : Int32))) + (((z - (1 : Int32)).toUInt32 >>> ((((31 : Int32) - own_nlz (z - (1 : Int32))) - (2 : Int32)) &&& 31).toUInt32).toInt32)) - (4 : Int32)) else (((z - (1 : Int32)).toUInt32 >>> ((4 : Int32) &&& 31).toUInt32).toInt32)
def own_ok (z : Int32) : Bool := decide (¬ (z < (1 : Int32))) && decide (¬ ((1048576 : Int32) < z))
def own_chk (c : Int32) : Bool := (if c < (16 : Int32) then decide (own_cs c = ((16 : Int32) * (c + (1 : Int32)))) && decide (c < (63 : Int32)) else decide (own_cs c = (((256 : Int32) <<< (((c - (16 : Int32)) >>> ((2 : Int32) &&& 31)) &&& 31)) + ((((c - (16 : Int32)) &&& (3 : Int32)) + (1 : Int32)) * (((256 : Int32) <<< (((c - (16 : Int32)) >>> ((2 : Int32) &&& 31)) &&& 31)) >>> ((2 : Int32) &&& 31)))))) && own_ok (own_cs c) && decide (own_sc (own_cs c) = c) && (if c < (63 : Int32) then own_ok (own_cs c + (1 : Int32)) && decide (own_sc (own_cs c + (1 : Int32)) = c + (1 : Int32)) else true)
set_option maxRecDepth 65536 in
theorem own_fin : ∀ i : Fin 64, own_chk (Int32.ofNat i.1) = true := by decide +kernel
theorem own_at (q : Int32) : own_chk (q &&& (63 : Int32)) = true := by
  have e := c_mask q (63 : Int32) 6 (by decide) (by decide)
  have h : ∃ i : Fin 64, (q &&& (63 : Int32)) = Int32.ofNat i.1 := by
    refine ⟨⟨((q &&& (63 : Int32)).toInt).toNat, by omega⟩, Int32.toInt_inj.mp ?_⟩
    rw [Int32.toInt_ofNat', show Int32.size = 4294967296 from rfl, Int.bmod_def]
    dsimp only
    omega
  obtain ⟨i, hi⟩ := h
  rw [hi]; exact own_fin i
theorem own_oks {z : Int32} (h : own_ok z = true) : ¬ (z < (1 : Int32)) ∧ ¬ ((1048576 : Int32) < z) := by
  unfold own_ok at h
  rw [Bool.and_eq_true, decide_eq_true_eq, decide_eq_true_eq] at h; exact h
theorem own_c0 {c : Int32} (h : own_chk c = true) (g : c < (16 : Int32)) : own_cs c = ((16 : Int32) * (c + (1 : Int32))) ∧ c < (63 : Int32) := by
  unfold own_chk at h
  rw [if_pos g, Bool.and_eq_true, Bool.and_eq_true, Bool.and_eq_true, Bool.and_eq_true, decide_eq_true_eq, decide_eq_true_eq] at h
  exact h.1.1.1
theorem own_c1 {c : Int32} (h : own_chk c = true) (g : ¬ (c < (16 : Int32))) : own_cs c = (((256 : Int32) <<< (((c - (16 : Int32)) >>> ((2 : Int32) &&& 31)) &&& 31)) + ((((c - (16 : Int32)) &&& (3 : Int32)) + (1 : Int32)) * (((256 : Int32) <<< (((c - (16 : Int32)) >>> ((2 : Int32) &&& 31)) &&& 31)) >>> ((2 : Int32) &&& 31)))) := by
  unfold own_chk at h
  rw [if_neg g, Bool.and_eq_true, Bool.and_eq_true, Bool.and_eq_true, decide_eq_true_eq] at h
  exact h.1.1.1
theorem own_c2 {c : Int32} (h : own_chk c = true) : own_ok (own_cs c) = true ∧ own_sc (own_cs c) = c := by
  unfold own_chk at h
  rw [Bool.and_eq_true, Bool.and_eq_true, Bool.and_eq_true] at h
  exact ⟨h.1.1.2, of_decide_eq_true h.1.2⟩
theorem own_c3 {c : Int32} (h : own_chk c = true) (g : c < (63 : Int32)) : own_ok (own_cs c + (1 : Int32)) = true ∧ own_sc (own_cs c + (1 : Int32)) = c + (1 : Int32) := by
  unfold own_chk at h
  rw [Bool.and_eq_true] at h
  have h2 := h.2
  rw [if_pos g, Bool.and_eq_true] at h2
  exact ⟨h2.1, of_decide_eq_true h2.2⟩
theorem d1_0 : decode prog_36_method_8_code 0 = .ok (.iload_n 0, 1) := by decide +kernel
theorem d1_1 : decode prog_36_method_8_code 1 = .ok (.bipush 16, 2) := by decide +kernel
theorem d1_3 : decode prog_36_method_8_code 3 = .ok (.if_icmp .ge 9, 3) := by decide +kernel
theorem d1_6 : decode prog_36_method_8_code 6 = .ok (.iload_n 0, 1) := by decide +kernel
theorem d1_7 : decode prog_36_method_8_code 7 = .ok (.iconst 1, 1) := by decide +kernel
theorem d1_8 : decode prog_36_method_8_code 8 = .ok (.iadd, 1) := by decide +kernel
theorem d1_9 : decode prog_36_method_8_code 9 = .ok (.iconst 4, 1) := by decide +kernel
theorem d1_10 : decode prog_36_method_8_code 10 = .ok (.ishl, 1) := by decide +kernel
theorem d1_11 : decode prog_36_method_8_code 11 = .ok (.ireturn, 1) := by decide +kernel
theorem d1_12 : decode prog_36_method_8_code 12 = .ok (.bipush 8, 2) := by decide +kernel
theorem d1_14 : decode prog_36_method_8_code 14 = .ok (.iload_n 0, 1) := by decide +kernel
theorem d1_15 : decode prog_36_method_8_code 15 = .ok (.bipush 16, 2) := by decide +kernel
theorem d1_17 : decode prog_36_method_8_code 17 = .ok (.isub, 1) := by decide +kernel
theorem d1_18 : decode prog_36_method_8_code 18 = .ok (.iconst 4, 1) := by decide +kernel
theorem d1_19 : decode prog_36_method_8_code 19 = .ok (.idiv, 1) := by decide +kernel
theorem d1_20 : decode prog_36_method_8_code 20 = .ok (.iadd, 1) := by decide +kernel
theorem d1_21 : decode prog_36_method_8_code 21 = .ok (.istore_n 1, 1) := by decide +kernel
theorem d1_22 : decode prog_36_method_8_code 22 = .ok (.iload_n 0, 1) := by decide +kernel
theorem d1_23 : decode prog_36_method_8_code 23 = .ok (.bipush 16, 2) := by decide +kernel
theorem d1_25 : decode prog_36_method_8_code 25 = .ok (.isub, 1) := by decide +kernel
theorem d1_26 : decode prog_36_method_8_code 26 = .ok (.iconst 4, 1) := by decide +kernel
theorem d1_27 : decode prog_36_method_8_code 27 = .ok (.irem, 1) := by decide +kernel
theorem d1_28 : decode prog_36_method_8_code 28 = .ok (.istore_n 2, 1) := by decide +kernel
theorem d1_29 : decode prog_36_method_8_code 29 = .ok (.iconst 5, 1) := by decide +kernel
theorem d1_30 : decode prog_36_method_8_code 30 = .ok (.iload_n 2, 1) := by decide +kernel
theorem d1_31 : decode prog_36_method_8_code 31 = .ok (.iadd, 1) := by decide +kernel
theorem d1_32 : decode prog_36_method_8_code 32 = .ok (.iload_n 1, 1) := by decide +kernel
theorem d1_33 : decode prog_36_method_8_code 33 = .ok (.iconst 2, 1) := by decide +kernel
theorem d1_34 : decode prog_36_method_8_code 34 = .ok (.isub, 1) := by decide +kernel
theorem d1_35 : decode prog_36_method_8_code 35 = .ok (.ishl, 1) := by decide +kernel
theorem d1_36 : decode prog_36_method_8_code 36 = .ok (.ireturn, 1) := by decide +kernel
theorem d2_0 : decode prog_36_method_7_code 0 = .ok (.iload_n 0, 1) := by decide +kernel
theorem d2_1 : decode prog_36_method_7_code 1 = .ok (.iconst 1, 1) := by decide +kernel
theorem d2_2 : decode prog_36_method_7_code 2 = .ok (.if_icmp .lt 9, 3) := by decide +kernel
theorem d2_5 : decode prog_36_method_7_code 5 = .ok (.iload_n 0, 1) := by decide +kernel
theorem d2_6 : decode prog_36_method_7_code 6 = .ok (.ldc 138, 2) := by decide +kernel
theorem d2_8 : decode prog_36_method_7_code 8 = .ok (.if_icmp .le 17, 3) := by decide +kernel
theorem d2_25 : decode prog_36_method_7_code 25 = .ok (.iload_n 0, 1) := by decide +kernel
theorem d2_26 : decode prog_36_method_7_code 26 = .ok (.sipush 256, 3) := by decide +kernel
theorem d2_29 : decode prog_36_method_7_code 29 = .ok (.if_icmp .gt 9, 3) := by decide +kernel
theorem d2_32 : decode prog_36_method_7_code 32 = .ok (.iload_n 0, 1) := by decide +kernel
theorem d2_33 : decode prog_36_method_7_code 33 = .ok (.iconst 1, 1) := by decide +kernel
theorem d2_34 : decode prog_36_method_7_code 34 = .ok (.isub, 1) := by decide +kernel
theorem d2_35 : decode prog_36_method_7_code 35 = .ok (.iconst 4, 1) := by decide +kernel
theorem d2_36 : decode prog_36_method_7_code 36 = .ok (.iushr, 1) := by decide +kernel
theorem d2_37 : decode prog_36_method_7_code 37 = .ok (.ireturn, 1) := by decide +kernel
theorem d2_38 : decode prog_36_method_7_code 38 = .ok (.bipush 31, 2) := by decide +kernel
theorem d2_40 : decode prog_36_method_7_code 40 = .ok (.iload_n 0, 1) := by decide +kernel
theorem d2_41 : decode prog_36_method_7_code 41 = .ok (.iconst 1, 1) := by decide +kernel
theorem d2_42 : decode prog_36_method_7_code 42 = .ok (.isub, 1) := by decide +kernel
theorem d2_43 : decode prog_36_method_7_code 43 = .ok (.invokestatic 146, 3) := by decide +kernel
theorem d2_46 : decode prog_36_method_7_code 46 = .ok (.isub, 1) := by decide +kernel
theorem d2_47 : decode prog_36_method_7_code 47 = .ok (.istore_n 1, 1) := by decide +kernel
theorem d2_48 : decode prog_36_method_7_code 48 = .ok (.iload_n 1, 1) := by decide +kernel
theorem d2_49 : decode prog_36_method_7_code 49 = .ok (.iconst 2, 1) := by decide +kernel
theorem d2_50 : decode prog_36_method_7_code 50 = .ok (.isub, 1) := by decide +kernel
theorem d2_51 : decode prog_36_method_7_code 51 = .ok (.istore_n 2, 1) := by decide +kernel
theorem d2_52 : decode prog_36_method_7_code 52 = .ok (.bipush 16, 2) := by decide +kernel
theorem d2_54 : decode prog_36_method_7_code 54 = .ok (.iload_n 1, 1) := by decide +kernel
theorem d2_55 : decode prog_36_method_7_code 55 = .ok (.bipush 8, 2) := by decide +kernel
theorem d2_57 : decode prog_36_method_7_code 57 = .ok (.isub, 1) := by decide +kernel
theorem d2_58 : decode prog_36_method_7_code 58 = .ok (.iconst 4, 1) := by decide +kernel
theorem d2_59 : decode prog_36_method_7_code 59 = .ok (.imul, 1) := by decide +kernel
theorem d2_60 : decode prog_36_method_7_code 60 = .ok (.iadd, 1) := by decide +kernel
theorem d2_61 : decode prog_36_method_7_code 61 = .ok (.iload_n 0, 1) := by decide +kernel
theorem d2_62 : decode prog_36_method_7_code 62 = .ok (.iconst 1, 1) := by decide +kernel
theorem d2_63 : decode prog_36_method_7_code 63 = .ok (.isub, 1) := by decide +kernel
theorem d2_64 : decode prog_36_method_7_code 64 = .ok (.iload_n 2, 1) := by decide +kernel
theorem d2_65 : decode prog_36_method_7_code 65 = .ok (.iushr, 1) := by decide +kernel
theorem d2_66 : decode prog_36_method_7_code 66 = .ok (.iadd, 1) := by decide +kernel
theorem d2_67 : decode prog_36_method_7_code 67 = .ok (.iconst 4, 1) := by decide +kernel
theorem d2_68 : decode prog_36_method_7_code 68 = .ok (.isub, 1) := by decide +kernel
theorem d2_69 : decode prog_36_method_7_code 69 = .ok (.ireturn, 1) := by decide +kernel
theorem d3_0 : decode jdk_33_method_47_code 0 = .ok (.iload_n 0, 1) := by decide +kernel
theorem d3_1 : decode jdk_33_method_47_code 1 = .ok (.ifCond .gt 14, 3) := by decide +kernel
theorem d3_15 : decode jdk_33_method_47_code 15 = .ok (.bipush 31, 2) := by decide +kernel
theorem d3_17 : decode jdk_33_method_47_code 17 = .ok (.istore_n 1, 1) := by decide +kernel
theorem d3_18 : decode jdk_33_method_47_code 18 = .ok (.iload_n 0, 1) := by decide +kernel
theorem d3_19 : decode jdk_33_method_47_code 19 = .ok (.ldc_w 264, 3) := by decide +kernel
theorem d3_22 : decode jdk_33_method_47_code 22 = .ok (.if_icmp .lt 11, 3) := by decide +kernel
theorem d3_25 : decode jdk_33_method_47_code 25 = .ok (.iinc 1 (-16), 3) := by decide +kernel
theorem d3_28 : decode jdk_33_method_47_code 28 = .ok (.iload_n 0, 1) := by decide +kernel
theorem d3_29 : decode jdk_33_method_47_code 29 = .ok (.bipush 16, 2) := by decide +kernel
theorem d3_31 : decode jdk_33_method_47_code 31 = .ok (.iushr, 1) := by decide +kernel
theorem d3_32 : decode jdk_33_method_47_code 32 = .ok (.istore_n 0, 1) := by decide +kernel
theorem d3_33 : decode jdk_33_method_47_code 33 = .ok (.iload_n 0, 1) := by decide +kernel
theorem d3_34 : decode jdk_33_method_47_code 34 = .ok (.sipush 256, 3) := by decide +kernel
theorem d3_37 : decode jdk_33_method_47_code 37 = .ok (.if_icmp .lt 11, 3) := by decide +kernel
theorem d3_40 : decode jdk_33_method_47_code 40 = .ok (.iinc 1 (-8), 3) := by decide +kernel
theorem d3_43 : decode jdk_33_method_47_code 43 = .ok (.iload_n 0, 1) := by decide +kernel
theorem d3_44 : decode jdk_33_method_47_code 44 = .ok (.bipush 8, 2) := by decide +kernel
theorem d3_46 : decode jdk_33_method_47_code 46 = .ok (.iushr, 1) := by decide +kernel
theorem d3_47 : decode jdk_33_method_47_code 47 = .ok (.istore_n 0, 1) := by decide +kernel
theorem d3_48 : decode jdk_33_method_47_code 48 = .ok (.iload_n 0, 1) := by decide +kernel
theorem d3_49 : decode jdk_33_method_47_code 49 = .ok (.bipush 16, 2) := by decide +kernel
theorem d3_51 : decode jdk_33_method_47_code 51 = .ok (.if_icmp .lt 10, 3) := by decide +kernel
theorem d3_54 : decode jdk_33_method_47_code 54 = .ok (.iinc 1 (-4), 3) := by decide +kernel
theorem d3_57 : decode jdk_33_method_47_code 57 = .ok (.iload_n 0, 1) := by decide +kernel
theorem d3_58 : decode jdk_33_method_47_code 58 = .ok (.iconst 4, 1) := by decide +kernel
theorem d3_59 : decode jdk_33_method_47_code 59 = .ok (.iushr, 1) := by decide +kernel
theorem d3_60 : decode jdk_33_method_47_code 60 = .ok (.istore_n 0, 1) := by decide +kernel
theorem d3_61 : decode jdk_33_method_47_code 61 = .ok (.iload_n 0, 1) := by decide +kernel
theorem d3_62 : decode jdk_33_method_47_code 62 = .ok (.iconst 4, 1) := by decide +kernel
theorem d3_63 : decode jdk_33_method_47_code 63 = .ok (.if_icmp .lt 10, 3) := by decide +kernel
theorem d3_66 : decode jdk_33_method_47_code 66 = .ok (.iinc 1 (-2), 3) := by decide +kernel
theorem d3_69 : decode jdk_33_method_47_code 69 = .ok (.iload_n 0, 1) := by decide +kernel
theorem d3_70 : decode jdk_33_method_47_code 70 = .ok (.iconst 2, 1) := by decide +kernel
theorem d3_71 : decode jdk_33_method_47_code 71 = .ok (.iushr, 1) := by decide +kernel
theorem d3_72 : decode jdk_33_method_47_code 72 = .ok (.istore_n 0, 1) := by decide +kernel
theorem d3_73 : decode jdk_33_method_47_code 73 = .ok (.iload_n 1, 1) := by decide +kernel
theorem d3_74 : decode jdk_33_method_47_code 74 = .ok (.iload_n 0, 1) := by decide +kernel
theorem d3_75 : decode jdk_33_method_47_code 75 = .ok (.iconst 1, 1) := by decide +kernel
theorem d3_76 : decode jdk_33_method_47_code 76 = .ok (.iushr, 1) := by decide +kernel
theorem d3_77 : decode jdk_33_method_47_code 77 = .ok (.isub, 1) := by decide +kernel
theorem d3_78 : decode jdk_33_method_47_code 78 = .ok (.ireturn, 1) := by decide +kernel
theorem pdx_0 : parseMethodDescriptor "(I)I" = some ⟨[.int], some .int⟩ := by decide +kernel
theorem ef_1 (m : MethodId) (x0 : Int32) : entryFrame m #[(.int x0)] 3 = mkF m 0 #[.val (.int x0), .unset, .unset] [] := by first | (simp [entryFrame, mkF, argsToLocals, Value.category]; done) | rfl
theorem pn_1 : plainName "com/example/stratavault/stratavault/storage/Allocator" = true := by first | (simp [plainName, overriddenIn]; done) | decide +kernel
def Q1 (Z : State) (c1 : Int32) (h0 : Heap) (n0 : Nat) (rv : Option Value) (h : Heap) (Lq : List Loc) : Prop := rv = some (.int (own_cs c1)) ∧ Fr n0 Lq ∧ h = h0
set_option maxRecDepth 65536 in
set_option maxHeartbeats 40000000 in
theorem rm1 (l : Launch) (Z : State) (a0 : Array Value) (hw : ∀ d ∈ tables_1, d.before a0 Z = true) (ws : List Jvm.Cond) (c1 : Int32) (h0 : Heap) (n0 : Nat) (Z0 : n0 ≤ h0.size) :
    MetFree l (⟨"com/example/stratavault/stratavault/storage/Allocator", "classSize", "(I)I"⟩ : MethodName) (head1 (Jvm.Cond.code (⟨"com/example/stratavault/stratavault/storage/Allocator", "classSize", "(I)I"⟩ : MethodName) prog_36_method_8_code 3 (some .int) :: ws) ({ frames := 0, cells := 0, slots := 0, locals := 0 } : Room)) (fun xx U => xx = #[(.int c1)] ∧ Z.Warmed39 U.vm ∧ U.heap = h0) (fun _ _ _ _ _ => True) (fun _ U o U' => ∃ rv Lq, o = .returned rv ∧ Q1 Z c1 h0 n0 rv U'.heap Lq ∧ FrameEnd U o U' Lq ({ frames := 0, cells := 0, slots := 0, locals := 0 } : Room).cells ({ frames := 0, cells := 0, slots := 0, locals := 0 } : Room).slots) := by
  refine MetFree.of_bodySF (plainFor_of_name pn_1) hisR ?_
  intro p e s m args below meth c s₁ Bd hml0 hP hK
  obtain ⟨rfl, hZ, hh⟩ := hP
  have hx := Bd.exec
  have hby := Bd.bytes
  have hml : c.maxLocals = 3 := hml0
  have hown : s.vm.findClass "com/example/stratavault/stratavault/storage/Allocator" = some m.cls := findClass_of_methodNamed Bd.named
  have hnm := (name_of_methodNamed Bd.named Bd.method).1
  have X0 : Stand p l e ({ frames := 0, cells := 0, slots := 0, locals := 0 } : Room) s m #[(.int c1)] below meth c s₁ [] 0 0 := Stand.of_body Bd
  have e0 : s₁.heap = h0 := by rw [← hh, Bd.state]; rfl
  have N0 := Fr.nil n0
  have pre0 : ∀ t, Steps p.tables e below (s₁.setTop (mkF m 0 #[.val (.int c1), .unset, .unset] [])) t → Steps p.tables e below (s₁.setTop (entryFrame m #[(.int c1)] 3)) t := fun t k => castTop (ef_1 m c1) k
  by_cases h1 : c1 < (16 : Int32)
  · have hv : own_cs c1 = ((c1 + (1 : Int32)) <<< ((4 : Int32) &&& 31)) := by unfold own_cs; rw [if_pos h1]
    obtain ⟨fs, hr, hrun, hended, hW, hsame⟩ := X0.leave (v := some (.int ((c1 + (1 : Int32)) <<< ((4 : Int32) &&& 31)))) (fun h => by rw [Bd.returns] at h; cases h)
    refine ⟨_, _, pre0 _ ?_, hrun, hended, _, _, rfl, ?_, ⟨_, rfl⟩, hW, hsame.mono (by decide) (by decide)⟩
    · show Steps p.tables e below (s₁.setTop (mkF m 0 #[.val (.int c1), .unset, .unset] [])) _
      refine XS.iloadN X0.here hx rfl (hb hby d1_0) rfl ?_
      show Steps p.tables e below (s₁.setTop (mkF m 1 #[.val (.int c1), .unset, .unset] [(.int c1)])) _
      refine XS.bipush X0.here hx rfl (hb hby d1_1) ?_
      show Steps p.tables e below (s₁.setTop (mkF m 3 #[.val (.int c1), .unset, .unset] [(.int (16 : Int32)), (.int c1)])) _
      refine XS.icmpNo X0.here hx rfl (hb hby d1_3) rfl (tlt (h1 : c1 < (16 : Int32))).2.1 ?_
      show Steps p.tables e below (s₁.setTop (mkF m 6 #[.val (.int c1), .unset, .unset] [])) _
      refine XS.iloadN X0.here hx rfl (hb hby d1_6) rfl ?_
      show Steps p.tables e below (s₁.setTop (mkF m 7 #[.val (.int c1), .unset, .unset] [(.int c1)])) _
      refine XS.iconst X0.here hx rfl (hb hby d1_7) ?_
      show Steps p.tables e below (s₁.setTop (mkF m 8 #[.val (.int c1), .unset, .unset] [(.int (1 : Int32)), (.int c1)])) _
      refine XS.iadd X0.here hx rfl (hb hby d1_8) rfl ?_
      show Steps p.tables e below (s₁.setTop (mkF m 9 #[.val (.int c1), .unset, .unset] [(.int (c1 + (1 : Int32)))])) _
      refine XS.iconst X0.here hx rfl (hb hby d1_9) ?_
      show Steps p.tables e below (s₁.setTop (mkF m 10 #[.val (.int c1), .unset, .unset] [(.int (4 : Int32)), (.int (c1 + (1 : Int32)))])) _
      refine XS.ishl X0.here hx rfl (hb hby d1_10) rfl ?_
      show Steps p.tables e below (s₁.setTop (mkF m 11 #[.val (.int c1), .unset, .unset] [(.int ((c1 + (1 : Int32)) <<< ((4 : Int32) &&& 31)))])) _
      exact retI X0 hx Bd.returns (hb hby d1_11) hr
    · show Q1 Z c1 h0 n0 _ s₁.heap _
      rw [e0]
      unfold Q1
      rw [hv]
      exact ⟨rfl, N0, rfl⟩
  · have hv : own_cs c1 = (((5 : Int32) + ((c1 - (16 : Int32)) % (4 : Int32))) <<< ((((8 : Int32) + ((c1 - (16 : Int32)) / (4 : Int32))) - (2 : Int32)) &&& 31)) := by unfold own_cs; rw [if_neg h1]
    obtain ⟨fs, hr, hrun, hended, hW, hsame⟩ := X0.leave (v := some (.int (((5 : Int32) + ((c1 - (16 : Int32)) % (4 : Int32))) <<< ((((8 : Int32) + ((c1 - (16 : Int32)) / (4 : Int32))) - (2 : Int32)) &&& 31)))) (fun h => by rw [Bd.returns] at h; cases h)
    refine ⟨_, _, pre0 _ ?_, hrun, hended, _, _, rfl, ?_, ⟨_, rfl⟩, hW, hsame.mono (by decide) (by decide)⟩
    · show Steps p.tables e below (s₁.setTop (mkF m 0 #[.val (.int c1), .unset, .unset] [])) _
      refine XS.iloadN X0.here hx rfl (hb hby d1_0) rfl ?_
      show Steps p.tables e below (s₁.setTop (mkF m 1 #[.val (.int c1), .unset, .unset] [(.int c1)])) _
      refine XS.bipush X0.here hx rfl (hb hby d1_1) ?_
      show Steps p.tables e below (s₁.setTop (mkF m 3 #[.val (.int c1), .unset, .unset] [(.int (16 : Int32)), (.int c1)])) _
      refine XS.icmpYes X0.here hx rfl (pc0 := 3) (pc' := 12) rfl (hb hby d1_3) rfl (flt (h1 : ¬ (c1 < (16 : Int32)))).2.1 (by decide) (by decide) ?_
      show Steps p.tables e below (s₁.setTop (mkF m 12 #[.val (.int c1), .unset, .unset] [])) _
      refine XS.bipush X0.here hx rfl (hb hby d1_12) ?_
      show Steps p.tables e below (s₁.setTop (mkF m 14 #[.val (.int c1), .unset, .unset] [(.int (8 : Int32))])) _
      refine XS.iloadN X0.here hx rfl (hb hby d1_14) rfl ?_
      show Steps p.tables e below (s₁.setTop (mkF m 15 #[.val (.int c1), .unset, .unset] [(.int c1), (.int (8 : Int32))])) _
      refine XS.bipush X0.here hx rfl (hb hby d1_15) ?_
      show Steps p.tables e below (s₁.setTop (mkF m 17 #[.val (.int c1), .unset, .unset] [(.int (16 : Int32)), (.int c1), (.int (8 : Int32))])) _
      refine XS.isub X0.here hx rfl (hb hby d1_17) rfl ?_
      show Steps p.tables e below (s₁.setTop (mkF m 18 #[.val (.int c1), .unset, .unset] [(.int (c1 - (16 : Int32))), (.int (8 : Int32))])) _
      refine XS.iconst X0.here hx rfl (hb hby d1_18) ?_
      show Steps p.tables e below (s₁.setTop (mkF m 19 #[.val (.int c1), .unset, .unset] [(.int (4 : Int32)), (.int (c1 - (16 : Int32))), (.int (8 : Int32))])) _
      refine XS.idiv X0.here hx rfl (hb hby d1_19) rfl (by decide) ?_
      show Steps p.tables e below (s₁.setTop (mkF m 20 #[.val (.int c1), .unset, .unset] [(.int ((c1 - (16 : Int32)) / (4 : Int32))), (.int (8 : Int32))])) _
      refine XS.iadd X0.here hx rfl (hb hby d1_20) rfl ?_
      show Steps p.tables e below (s₁.setTop (mkF m 21 #[.val (.int c1), .unset, .unset] [(.int ((8 : Int32) + ((c1 - (16 : Int32)) / (4 : Int32))))])) _
      refine XS.istoreN X0.here hx rfl (hb hby d1_21) rfl (l' := #[.val (.int c1), .val (.int ((8 : Int32) + ((c1 - (16 : Int32)) / (4 : Int32)))), .unset]) rfl ?_
      show Steps p.tables e below (s₁.setTop (mkF m 22 #[.val (.int c1), .val (.int ((8 : Int32) + ((c1 - (16 : Int32)) / (4 : Int32)))), .unset] [])) _
      refine XS.iloadN X0.here hx rfl (hb hby d1_22) rfl ?_
      show Steps p.tables e below (s₁.setTop (mkF m 23 #[.val (.int c1), .val (.int ((8 : Int32) + ((c1 - (16 : Int32)) / (4 : Int32)))), .unset] [(.int c1)])) _
      refine XS.bipush X0.here hx rfl (hb hby d1_23) ?_
      show Steps p.tables e below (s₁.setTop (mkF m 25 #[.val (.int c1), .val (.int ((8 : Int32) + ((c1 - (16 : Int32)) / (4 : Int32)))), .unset] [(.int (16 : Int32)), (.int c1)])) _
      refine XS.isub X0.here hx rfl (hb hby d1_25) rfl ?_
      show Steps p.tables e below (s₁.setTop (mkF m 26 #[.val (.int c1), .val (.int ((8 : Int32) + ((c1 - (16 : Int32)) / (4 : Int32)))), .unset] [(.int (c1 - (16 : Int32)))])) _
      refine XS.iconst X0.here hx rfl (hb hby d1_26) ?_
      show Steps p.tables e below (s₁.setTop (mkF m 27 #[.val (.int c1), .val (.int ((8 : Int32) + ((c1 - (16 : Int32)) / (4 : Int32)))), .unset] [(.int (4 : Int32)), (.int (c1 - (16 : Int32)))])) _
      refine iremM (g := (mkF m 27 #[.val (.int c1), .val (.int ((8 : Int32) + ((c1 - (16 : Int32)) / (4 : Int32)))), .unset] [(.int (4 : Int32)), (.int (c1 - (16 : Int32)))])) X0 hx rfl (hb hby d1_27) rfl (by decide) ?_
      show Steps p.tables e below (s₁.setTop (mkF m 28 #[.val (.int c1), .val (.int ((8 : Int32) + ((c1 - (16 : Int32)) / (4 : Int32)))), .unset] [(.int ((c1 - (16 : Int32)) % (4 : Int32)))])) _
      refine XS.istoreN X0.here hx rfl (hb hby d1_28) rfl (l' := #[.val (.int c1), .val (.int ((8 : Int32) + ((c1 - (16 : Int32)) / (4 : Int32)))), .val (.int ((c1 - (16 : Int32)) % (4 : Int32)))]) rfl ?_
      show Steps p.tables e below (s₁.setTop (mkF m 29 #[.val (.int c1), .val (.int ((8 : Int32) + ((c1 - (16 : Int32)) / (4 : Int32)))), .val (.int ((c1 - (16 : Int32)) % (4 : Int32)))] [])) _
      refine XS.iconst X0.here hx rfl (hb hby d1_29) ?_
      show Steps p.tables e below (s₁.setTop (mkF m 30 #[.val (.int c1), .val (.int ((8 : Int32) + ((c1 - (16 : Int32)) / (4 : Int32)))), .val (.int ((c1 - (16 : Int32)) % (4 : Int32)))] [(.int (5 : Int32))])) _
      refine XS.iloadN X0.here hx rfl (hb hby d1_30) rfl ?_
      show Steps p.tables e below (s₁.setTop (mkF m 31 #[.val (.int c1), .val (.int ((8 : Int32) + ((c1 - (16 : Int32)) / (4 : Int32)))), .val (.int ((c1 - (16 : Int32)) % (4 : Int32)))] [(.int ((c1 - (16 : Int32)) % (4 : Int32))), (.int (5 : Int32))])) _
      refine XS.iadd X0.here hx rfl (hb hby d1_31) rfl ?_
      show Steps p.tables e below (s₁.setTop (mkF m 32 #[.val (.int c1), .val (.int ((8 : Int32) + ((c1 - (16 : Int32)) / (4 : Int32)))), .val (.int ((c1 - (16 : Int32)) % (4 : Int32)))] [(.int ((5 : Int32) + ((c1 - (16 : Int32)) % (4 : Int32))))])) _
      refine XS.iloadN X0.here hx rfl (hb hby d1_32) rfl ?_
      show Steps p.tables e below (s₁.setTop (mkF m 33 #[.val (.int c1), .val (.int ((8 : Int32) + ((c1 - (16 : Int32)) / (4 : Int32)))), .val (.int ((c1 - (16 : Int32)) % (4 : Int32)))] [(.int ((8 : Int32) + ((c1 - (16 : Int32)) / (4 : Int32)))), (.int ((5 : Int32) + ((c1 - (16 : Int32)) % (4 : Int32))))])) _
      refine XS.iconst X0.here hx rfl (hb hby d1_33) ?_
      show Steps p.tables e below (s₁.setTop (mkF m 34 #[.val (.int c1), .val (.int ((8 : Int32) + ((c1 - (16 : Int32)) / (4 : Int32)))), .val (.int ((c1 - (16 : Int32)) % (4 : Int32)))] [(.int (2 : Int32)), (.int ((8 : Int32) + ((c1 - (16 : Int32)) / (4 : Int32)))), (.int ((5 : Int32) + ((c1 - (16 : Int32)) % (4 : Int32))))])) _
      refine XS.isub X0.here hx rfl (hb hby d1_34) rfl ?_
      show Steps p.tables e below (s₁.setTop (mkF m 35 #[.val (.int c1), .val (.int ((8 : Int32) + ((c1 - (16 : Int32)) / (4 : Int32)))), .val (.int ((c1 - (16 : Int32)) % (4 : Int32)))] [(.int (((8 : Int32) + ((c1 - (16 : Int32)) / (4 : Int32))) - (2 : Int32))), (.int ((5 : Int32) + ((c1 - (16 : Int32)) % (4 : Int32))))])) _
      refine XS.ishl X0.here hx rfl (hb hby d1_35) rfl ?_
      show Steps p.tables e below (s₁.setTop (mkF m 36 #[.val (.int c1), .val (.int ((8 : Int32) + ((c1 - (16 : Int32)) / (4 : Int32)))), .val (.int ((c1 - (16 : Int32)) % (4 : Int32)))] [(.int (((5 : Int32) + ((c1 - (16 : Int32)) % (4 : Int32))) <<< ((((8 : Int32) + ((c1 - (16 : Int32)) / (4 : Int32))) - (2 : Int32)) &&& 31)))])) _
      exact retI X0 hx Bd.returns (hb hby d1_36) hr
    · show Q1 Z c1 h0 n0 _ s₁.heap _
      rw [e0]
      unfold Q1
      rw [hv]
      exact ⟨rfl, N0, rfl⟩
set_option maxRecDepth 65536 in
set_option maxHeartbeats 40000000 in
theorem sg_18_33 {p : Program} {l : Launch} {e : Env} {R : Room} {s : State} {m : MethodId} {args : Array Value} {below : List Frame} {meth : Method} {c : Code} {T0 : State} {locs : List Loc} {cells slots : Nat} {Z : State} {a0 : Array Value} (z k : Int32) (X0 : Stand p l e R s m args below meth c T0 locs cells slots) (hx : p.tables.exec = Jvm.exec) (hZ : Z.Warmed39 s.vm) (hw : ∀ d ∈ tables_1, d.before a0 Z = true) (hby : c.code = jdk_33_method_47_code) (hown : s.vm.findClass "java/lang/Integer" = some m.cls) :
    ∀ target, Steps p.tables e below (T0.setTop (mkF m 33 #[.val (.int (own_sx (65536 : Int32) (16 : Int32) z)), .val (.int (own_sk (65536 : Int32) (-16 : Int32) z k))] [])) target → Steps p.tables e below (T0.setTop (mkF m 18 #[.val (.int z), .val (.int k)] [])) target := by
  intro target kt
  have kt : ∀ u v : Int32, own_sx (65536 : Int32) (16 : Int32) z = u → own_sk (65536 : Int32) (-16 : Int32) z k = v → Steps p.tables e below (T0.setTop (mkF m 33 #[.val (.int u), .val (.int v)] [])) target := fun u v h1 h2 => h1 ▸ h2 ▸ kt
  by_cases h1 : z < (65536 : Int32)
  · show Steps p.tables e below (T0.setTop (mkF m 18 #[.val (.int z), .val (.int k)] [])) _
    refine XS.iloadN X0.here hx rfl (hb hby d3_18) rfl ?_
    show Steps p.tables e below (T0.setTop (mkF m 19 #[.val (.int z), .val (.int k)] [(.int z)])) _
    refine X0.ldcwInt hx hown (mvT hZ (hw _ (List.mem_of_getElem? (i := 12) rfl))) (g := (mkF m 19 #[.val (.int z), .val (.int k)] [(.int z)])) rfl (hb hby d3_19) _ ?_
    show Steps p.tables e below (T0.setTop (mkF m 22 #[.val (.int z), .val (.int k)] [(.int (65536 : Int32)), (.int z)])) _
    refine XS.icmpYes X0.here hx rfl (pc0 := 22) (pc' := 33) rfl (hb hby d3_22) rfl (tlt (h1 : z < (65536 : Int32))).1 (by decide) (by decide) ?_
    show Steps p.tables e below (T0.setTop (mkF m 33 #[.val (.int z), .val (.int k)] [])) _
    exact kt _ _ (by unfold own_sx; rw [if_pos h1]) (by unfold own_sk; rw [if_pos h1])
  · show Steps p.tables e below (T0.setTop (mkF m 18 #[.val (.int z), .val (.int k)] [])) _
    refine XS.iloadN X0.here hx rfl (hb hby d3_18) rfl ?_
    show Steps p.tables e below (T0.setTop (mkF m 19 #[.val (.int z), .val (.int k)] [(.int z)])) _
    refine X0.ldcwInt hx hown (mvT hZ (hw _ (List.mem_of_getElem? (i := 12) rfl))) (g := (mkF m 19 #[.val (.int z), .val (.int k)] [(.int z)])) rfl (hb hby d3_19) _ ?_
    show Steps p.tables e below (T0.setTop (mkF m 22 #[.val (.int z), .val (.int k)] [(.int (65536 : Int32)), (.int z)])) _
    refine XS.icmpNo X0.here hx rfl (hb hby d3_22) rfl (flt (h1 : ¬ (z < (65536 : Int32)))).1 ?_
    show Steps p.tables e below (T0.setTop (mkF m 25 #[.val (.int z), .val (.int k)] [])) _
    refine XS.iinc X0.here hx rfl (hb hby d3_25) rfl (l' := #[.val (.int z), .val (.int (k + (-16 : Int32)))]) rfl ?_
    show Steps p.tables e below (T0.setTop (mkF m 28 #[.val (.int z), .val (.int (k + (-16 : Int32)))] [])) _
    refine XS.iloadN X0.here hx rfl (hb hby d3_28) rfl ?_
    show Steps p.tables e below (T0.setTop (mkF m 29 #[.val (.int z), .val (.int (k + (-16 : Int32)))] [(.int z)])) _
    refine XS.bipush X0.here hx rfl (hb hby d3_29) ?_
    show Steps p.tables e below (T0.setTop (mkF m 31 #[.val (.int z), .val (.int (k + (-16 : Int32)))] [(.int (16 : Int32)), (.int z)])) _
    refine XS.iushr X0.here hx rfl (hb hby d3_31) rfl ?_
    show Steps p.tables e below (T0.setTop (mkF m 32 #[.val (.int z), .val (.int (k + (-16 : Int32)))] [(.int ((z.toUInt32 >>> ((16 : Int32) &&& 31).toUInt32).toInt32))])) _
    refine XS.istoreN X0.here hx rfl (hb hby d3_32) rfl (l' := #[.val (.int ((z.toUInt32 >>> ((16 : Int32) &&& 31).toUInt32).toInt32)), .val (.int (k + (-16 : Int32)))]) rfl ?_
    show Steps p.tables e below (T0.setTop (mkF m 33 #[.val (.int ((z.toUInt32 >>> ((16 : Int32) &&& 31).toUInt32).toInt32)), .val (.int (k + (-16 : Int32)))] [])) _
    exact kt _ _ (by unfold own_sx; rw [if_neg h1]) (by unfold own_sk; rw [if_neg h1])
set_option maxRecDepth 65536 in
set_option maxHeartbeats 40000000 in
theorem sg_33_48 {p : Program} {l : Launch} {e : Env} {R : Room} {s : State} {m : MethodId} {args : Array Value} {below : List Frame} {meth : Method} {c : Code} {T0 : State} {locs : List Loc} {cells slots : Nat} {Z : State} {a0 : Array Value} (z k : Int32) (X0 : Stand p l e R s m args below meth c T0 locs cells slots) (hx : p.tables.exec = Jvm.exec) (hZ : Z.Warmed39 s.vm) (hw : ∀ d ∈ tables_1, d.before a0 Z = true) (hby : c.code = jdk_33_method_47_code) (hown : s.vm.findClass "java/lang/Integer" = some m.cls) :
    ∀ target, Steps p.tables e below (T0.setTop (mkF m 48 #[.val (.int (own_sx (256 : Int32) (8 : Int32) z)), .val (.int (own_sk (256 : Int32) (-8 : Int32) z k))] [])) target → Steps p.tables e below (T0.setTop (mkF m 33 #[.val (.int z), .val (.int k)] [])) target := by
  intro target kt
  have kt : ∀ u v : Int32, own_sx (256 : Int32) (8 : Int32) z = u → own_sk (256 : Int32) (-8 : Int32) z k = v → Steps p.tables e below (T0.setTop (mkF m 48 #[.val (.int u), .val (.int v)] [])) target := fun u v h1 h2 => h1 ▸ h2 ▸ kt
  by_cases h1 : z < (256 : Int32)
  · show Steps p.tables e below (T0.setTop (mkF m 33 #[.val (.int z), .val (.int k)] [])) _
    refine XS.iloadN X0.here hx rfl (hb hby d3_33) rfl ?_
    show Steps p.tables e below (T0.setTop (mkF m 34 #[.val (.int z), .val (.int k)] [(.int z)])) _
    refine XS.sipush X0.here hx rfl (hb hby d3_34) ?_
    show Steps p.tables e below (T0.setTop (mkF m 37 #[.val (.int z), .val (.int k)] [(.int (256 : Int32)), (.int z)])) _
    refine XS.icmpYes X0.here hx rfl (pc0 := 37) (pc' := 48) rfl (hb hby d3_37) rfl (tlt (h1 : z < (256 : Int32))).1 (by decide) (by decide) ?_
    show Steps p.tables e below (T0.setTop (mkF m 48 #[.val (.int z), .val (.int k)] [])) _
    exact kt _ _ (by unfold own_sx; rw [if_pos h1]) (by unfold own_sk; rw [if_pos h1])
  · show Steps p.tables e below (T0.setTop (mkF m 33 #[.val (.int z), .val (.int k)] [])) _
    refine XS.iloadN X0.here hx rfl (hb hby d3_33) rfl ?_
    show Steps p.tables e below (T0.setTop (mkF m 34 #[.val (.int z), .val (.int k)] [(.int z)])) _
    refine XS.sipush X0.here hx rfl (hb hby d3_34) ?_
    show Steps p.tables e below (T0.setTop (mkF m 37 #[.val (.int z), .val (.int k)] [(.int (256 : Int32)), (.int z)])) _
    refine XS.icmpNo X0.here hx rfl (hb hby d3_37) rfl (flt (h1 : ¬ (z < (256 : Int32)))).1 ?_
    show Steps p.tables e below (T0.setTop (mkF m 40 #[.val (.int z), .val (.int k)] [])) _
    refine XS.iinc X0.here hx rfl (hb hby d3_40) rfl (l' := #[.val (.int z), .val (.int (k + (-8 : Int32)))]) rfl ?_
    show Steps p.tables e below (T0.setTop (mkF m 43 #[.val (.int z), .val (.int (k + (-8 : Int32)))] [])) _
    refine XS.iloadN X0.here hx rfl (hb hby d3_43) rfl ?_
    show Steps p.tables e below (T0.setTop (mkF m 44 #[.val (.int z), .val (.int (k + (-8 : Int32)))] [(.int z)])) _
    refine XS.bipush X0.here hx rfl (hb hby d3_44) ?_
    show Steps p.tables e below (T0.setTop (mkF m 46 #[.val (.int z), .val (.int (k + (-8 : Int32)))] [(.int (8 : Int32)), (.int z)])) _
    refine XS.iushr X0.here hx rfl (hb hby d3_46) rfl ?_
    show Steps p.tables e below (T0.setTop (mkF m 47 #[.val (.int z), .val (.int (k + (-8 : Int32)))] [(.int ((z.toUInt32 >>> ((8 : Int32) &&& 31).toUInt32).toInt32))])) _
    refine XS.istoreN X0.here hx rfl (hb hby d3_47) rfl (l' := #[.val (.int ((z.toUInt32 >>> ((8 : Int32) &&& 31).toUInt32).toInt32)), .val (.int (k + (-8 : Int32)))]) rfl ?_
    show Steps p.tables e below (T0.setTop (mkF m 48 #[.val (.int ((z.toUInt32 >>> ((8 : Int32) &&& 31).toUInt32).toInt32)), .val (.int (k + (-8 : Int32)))] [])) _
    exact kt _ _ (by unfold own_sx; rw [if_neg h1]) (by unfold own_sk; rw [if_neg h1])
set_option maxRecDepth 65536 in
set_option maxHeartbeats 40000000 in
theorem sg_48_61 {p : Program} {l : Launch} {e : Env} {R : Room} {s : State} {m : MethodId} {args : Array Value} {below : List Frame} {meth : Method} {c : Code} {T0 : State} {locs : List Loc} {cells slots : Nat} {Z : State} {a0 : Array Value} (z k : Int32) (X0 : Stand p l e R s m args below meth c T0 locs cells slots) (hx : p.tables.exec = Jvm.exec) (hZ : Z.Warmed39 s.vm) (hw : ∀ d ∈ tables_1, d.before a0 Z = true) (hby : c.code = jdk_33_method_47_code) (hown : s.vm.findClass "java/lang/Integer" = some m.cls) :
    ∀ target, Steps p.tables e below (T0.setTop (mkF m 61 #[.val (.int (own_sx (16 : Int32) (4 : Int32) z)), .val (.int (own_sk (16 : Int32) (-4 : Int32) z k))] [])) target → Steps p.tables e below (T0.setTop (mkF m 48 #[.val (.int z), .val (.int k)] [])) target := by
  intro target kt
  have kt : ∀ u v : Int32, own_sx (16 : Int32) (4 : Int32) z = u → own_sk (16 : Int32) (-4 : Int32) z k = v → Steps p.tables e below (T0.setTop (mkF m 61 #[.val (.int u), .val (.int v)] [])) target := fun u v h1 h2 => h1 ▸ h2 ▸ kt
  by_cases h1 : z < (16 : Int32)
  · show Steps p.tables e below (T0.setTop (mkF m 48 #[.val (.int z), .val (.int k)] [])) _
    refine XS.iloadN X0.here hx rfl (hb hby d3_48) rfl ?_
    show Steps p.tables e below (T0.setTop (mkF m 49 #[.val (.int z), .val (.int k)] [(.int z)])) _
    refine XS.bipush X0.here hx rfl (hb hby d3_49) ?_
    show Steps p.tables e below (T0.setTop (mkF m 51 #[.val (.int z), .val (.int k)] [(.int (16 : Int32)), (.int z)])) _
    refine XS.icmpYes X0.here hx rfl (pc0 := 51) (pc' := 61) rfl (hb hby d3_51) rfl (tlt (h1 : z < (16 : Int32))).1 (by decide) (by decide) ?_
    show Steps p.tables e below (T0.setTop (mkF m 61 #[.val (.int z), .val (.int k)] [])) _
    exact kt _ _ (by unfold own_sx; rw [if_pos h1]) (by unfold own_sk; rw [if_pos h1])
  · show Steps p.tables e below (T0.setTop (mkF m 48 #[.val (.int z), .val (.int k)] [])) _
    refine XS.iloadN X0.here hx rfl (hb hby d3_48) rfl ?_
    show Steps p.tables e below (T0.setTop (mkF m 49 #[.val (.int z), .val (.int k)] [(.int z)])) _
    refine XS.bipush X0.here hx rfl (hb hby d3_49) ?_
    show Steps p.tables e below (T0.setTop (mkF m 51 #[.val (.int z), .val (.int k)] [(.int (16 : Int32)), (.int z)])) _
    refine XS.icmpNo X0.here hx rfl (hb hby d3_51) rfl (flt (h1 : ¬ (z < (16 : Int32)))).1 ?_
    show Steps p.tables e below (T0.setTop (mkF m 54 #[.val (.int z), .val (.int k)] [])) _
    refine XS.iinc X0.here hx rfl (hb hby d3_54) rfl (l' := #[.val (.int z), .val (.int (k + (-4 : Int32)))]) rfl ?_
    show Steps p.tables e below (T0.setTop (mkF m 57 #[.val (.int z), .val (.int (k + (-4 : Int32)))] [])) _
    refine XS.iloadN X0.here hx rfl (hb hby d3_57) rfl ?_
    show Steps p.tables e below (T0.setTop (mkF m 58 #[.val (.int z), .val (.int (k + (-4 : Int32)))] [(.int z)])) _
    refine XS.iconst X0.here hx rfl (hb hby d3_58) ?_
    show Steps p.tables e below (T0.setTop (mkF m 59 #[.val (.int z), .val (.int (k + (-4 : Int32)))] [(.int (4 : Int32)), (.int z)])) _
    refine XS.iushr X0.here hx rfl (hb hby d3_59) rfl ?_
    show Steps p.tables e below (T0.setTop (mkF m 60 #[.val (.int z), .val (.int (k + (-4 : Int32)))] [(.int ((z.toUInt32 >>> ((4 : Int32) &&& 31).toUInt32).toInt32))])) _
    refine XS.istoreN X0.here hx rfl (hb hby d3_60) rfl (l' := #[.val (.int ((z.toUInt32 >>> ((4 : Int32) &&& 31).toUInt32).toInt32)), .val (.int (k + (-4 : Int32)))]) rfl ?_
    show Steps p.tables e below (T0.setTop (mkF m 61 #[.val (.int ((z.toUInt32 >>> ((4 : Int32) &&& 31).toUInt32).toInt32)), .val (.int (k + (-4 : Int32)))] [])) _
    exact kt _ _ (by unfold own_sx; rw [if_neg h1]) (by unfold own_sk; rw [if_neg h1])
set_option maxRecDepth 65536 in
set_option maxHeartbeats 40000000 in
theorem sg_61_73 {p : Program} {l : Launch} {e : Env} {R : Room} {s : State} {m : MethodId} {args : Array Value} {below : List Frame} {meth : Method} {c : Code} {T0 : State} {locs : List Loc} {cells slots : Nat} {Z : State} {a0 : Array Value} (z k : Int32) (X0 : Stand p l e R s m args below meth c T0 locs cells slots) (hx : p.tables.exec = Jvm.exec) (hZ : Z.Warmed39 s.vm) (hw : ∀ d ∈ tables_1, d.before a0 Z = true) (hby : c.code = jdk_33_method_47_code) (hown : s.vm.findClass "java/lang/Integer" = some m.cls) :
    ∀ target, Steps p.tables e below (T0.setTop (mkF m 73 #[.val (.int (own_sx (4 : Int32) (2 : Int32) z)), .val (.int (own_sk (4 : Int32) (-2 : Int32) z k))] [])) target → Steps p.tables e below (T0.setTop (mkF m 61 #[.val (.int z), .val (.int k)] [])) target := by
  intro target kt
  have kt : ∀ u v : Int32, own_sx (4 : Int32) (2 : Int32) z = u → own_sk (4 : Int32) (-2 : Int32) z k = v → Steps p.tables e below (T0.setTop (mkF m 73 #[.val (.int u), .val (.int v)] [])) target := fun u v h1 h2 => h1 ▸ h2 ▸ kt
  by_cases h1 : z < (4 : Int32)
  · show Steps p.tables e below (T0.setTop (mkF m 61 #[.val (.int z), .val (.int k)] [])) _
    refine XS.iloadN X0.here hx rfl (hb hby d3_61) rfl ?_
    show Steps p.tables e below (T0.setTop (mkF m 62 #[.val (.int z), .val (.int k)] [(.int z)])) _
    refine XS.iconst X0.here hx rfl (hb hby d3_62) ?_
    show Steps p.tables e below (T0.setTop (mkF m 63 #[.val (.int z), .val (.int k)] [(.int (4 : Int32)), (.int z)])) _
    refine XS.icmpYes X0.here hx rfl (pc0 := 63) (pc' := 73) rfl (hb hby d3_63) rfl (tlt (h1 : z < (4 : Int32))).1 (by decide) (by decide) ?_
    show Steps p.tables e below (T0.setTop (mkF m 73 #[.val (.int z), .val (.int k)] [])) _
    exact kt _ _ (by unfold own_sx; rw [if_pos h1]) (by unfold own_sk; rw [if_pos h1])
  · show Steps p.tables e below (T0.setTop (mkF m 61 #[.val (.int z), .val (.int k)] [])) _
    refine XS.iloadN X0.here hx rfl (hb hby d3_61) rfl ?_
    show Steps p.tables e below (T0.setTop (mkF m 62 #[.val (.int z), .val (.int k)] [(.int z)])) _
    refine XS.iconst X0.here hx rfl (hb hby d3_62) ?_
    show Steps p.tables e below (T0.setTop (mkF m 63 #[.val (.int z), .val (.int k)] [(.int (4 : Int32)), (.int z)])) _
    refine XS.icmpNo X0.here hx rfl (hb hby d3_63) rfl (flt (h1 : ¬ (z < (4 : Int32)))).1 ?_
    show Steps p.tables e below (T0.setTop (mkF m 66 #[.val (.int z), .val (.int k)] [])) _
    refine XS.iinc X0.here hx rfl (hb hby d3_66) rfl (l' := #[.val (.int z), .val (.int (k + (-2 : Int32)))]) rfl ?_
    show Steps p.tables e below (T0.setTop (mkF m 69 #[.val (.int z), .val (.int (k + (-2 : Int32)))] [])) _
    refine XS.iloadN X0.here hx rfl (hb hby d3_69) rfl ?_
    show Steps p.tables e below (T0.setTop (mkF m 70 #[.val (.int z), .val (.int (k + (-2 : Int32)))] [(.int z)])) _
    refine XS.iconst X0.here hx rfl (hb hby d3_70) ?_
    show Steps p.tables e below (T0.setTop (mkF m 71 #[.val (.int z), .val (.int (k + (-2 : Int32)))] [(.int (2 : Int32)), (.int z)])) _
    refine XS.iushr X0.here hx rfl (hb hby d3_71) rfl ?_
    show Steps p.tables e below (T0.setTop (mkF m 72 #[.val (.int z), .val (.int (k + (-2 : Int32)))] [(.int ((z.toUInt32 >>> ((2 : Int32) &&& 31).toUInt32).toInt32))])) _
    refine XS.istoreN X0.here hx rfl (hb hby d3_72) rfl (l' := #[.val (.int ((z.toUInt32 >>> ((2 : Int32) &&& 31).toUInt32).toInt32)), .val (.int (k + (-2 : Int32)))]) rfl ?_
    show Steps p.tables e below (T0.setTop (mkF m 73 #[.val (.int ((z.toUInt32 >>> ((2 : Int32) &&& 31).toUInt32).toInt32)), .val (.int (k + (-2 : Int32)))] [])) _
    exact kt _ _ (by unfold own_sx; rw [if_neg h1]) (by unfold own_sk; rw [if_neg h1])
theorem ef_3 (m : MethodId) (x0 : Int32) : entryFrame m #[(.int x0)] 2 = mkF m 0 #[.val (.int x0), .unset] [] := by first | (simp [entryFrame, mkF, argsToLocals, Value.category]; done) | rfl
theorem pn_3 : plainName "java/lang/Integer" = true := by first | (simp [plainName, overriddenIn]; done) | decide +kernel
def Q2 (Z : State) (z : Int32) (h0 : Heap) (n0 : Nat) (rv : Option Value) (h : Heap) (Lq : List Loc) : Prop := rv = some (.int (own_nlz z)) ∧ Fr n0 Lq ∧ h = h0
set_option maxRecDepth 65536 in
set_option maxHeartbeats 40000000 in
theorem rm2 (l : Launch) (Z : State) (a0 : Array Value) (hw : ∀ d ∈ tables_1, d.before a0 Z = true) (ws : List Jvm.Cond) (z : Int32) (h0 : Heap) (n0 : Nat) (Z0 : n0 ≤ h0.size) (hz : (0 : Int32) < z) :
    MetFree l (⟨"java/lang/Integer", "numberOfLeadingZeros", "(I)I"⟩ : MethodName) (head1 (Jvm.Cond.code (⟨"java/lang/Integer", "numberOfLeadingZeros", "(I)I"⟩ : MethodName) jdk_33_method_47_code 2 (some .int) :: ws) ({ frames := 0, cells := 0, slots := 0, locals := 0 } : Room)) (fun xx U => xx = #[(.int z)] ∧ Z.Warmed39 U.vm ∧ U.heap = h0) (fun _ _ _ _ _ => True) (fun _ U o U' => ∃ rv Lq, o = .returned rv ∧ Q2 Z z h0 n0 rv U'.heap Lq ∧ FrameEnd U o U' Lq ({ frames := 0, cells := 0, slots := 0, locals := 0 } : Room).cells ({ frames := 0, cells := 0, slots := 0, locals := 0 } : Room).slots) := by
  refine MetFree.of_bodySF (plainFor_of_name pn_3) hisR ?_
  intro p e s m args below meth c s₁ Bd hml0 hP hK
  obtain ⟨rfl, hZ, hh⟩ := hP
  have hx := Bd.exec
  have hby := Bd.bytes
  have hml : c.maxLocals = 2 := hml0
  have hown : s.vm.findClass "java/lang/Integer" = some m.cls := findClass_of_methodNamed Bd.named
  have hnm := (name_of_methodNamed Bd.named Bd.method).1
  have X0 : Stand p l e ({ frames := 0, cells := 0, slots := 0, locals := 0 } : Room) s m #[(.int z)] below meth c s₁ [] 0 0 := Stand.of_body Bd
  have e0 : s₁.heap = h0 := by rw [← hh, Bd.state]; rfl
  have N0 := Fr.nil n0
  have pre0 : ∀ t, Steps p.tables e below (s₁.setTop (mkF m 0 #[.val (.int z), .unset] [])) t → Steps p.tables e below (s₁.setTop (entryFrame m #[(.int z)] 2)) t := fun t k => castTop (ef_3 m z) k
  obtain ⟨fs, hr, hrun, hended, hW, hsame⟩ := X0.leave (v := some (.int ((own_k4 z) - (((own_x4 z).toUInt32 >>> ((1 : Int32) &&& 31).toUInt32).toInt32)))) (fun h => by rw [Bd.returns] at h; cases h)
  refine ⟨_, _, pre0 _ ?_, hrun, hended, _, _, rfl, ?_, ⟨_, rfl⟩, hW, hsame.mono (by decide) (by decide)⟩
  · show Steps p.tables e below (s₁.setTop (mkF m 0 #[.val (.int z), .unset] [])) _
    refine XS.iloadN X0.here hx rfl (hb hby d3_0) rfl ?_
    show Steps p.tables e below (s₁.setTop (mkF m 1 #[.val (.int z), .unset] [(.int z)])) _
    refine XS.ifYes X0.here hx rfl (pc0 := 1) (pc' := 15) rfl (hb hby d3_1) rfl ((if0 _ _).trans (tlt (hz : (0 : Int32) < z)).2.2.1) (by decide) (by decide) ?_
    show Steps p.tables e below (s₁.setTop (mkF m 15 #[.val (.int z), .unset] [])) _
    refine XS.bipush X0.here hx rfl (hb hby d3_15) ?_
    show Steps p.tables e below (s₁.setTop (mkF m 17 #[.val (.int z), .unset] [(.int (31 : Int32))])) _
    refine XS.istoreN X0.here hx rfl (hb hby d3_17) rfl (l' := #[.val (.int z), .val (.int (31 : Int32))]) rfl ?_
    show Steps p.tables e below (s₁.setTop (mkF m 18 #[.val (.int z), .val (.int (31 : Int32))] [])) _
    refine sg_18_33 z (31 : Int32) X0 hx hZ hw hby hown _ ?_
    show Steps p.tables e below (s₁.setTop (mkF m 33 #[.val (.int (own_x1 z)), .val (.int (own_k1 z))] [])) _
    refine sg_33_48 (own_x1 z) (own_k1 z) X0 hx hZ hw hby hown _ ?_
    show Steps p.tables e below (s₁.setTop (mkF m 48 #[.val (.int (own_x2 z)), .val (.int (own_k2 z))] [])) _
    refine sg_48_61 (own_x2 z) (own_k2 z) X0 hx hZ hw hby hown _ ?_
    show Steps p.tables e below (s₁.setTop (mkF m 61 #[.val (.int (own_x3 z)), .val (.int (own_k3 z))] [])) _
    refine sg_61_73 (own_x3 z) (own_k3 z) X0 hx hZ hw hby hown _ ?_
    show Steps p.tables e below (s₁.setTop (mkF m 73 #[.val (.int (own_x4 z)), .val (.int (own_k4 z))] [])) _
    refine XS.iloadN X0.here hx rfl (hb hby d3_73) rfl ?_
    show Steps p.tables e below (s₁.setTop (mkF m 74 #[.val (.int (own_x4 z)), .val (.int (own_k4 z))] [(.int (own_k4 z))])) _
    refine XS.iloadN X0.here hx rfl (hb hby d3_74) rfl ?_
    show Steps p.tables e below (s₁.setTop (mkF m 75 #[.val (.int (own_x4 z)), .val (.int (own_k4 z))] [(.int (own_x4 z)), (.int (own_k4 z))])) _
    refine XS.iconst X0.here hx rfl (hb hby d3_75) ?_
    show Steps p.tables e below (s₁.setTop (mkF m 76 #[.val (.int (own_x4 z)), .val (.int (own_k4 z))] [(.int (1 : Int32)), (.int (own_x4 z)), (.int (own_k4 z))])) _
    refine XS.iushr X0.here hx rfl (hb hby d3_76) rfl ?_
    show Steps p.tables e below (s₁.setTop (mkF m 77 #[.val (.int (own_x4 z)), .val (.int (own_k4 z))] [(.int (((own_x4 z).toUInt32 >>> ((1 : Int32) &&& 31).toUInt32).toInt32)), (.int (own_k4 z))])) _
    refine XS.isub X0.here hx rfl (hb hby d3_77) rfl ?_
    show Steps p.tables e below (s₁.setTop (mkF m 78 #[.val (.int (own_x4 z)), .val (.int (own_k4 z))] [(.int ((own_k4 z) - (((own_x4 z).toUInt32 >>> ((1 : Int32) &&& 31).toUInt32).toInt32)))])) _
    exact retI X0 hx Bd.returns (hb hby d3_78) hr
  · show Q2 Z z h0 n0 _ s₁.heap _
    rw [e0]
    exact ⟨rfl, N0, rfl⟩
theorem ef_2 (m : MethodId) (x0 : Int32) : entryFrame m #[(.int x0)] 3 = mkF m 0 #[.val (.int x0), .unset, .unset] [] := by first | (simp [entryFrame, mkF, argsToLocals, Value.category]; done) | rfl
theorem pn_2 : plainName "com/example/stratavault/stratavault/storage/Allocator" = true := by first | (simp [plainName, overriddenIn]; done) | decide +kernel
def Q3 (Z : State) (z : Int32) (h0 : Heap) (n0 : Nat) (rv : Option Value) (h : Heap) (Lq : List Loc) : Prop := rv = some (.int (own_sc z)) ∧ Fr n0 Lq ∧ h = h0
set_option maxRecDepth 65536 in
set_option maxHeartbeats 40000000 in
theorem rm3 (l : Launch) (Z : State) (a0 : Array Value) (hw : ∀ d ∈ tables_1, d.before a0 Z = true) (ws : List Jvm.Cond) (z : Int32) (h0 : Heap) (n0 : Nat) (Z0 : n0 ≤ h0.size) (hz1 : ¬ (z < (1 : Int32))) (hz2 : ¬ ((1048576 : Int32) < z)) :
    MetFree l (⟨"com/example/stratavault/stratavault/storage/Allocator", "sizeClass", "(I)I"⟩ : MethodName) (head1 (Jvm.Cond.code (⟨"com/example/stratavault/stratavault/storage/Allocator", "sizeClass", "(I)I"⟩ : MethodName) prog_36_method_7_code 3 (some .int) :: ws) ({ frames := 1, cells := 0, slots := 0, locals := 14 } : Room)) (fun xx U => xx = #[(.int z)] ∧ Z.Warmed39 U.vm ∧ U.heap = h0) (fun _ _ _ _ _ => True) (fun _ U o U' => ∃ rv Lq, o = .returned rv ∧ Q3 Z z h0 n0 rv U'.heap Lq ∧ FrameEnd U o U' Lq ({ frames := 1, cells := 0, slots := 0, locals := 14 } : Room).cells ({ frames := 1, cells := 0, slots := 0, locals := 14 } : Room).slots) := by
  refine MetFree.of_bodySF (plainFor_of_name pn_2) hisR ?_
  intro p e s m args below meth c s₁ Bd hml0 hP hK
  obtain ⟨rfl, hZ, hh⟩ := hP
  have hx := Bd.exec
  have hby := Bd.bytes
  have hml : c.maxLocals = 3 := hml0
  have hown : s.vm.findClass "com/example/stratavault/stratavault/storage/Allocator" = some m.cls := findClass_of_methodNamed Bd.named
  have hnm := (name_of_methodNamed Bd.named Bd.method).1
  have X0 : Stand p l e ({ frames := 1, cells := 0, slots := 0, locals := 14 } : Room) s m #[(.int z)] below meth c s₁ [] 0 0 := Stand.of_body Bd
  have e0 : s₁.heap = h0 := by rw [← hh, Bd.state]; rfl
  have N0 := Fr.nil n0
  have pre0 : ∀ t, Steps p.tables e below (s₁.setTop (mkF m 0 #[.val (.int z), .unset, .unset] [])) t → Steps p.tables e below (s₁.setTop (entryFrame m #[(.int z)] 3)) t := fun t k => castTop (ef_2 m z) k
  by_cases h1 : (256 : Int32) < z
  · have hz3 : (0 : Int32) < z - (1 : Int32) := by
      have a := c_isub z (1 : Int32); have b := rng32 z; have d := rng32 (z - (1 : Int32)); rw [Int32.lt_iff_toInt_lt] at h1 ⊢
      have e1 : (1 : Int32).toInt = 1 := rfl; have e2 : (256 : Int32).toInt = 256 := rfl; have e3 : (0 : Int32).toInt = 0 := rfl
      omega
    have hv : own_sc z = ((((16 : Int32) + ((((31 : Int32) - own_nlz (z - (1 : Int32))) - (8 : Int32)) * (4 : Int32))) + (((z - (1 : Int32)).toUInt32 >>> ((((31 : Int32) - own_nlz (z - (1 : Int32))) - (2 : Int32)) &&& 31).toUInt32).toInt32)) - (4 : Int32)) := by unfold own_sc; rw [if_pos h1]
    obtain ⟨_, _, ⟨T1, L1, k1, n1⟩, -, X1, ⟨Lc1, hQ1, l1, y1, z1⟩, st1⟩ := Jvm.LawKit.callS X0 hx (y := (⟨"java/lang/Integer", "numberOfLeadingZeros", "(I)I"⟩ : MethodName)) hown (mvT hZ (hw _ (List.mem_of_getElem? (i := 8) rfl))) (mvT hZ (hw _ (List.mem_of_getElem? (i := 9) rfl))) (mvT hZ (hw _ (List.mem_of_getElem? (i := 10) rfl))) (mvT hZ (hw _ (List.mem_of_getElem? (i := 11) rfl))) (by decide) (backOf (W := 1) (rm2 l Z a0 hw [] (z - (1 : Int32)) h0 n0 Z0 hz3) hZ (hw _ (List.mem_of_getElem? (i := 11) rfl)) (hw _ (List.mem_of_getElem? (i := 10) rfl)) (by decide) (by decide)) (g := (mkF m 43 #[.val (.int z), .unset, .unset] [(.int (z - (1 : Int32))), (.int (31 : Int32))])) rfl (by rw [hml]; rfl) (argsL := [(.int (z - (1 : Int32)))]) (rest := [(.int (31 : Int32))]) (lenOf pdx_0 rfl) rfl (by show 2 * 0 + _ ≤ _; exact Nat.le_of_eq rfl) (hb hby d2_43) (fun _ _ => ⟨rfl, e0, (by decide : 0 + 0 ≤ _), (by decide : 0 + 0 ≤ _)⟩)
    dsimp only [Pt.U, Pt.locs, Pt.cells, Pt.slots] at X1 l1 y1 z1 st1 hQ1
    subst l1 y1 z1
    obtain ⟨rfl, N1q, e1⟩ := hQ1
    have N1 := Fr.app N0 N1q
    obtain ⟨fs, hr, hrun, hended, hW, hsame⟩ := X1.leave (v := some (.int ((((16 : Int32) + ((((31 : Int32) - (own_nlz (z - (1 : Int32)))) - (8 : Int32)) * (4 : Int32))) + (((z - (1 : Int32)).toUInt32 >>> ((((31 : Int32) - (own_nlz (z - (1 : Int32)))) - (2 : Int32)) &&& 31).toUInt32).toInt32)) - (4 : Int32)))) (fun h => by rw [Bd.returns] at h; cases h)
    refine ⟨_, _, pre0 _ ?_, hrun, hended, _, _, rfl, ?_, ⟨_, rfl⟩, hW, hsame.mono (by decide) (by decide)⟩
    · show Steps p.tables e below (s₁.setTop (mkF m 0 #[.val (.int z), .unset, .unset] [])) _
      refine XS.iloadN X0.here hx rfl (hb hby d2_0) rfl ?_
      show Steps p.tables e below (s₁.setTop (mkF m 1 #[.val (.int z), .unset, .unset] [(.int z)])) _
      refine XS.iconst X0.here hx rfl (hb hby d2_1) ?_
      show Steps p.tables e below (s₁.setTop (mkF m 2 #[.val (.int z), .unset, .unset] [(.int (1 : Int32)), (.int z)])) _
      refine XS.icmpNo X0.here hx rfl (hb hby d2_2) rfl (flt (hz1 : ¬ (z < (1 : Int32)))).1 ?_
      show Steps p.tables e below (s₁.setTop (mkF m 5 #[.val (.int z), .unset, .unset] [])) _
      refine XS.iloadN X0.here hx rfl (hb hby d2_5) rfl ?_
      show Steps p.tables e below (s₁.setTop (mkF m 6 #[.val (.int z), .unset, .unset] [(.int z)])) _
      refine X0.ldcInt hx hown (mvT hZ (hw _ (List.mem_of_getElem? (i := 7) rfl))) (g := (mkF m 6 #[.val (.int z), .unset, .unset] [(.int z)])) rfl (hb hby d2_6) _ ?_
      show Steps p.tables e below (s₁.setTop (mkF m 8 #[.val (.int z), .unset, .unset] [(.int (1048576 : Int32)), (.int z)])) _
      refine XS.icmpYes X0.here hx rfl (pc0 := 8) (pc' := 25) rfl (hb hby d2_8) rfl (flt (hz2 : ¬ ((1048576 : Int32) < z))).2.2.2 (by decide) (by decide) ?_
      show Steps p.tables e below (s₁.setTop (mkF m 25 #[.val (.int z), .unset, .unset] [])) _
      refine XS.iloadN X0.here hx rfl (hb hby d2_25) rfl ?_
      show Steps p.tables e below (s₁.setTop (mkF m 26 #[.val (.int z), .unset, .unset] [(.int z)])) _
      refine XS.sipush X0.here hx rfl (hb hby d2_26) ?_
      show Steps p.tables e below (s₁.setTop (mkF m 29 #[.val (.int z), .unset, .unset] [(.int (256 : Int32)), (.int z)])) _
      refine XS.icmpYes X0.here hx rfl (pc0 := 29) (pc' := 38) rfl (hb hby d2_29) rfl (tlt (h1 : (256 : Int32) < z)).2.2.1 (by decide) (by decide) ?_
      show Steps p.tables e below (s₁.setTop (mkF m 38 #[.val (.int z), .unset, .unset] [])) _
      refine XS.bipush X0.here hx rfl (hb hby d2_38) ?_
      show Steps p.tables e below (s₁.setTop (mkF m 40 #[.val (.int z), .unset, .unset] [(.int (31 : Int32))])) _
      refine XS.iloadN X0.here hx rfl (hb hby d2_40) rfl ?_
      show Steps p.tables e below (s₁.setTop (mkF m 41 #[.val (.int z), .unset, .unset] [(.int z), (.int (31 : Int32))])) _
      refine XS.iconst X0.here hx rfl (hb hby d2_41) ?_
      show Steps p.tables e below (s₁.setTop (mkF m 42 #[.val (.int z), .unset, .unset] [(.int (1 : Int32)), (.int z), (.int (31 : Int32))])) _
      refine XS.isub X0.here hx rfl (hb hby d2_42) rfl ?_
      show Steps p.tables e below (s₁.setTop (mkF m 43 #[.val (.int z), .unset, .unset] [(.int (z - (1 : Int32))), (.int (31 : Int32))])) _
      refine st1 _ ?_
      show Steps p.tables e below (T1.setTop (mkF m 46 #[.val (.int z), .unset, .unset] [(.int (own_nlz (z - (1 : Int32)))), (.int (31 : Int32))])) _
      refine XS.isub X1.here hx rfl (hb hby d2_46) rfl ?_
      show Steps p.tables e below (T1.setTop (mkF m 47 #[.val (.int z), .unset, .unset] [(.int ((31 : Int32) - (own_nlz (z - (1 : Int32)))))])) _
      refine XS.istoreN X1.here hx rfl (hb hby d2_47) rfl (l' := #[.val (.int z), .val (.int ((31 : Int32) - (own_nlz (z - (1 : Int32))))), .unset]) rfl ?_
      show Steps p.tables e below (T1.setTop (mkF m 48 #[.val (.int z), .val (.int ((31 : Int32) - (own_nlz (z - (1 : Int32))))), .unset] [])) _
      refine XS.iloadN X1.here hx rfl (hb hby d2_48) rfl ?_
      show Steps p.tables e below (T1.setTop (mkF m 49 #[.val (.int z), .val (.int ((31 : Int32) - (own_nlz (z - (1 : Int32))))), .unset] [(.int ((31 : Int32) - (own_nlz (z - (1 : Int32)))))])) _
      refine XS.iconst X1.here hx rfl (hb hby d2_49) ?_
      show Steps p.tables e below (T1.setTop (mkF m 50 #[.val (.int z), .val (.int ((31 : Int32) - (own_nlz (z - (1 : Int32))))), .unset] [(.int (2 : Int32)), (.int ((31 : Int32) - (own_nlz (z - (1 : Int32)))))])) _
      refine XS.isub X1.here hx rfl (hb hby d2_50) rfl ?_
      show Steps p.tables e below (T1.setTop (mkF m 51 #[.val (.int z), .val (.int ((31 : Int32) - (own_nlz (z - (1 : Int32))))), .unset] [(.int (((31 : Int32) - (own_nlz (z - (1 : Int32)))) - (2 : Int32)))])) _
      refine XS.istoreN X1.here hx rfl (hb hby d2_51) rfl (l' := #[.val (.int z), .val (.int ((31 : Int32) - (own_nlz (z - (1 : Int32))))), .val (.int (((31 : Int32) - (own_nlz (z - (1 : Int32)))) - (2 : Int32)))]) rfl ?_
      show Steps p.tables e below (T1.setTop (mkF m 52 #[.val (.int z), .val (.int ((31 : Int32) - (own_nlz (z - (1 : Int32))))), .val (.int (((31 : Int32) - (own_nlz (z - (1 : Int32)))) - (2 : Int32)))] [])) _
      refine XS.bipush X1.here hx rfl (hb hby d2_52) ?_
      show Steps p.tables e below (T1.setTop (mkF m 54 #[.val (.int z), .val (.int ((31 : Int32) - (own_nlz (z - (1 : Int32))))), .val (.int (((31 : Int32) - (own_nlz (z - (1 : Int32)))) - (2 : Int32)))] [(.int (16 : Int32))])) _
      refine XS.iloadN X1.here hx rfl (hb hby d2_54) rfl ?_
      show Steps p.tables e below (T1.setTop (mkF m 55 #[.val (.int z), .val (.int ((31 : Int32) - (own_nlz (z - (1 : Int32))))), .val (.int (((31 : Int32) - (own_nlz (z - (1 : Int32)))) - (2 : Int32)))] [(.int ((31 : Int32) - (own_nlz (z - (1 : Int32))))), (.int (16 : Int32))])) _
      refine XS.bipush X1.here hx rfl (hb hby d2_55) ?_
      show Steps p.tables e below (T1.setTop (mkF m 57 #[.val (.int z), .val (.int ((31 : Int32) - (own_nlz (z - (1 : Int32))))), .val (.int (((31 : Int32) - (own_nlz (z - (1 : Int32)))) - (2 : Int32)))] [(.int (8 : Int32)), (.int ((31 : Int32) - (own_nlz (z - (1 : Int32))))), (.int (16 : Int32))])) _
      refine XS.isub X1.here hx rfl (hb hby d2_57) rfl ?_
      show Steps p.tables e below (T1.setTop (mkF m 58 #[.val (.int z), .val (.int ((31 : Int32) - (own_nlz (z - (1 : Int32))))), .val (.int (((31 : Int32) - (own_nlz (z - (1 : Int32)))) - (2 : Int32)))] [(.int (((31 : Int32) - (own_nlz (z - (1 : Int32)))) - (8 : Int32))), (.int (16 : Int32))])) _
      refine XS.iconst X1.here hx rfl (hb hby d2_58) ?_
      show Steps p.tables e below (T1.setTop (mkF m 59 #[.val (.int z), .val (.int ((31 : Int32) - (own_nlz (z - (1 : Int32))))), .val (.int (((31 : Int32) - (own_nlz (z - (1 : Int32)))) - (2 : Int32)))] [(.int (4 : Int32)), (.int (((31 : Int32) - (own_nlz (z - (1 : Int32)))) - (8 : Int32))), (.int (16 : Int32))])) _
      refine XS.imul X1.here hx rfl (hb hby d2_59) rfl ?_
      show Steps p.tables e below (T1.setTop (mkF m 60 #[.val (.int z), .val (.int ((31 : Int32) - (own_nlz (z - (1 : Int32))))), .val (.int (((31 : Int32) - (own_nlz (z - (1 : Int32)))) - (2 : Int32)))] [(.int ((((31 : Int32) - (own_nlz (z - (1 : Int32)))) - (8 : Int32)) * (4 : Int32))), (.int (16 : Int32))])) _
      refine XS.iadd X1.here hx rfl (hb hby d2_60) rfl ?_
      show Steps p.tables e below (T1.setTop (mkF m 61 #[.val (.int z), .val (.int ((31 : Int32) - (own_nlz (z - (1 : Int32))))), .val (.int (((31 : Int32) - (own_nlz (z - (1 : Int32)))) - (2 : Int32)))] [(.int ((16 : Int32) + ((((31 : Int32) - (own_nlz (z - (1 : Int32)))) - (8 : Int32)) * (4 : Int32))))])) _
      refine XS.iloadN X1.here hx rfl (hb hby d2_61) rfl ?_
      show Steps p.tables e below (T1.setTop (mkF m 62 #[.val (.int z), .val (.int ((31 : Int32) - (own_nlz (z - (1 : Int32))))), .val (.int (((31 : Int32) - (own_nlz (z - (1 : Int32)))) - (2 : Int32)))] [(.int z), (.int ((16 : Int32) + ((((31 : Int32) - (own_nlz (z - (1 : Int32)))) - (8 : Int32)) * (4 : Int32))))])) _
      refine XS.iconst X1.here hx rfl (hb hby d2_62) ?_
      show Steps p.tables e below (T1.setTop (mkF m 63 #[.val (.int z), .val (.int ((31 : Int32) - (own_nlz (z - (1 : Int32))))), .val (.int (((31 : Int32) - (own_nlz (z - (1 : Int32)))) - (2 : Int32)))] [(.int (1 : Int32)), (.int z), (.int ((16 : Int32) + ((((31 : Int32) - (own_nlz (z - (1 : Int32)))) - (8 : Int32)) * (4 : Int32))))])) _
      refine XS.isub X1.here hx rfl (hb hby d2_63) rfl ?_
      show Steps p.tables e below (T1.setTop (mkF m 64 #[.val (.int z), .val (.int ((31 : Int32) - (own_nlz (z - (1 : Int32))))), .val (.int (((31 : Int32) - (own_nlz (z - (1 : Int32)))) - (2 : Int32)))] [(.int (z - (1 : Int32))), (.int ((16 : Int32) + ((((31 : Int32) - (own_nlz (z - (1 : Int32)))) - (8 : Int32)) * (4 : Int32))))])) _
      refine XS.iloadN X1.here hx rfl (hb hby d2_64) rfl ?_
      show Steps p.tables e below (T1.setTop (mkF m 65 #[.val (.int z), .val (.int ((31 : Int32) - (own_nlz (z - (1 : Int32))))), .val (.int (((31 : Int32) - (own_nlz (z - (1 : Int32)))) - (2 : Int32)))] [(.int (((31 : Int32) - (own_nlz (z - (1 : Int32)))) - (2 : Int32))), (.int (z - (1 : Int32))), (.int ((16 : Int32) + ((((31 : Int32) - (own_nlz (z - (1 : Int32)))) - (8 : Int32)) * (4 : Int32))))])) _
      refine XS.iushr X1.here hx rfl (hb hby d2_65) rfl ?_
      show Steps p.tables e below (T1.setTop (mkF m 66 #[.val (.int z), .val (.int ((31 : Int32) - (own_nlz (z - (1 : Int32))))), .val (.int (((31 : Int32) - (own_nlz (z - (1 : Int32)))) - (2 : Int32)))] [(.int (((z - (1 : Int32)).toUInt32 >>> ((((31 : Int32) - (own_nlz (z - (1 : Int32)))) - (2 : Int32)) &&& 31).toUInt32).toInt32)), (.int ((16 : Int32) + ((((31 : Int32) - (own_nlz (z - (1 : Int32)))) - (8 : Int32)) * (4 : Int32))))])) _
      refine XS.iadd X1.here hx rfl (hb hby d2_66) rfl ?_
      show Steps p.tables e below (T1.setTop (mkF m 67 #[.val (.int z), .val (.int ((31 : Int32) - (own_nlz (z - (1 : Int32))))), .val (.int (((31 : Int32) - (own_nlz (z - (1 : Int32)))) - (2 : Int32)))] [(.int (((16 : Int32) + ((((31 : Int32) - (own_nlz (z - (1 : Int32)))) - (8 : Int32)) * (4 : Int32))) + (((z - (1 : Int32)).toUInt32 >>> ((((31 : Int32) - (own_nlz (z - (1 : Int32)))) - (2 : Int32)) &&& 31).toUInt32).toInt32)))])) _
      refine XS.iconst X1.here hx rfl (hb hby d2_67) ?_
      show Steps p.tables e below (T1.setTop (mkF m 68 #[.val (.int z), .val (.int ((31 : Int32) - (own_nlz (z - (1 : Int32))))), .val (.int (((31 : Int32) - (own_nlz (z - (1 : Int32)))) - (2 : Int32)))] [(.int (4 : Int32)), (.int (((16 : Int32) + ((((31 : Int32) - (own_nlz (z - (1 : Int32)))) - (8 : Int32)) * (4 : Int32))) + (((z - (1 : Int32)).toUInt32 >>> ((((31 : Int32) - (own_nlz (z - (1 : Int32)))) - (2 : Int32)) &&& 31).toUInt32).toInt32)))])) _
      refine XS.isub X1.here hx rfl (hb hby d2_68) rfl ?_
      show Steps p.tables e below (T1.setTop (mkF m 69 #[.val (.int z), .val (.int ((31 : Int32) - (own_nlz (z - (1 : Int32))))), .val (.int (((31 : Int32) - (own_nlz (z - (1 : Int32)))) - (2 : Int32)))] [(.int ((((16 : Int32) + ((((31 : Int32) - (own_nlz (z - (1 : Int32)))) - (8 : Int32)) * (4 : Int32))) + (((z - (1 : Int32)).toUInt32 >>> ((((31 : Int32) - (own_nlz (z - (1 : Int32)))) - (2 : Int32)) &&& 31).toUInt32).toInt32)) - (4 : Int32)))])) _
      exact retI X1 hx Bd.returns (hb hby d2_69) hr
    · show Q3 Z z h0 n0 _ T1.heap _
      rw [e1]
      unfold Q3
      rw [hv]
      exact ⟨rfl, N1, rfl⟩
  · have hv : own_sc z = (((z - (1 : Int32)).toUInt32 >>> ((4 : Int32) &&& 31).toUInt32).toInt32) := by unfold own_sc; rw [if_neg h1]
    obtain ⟨fs, hr, hrun, hended, hW, hsame⟩ := X0.leave (v := some (.int (((z - (1 : Int32)).toUInt32 >>> ((4 : Int32) &&& 31).toUInt32).toInt32))) (fun h => by rw [Bd.returns] at h; cases h)
    refine ⟨_, _, pre0 _ ?_, hrun, hended, _, _, rfl, ?_, ⟨_, rfl⟩, hW, hsame.mono (by decide) (by decide)⟩
    · show Steps p.tables e below (s₁.setTop (mkF m 0 #[.val (.int z), .unset, .unset] [])) _
      refine XS.iloadN X0.here hx rfl (hb hby d2_0) rfl ?_
      show Steps p.tables e below (s₁.setTop (mkF m 1 #[.val (.int z), .unset, .unset] [(.int z)])) _
      refine XS.iconst X0.here hx rfl (hb hby d2_1) ?_
      show Steps p.tables e below (s₁.setTop (mkF m 2 #[.val (.int z), .unset, .unset] [(.int (1 : Int32)), (.int z)])) _
      refine XS.icmpNo X0.here hx rfl (hb hby d2_2) rfl (flt (hz1 : ¬ (z < (1 : Int32)))).1 ?_
      show Steps p.tables e below (s₁.setTop (mkF m 5 #[.val (.int z), .unset, .unset] [])) _
      refine XS.iloadN X0.here hx rfl (hb hby d2_5) rfl ?_
      show Steps p.tables e below (s₁.setTop (mkF m 6 #[.val (.int z), .unset, .unset] [(.int z)])) _
      refine X0.ldcInt hx hown (mvT hZ (hw _ (List.mem_of_getElem? (i := 7) rfl))) (g := (mkF m 6 #[.val (.int z), .unset, .unset] [(.int z)])) rfl (hb hby d2_6) _ ?_
      show Steps p.tables e below (s₁.setTop (mkF m 8 #[.val (.int z), .unset, .unset] [(.int (1048576 : Int32)), (.int z)])) _
      refine XS.icmpYes X0.here hx rfl (pc0 := 8) (pc' := 25) rfl (hb hby d2_8) rfl (flt (hz2 : ¬ ((1048576 : Int32) < z))).2.2.2 (by decide) (by decide) ?_
      show Steps p.tables e below (s₁.setTop (mkF m 25 #[.val (.int z), .unset, .unset] [])) _
      refine XS.iloadN X0.here hx rfl (hb hby d2_25) rfl ?_
      show Steps p.tables e below (s₁.setTop (mkF m 26 #[.val (.int z), .unset, .unset] [(.int z)])) _
      refine XS.sipush X0.here hx rfl (hb hby d2_26) ?_
      show Steps p.tables e below (s₁.setTop (mkF m 29 #[.val (.int z), .unset, .unset] [(.int (256 : Int32)), (.int z)])) _
      refine XS.icmpNo X0.here hx rfl (hb hby d2_29) rfl (flt (h1 : ¬ ((256 : Int32) < z))).2.2.1 ?_
      show Steps p.tables e below (s₁.setTop (mkF m 32 #[.val (.int z), .unset, .unset] [])) _
      refine XS.iloadN X0.here hx rfl (hb hby d2_32) rfl ?_
      show Steps p.tables e below (s₁.setTop (mkF m 33 #[.val (.int z), .unset, .unset] [(.int z)])) _
      refine XS.iconst X0.here hx rfl (hb hby d2_33) ?_
      show Steps p.tables e below (s₁.setTop (mkF m 34 #[.val (.int z), .unset, .unset] [(.int (1 : Int32)), (.int z)])) _
      refine XS.isub X0.here hx rfl (hb hby d2_34) rfl ?_
      show Steps p.tables e below (s₁.setTop (mkF m 35 #[.val (.int z), .unset, .unset] [(.int (z - (1 : Int32)))])) _
      refine XS.iconst X0.here hx rfl (hb hby d2_35) ?_
      show Steps p.tables e below (s₁.setTop (mkF m 36 #[.val (.int z), .unset, .unset] [(.int (4 : Int32)), (.int (z - (1 : Int32)))])) _
      refine XS.iushr X0.here hx rfl (hb hby d2_36) rfl ?_
      show Steps p.tables e below (s₁.setTop (mkF m 37 #[.val (.int z), .unset, .unset] [(.int (((z - (1 : Int32)).toUInt32 >>> ((4 : Int32) &&& 31).toUInt32).toInt32))])) _
      exact retI X0 hx Bd.returns (hb hby d2_37) hr
    · show Q3 Z z h0 n0 _ s₁.heap _
      rw [e0]
      unfold Q3
      rw [hv]
      exact ⟨rfl, N0, rfl⟩
theorem ef_0 (m : MethodId) (x0 : Int32) : entryFrame m #[(.int x0)] maxLocals = mkF m 0 #[.val (.int x0), .unset, .unset, .unset, .unset, .unset, .unset] [] := by first | (simp [entryFrame, mkF, argsToLocals, Value.category, maxLocals]; done) | rfl
theorem pn_0 : plainName "com/example/stratavault/stratavault/storage/AllocatorClassSizePinLaw" = true := by first | (simp [plainName, overriddenIn]; done) | decide +kernel
def Q0 (Z : State) (p1 : Int32) (h0 : Heap) (n0 : Nat) (rv : Option Value) (h : Heap) (Lq : List Loc) : Prop := rv = some (.int (1 : Int32)) ∧ Fr n0 Lq
set_option maxRecDepth 65536 in
set_option maxHeartbeats 40000000 in
theorem rm0 (l : Launch) (Z : State) (a0 : Array Value) (hw : ∀ d ∈ tables_1, d.before a0 Z = true) (ws : List Jvm.Cond) (p1 : Int32) (h0 : Heap) (n0 : Nat) (Z0 : n0 ≤ h0.size) :
    MetFree l x (head1 (Jvm.Cond.code x code maxLocals ret :: ws) room_1) (fun xx U => xx = #[(.int p1)] ∧ Z.Warmed39 U.vm ∧ U.heap = h0) (fun _ _ _ _ _ => True) (fun _ U o U' => ∃ rv Lq, o = .returned rv ∧ Q0 Z p1 h0 n0 rv U'.heap Lq ∧ FrameEnd U o U' Lq room_1.cells room_1.slots) := by
  refine MetFree.of_bodySF (plainFor_of_name pn_0) hisR ?_
  intro p e s m args below meth c s₁ Bd hml0 hP hK
  obtain ⟨rfl, hZ, hh⟩ := hP
  have hx := Bd.exec
  have hby := Bd.bytes
  have hml : c.maxLocals = 7 := hml0
  have hown : s.vm.findClass "com/example/stratavault/stratavault/storage/AllocatorClassSizePinLaw" = some m.cls := findClass_of_methodNamed Bd.named
  have hnm := (name_of_methodNamed Bd.named Bd.method).1
  have X0 : Stand p l e room_1 s m #[(.int p1)] below meth c s₁ [] 0 0 := Stand.of_body Bd
  have e0 : s₁.heap = h0 := by rw [← hh, Bd.state]; rfl
  have N0 := Fr.nil n0
  have pre0 : ∀ t, Steps p.tables e below (s₁.setTop (mkF m 0 #[.val (.int p1), .unset, .unset, .unset, .unset, .unset, .unset] [])) t → Steps p.tables e below (s₁.setTop (entryFrame m #[(.int p1)] maxLocals)) t := fun t k => castTop (ef_0 m p1) k
  have hk := own_at p1
  obtain ⟨o1, o2⟩ := own_c2 hk
  obtain ⟨o3, o4⟩ := own_oks o1
  by_cases h1 : (p1 &&& (63 : Int32)) < (16 : Int32)
  · have h2 := (own_c0 hk h1).2
    obtain ⟨o5, o6⟩ := own_c3 hk h2
    obtain ⟨o7, o8⟩ := own_oks o5
    obtain ⟨_, _, ⟨T1, L1, k1, n1⟩, -, X1, ⟨Lc1, hQ1, l1, y1, z1⟩, st1⟩ := Jvm.LawKit.callS X0 hx (y := (⟨"com/example/stratavault/stratavault/storage/Allocator", "classSize", "(I)I"⟩ : MethodName)) hown (mvT hZ (hw _ (List.mem_of_getElem? (i := 0) rfl))) (mvT hZ (hw _ (List.mem_of_getElem? (i := 1) rfl))) (mvT hZ (hw _ (List.mem_of_getElem? (i := 2) rfl))) (mvT hZ (hw _ (List.mem_of_getElem? (i := 3) rfl))) (by decide) (backOf (W := 0) (rm1 l Z a0 hw [] (p1 &&& (63 : Int32)) h0 n0 Z0) hZ (hw _ (List.mem_of_getElem? (i := 3) rfl)) (hw _ (List.mem_of_getElem? (i := 2) rfl)) (by decide) (by decide)) (g := (mkF m 6 #[.val (.int p1), .val (.int (p1 &&& (63 : Int32))), .unset, .unset, .unset, .unset, .unset] [(.int (p1 &&& (63 : Int32)))])) rfl (by rw [hml]; rfl) (argsL := [(.int (p1 &&& (63 : Int32)))]) (rest := []) (lenOf pdx_0 rfl) rfl (by show 2 * 0 + _ ≤ _; exact Nat.le_of_eq rfl) (hb hby at_6) (fun _ _ => ⟨rfl, e0, (by decide : 0 + 0 ≤ _), (by decide : 0 + 0 ≤ _)⟩)
    dsimp only [Pt.U, Pt.locs, Pt.cells, Pt.slots] at X1 l1 y1 z1 st1 hQ1
    subst l1 y1 z1
    obtain ⟨rfl, N1q, e1⟩ := hQ1
    have N1 := Fr.app N0 N1q
    obtain ⟨_, _, ⟨T2, L2, k2, n2⟩, -, X2, ⟨Lc2, hQ2, l2, y2, z2⟩, st2⟩ := Jvm.LawKit.callS X1 hx (y := (⟨"com/example/stratavault/stratavault/storage/Allocator", "sizeClass", "(I)I"⟩ : MethodName)) hown (mvT hZ (hw _ (List.mem_of_getElem? (i := 4) rfl))) (mvT hZ (hw _ (List.mem_of_getElem? (i := 5) rfl))) (mvT hZ (hw _ (List.mem_of_getElem? (i := 2) rfl))) (mvT hZ (hw _ (List.mem_of_getElem? (i := 6) rfl))) (by decide) (backOf (W := 0) (rm3 l Z a0 hw [] (own_cs (p1 &&& (63 : Int32))) h0 n0 Z0 o3 o4) hZ (hw _ (List.mem_of_getElem? (i := 6) rfl)) (hw _ (List.mem_of_getElem? (i := 2) rfl)) (by decide) (by decide)) (g := (mkF m 71 #[.val (.int p1), .val (.int (p1 &&& (63 : Int32))), .val (.int (own_cs (p1 &&& (63 : Int32)))), .val (.int ((16 : Int32) * ((p1 &&& (63 : Int32)) + (1 : Int32)))), .unset, .unset, .unset] [(.int (own_cs (p1 &&& (63 : Int32))))])) rfl (by rw [hml]; rfl) (argsL := [(.int (own_cs (p1 &&& (63 : Int32))))]) (rest := []) (lenOf pdx_0 rfl) rfl (by show 2 * 0 + _ ≤ _; exact Nat.le_of_eq rfl) (hb hby at_71) (fun _ _ => ⟨rfl, e1, (by decide : 0 + 0 ≤ _), (by decide : 0 + 0 ≤ _)⟩)
    dsimp only [Pt.U, Pt.locs, Pt.cells, Pt.slots] at X2 l2 y2 z2 st2 hQ2
    subst l2 y2 z2
    obtain ⟨rfl, N2q, e2⟩ := hQ2
    have N2 := Fr.app N1 N2q
    obtain ⟨_, _, ⟨T3, L3, k3, n3⟩, -, X3, ⟨Lc3, hQ3, l3, y3, z3⟩, st3⟩ := Jvm.LawKit.callS X2 hx (y := (⟨"com/example/stratavault/stratavault/storage/Allocator", "sizeClass", "(I)I"⟩ : MethodName)) hown (mvT hZ (hw _ (List.mem_of_getElem? (i := 4) rfl))) (mvT hZ (hw _ (List.mem_of_getElem? (i := 5) rfl))) (mvT hZ (hw _ (List.mem_of_getElem? (i := 2) rfl))) (mvT hZ (hw _ (List.mem_of_getElem? (i := 6) rfl))) (by decide) (backOf (W := 0) (rm3 l Z a0 hw [] ((own_cs (p1 &&& (63 : Int32))) + (1 : Int32)) h0 n0 Z0 o7 o8) hZ (hw _ (List.mem_of_getElem? (i := 6) rfl)) (hw _ (List.mem_of_getElem? (i := 2) rfl)) (by decide) (by decide)) (g := (mkF m 89 #[.val (.int p1), .val (.int (p1 &&& (63 : Int32))), .val (.int (own_cs (p1 &&& (63 : Int32)))), .val (.int ((16 : Int32) * ((p1 &&& (63 : Int32)) + (1 : Int32)))), .unset, .unset, .unset] [(.int ((own_cs (p1 &&& (63 : Int32))) + (1 : Int32)))])) rfl (by rw [hml]; rfl) (argsL := [(.int ((own_cs (p1 &&& (63 : Int32))) + (1 : Int32)))]) (rest := []) (lenOf pdx_0 rfl) rfl (by show 2 * 0 + _ ≤ _; exact Nat.le_of_eq rfl) (hb hby at_89) (fun _ _ => ⟨rfl, e2, (by decide : 0 + 0 ≤ _), (by decide : 0 + 0 ≤ _)⟩)
    dsimp only [Pt.U, Pt.locs, Pt.cells, Pt.slots] at X3 l3 y3 z3 st3 hQ3
    subst l3 y3 z3
    obtain ⟨rfl, N3q, e3⟩ := hQ3
    have N3 := Fr.app N2 N3q
    obtain ⟨fs, hr, hrun, hended, hW, hsame⟩ := X3.leave (v := some (.int (1 : Int32))) (fun h => by rw [Bd.returns] at h; cases h)
    refine ⟨_, _, pre0 _ ?_, hrun, hended, _, _, rfl, ?_, ⟨_, rfl⟩, hW, hsame.mono (by decide) (by decide)⟩
    · show Steps p.tables e below (s₁.setTop (mkF m 0 #[.val (.int p1), .unset, .unset, .unset, .unset, .unset, .unset] [])) _
      refine XS.iloadN X0.here hx rfl (hb hby at_0) rfl ?_
      show Steps p.tables e below (s₁.setTop (mkF m 1 #[.val (.int p1), .unset, .unset, .unset, .unset, .unset, .unset] [(.int p1)])) _
      refine XS.bipush X0.here hx rfl (hb hby at_1) ?_
      show Steps p.tables e below (s₁.setTop (mkF m 3 #[.val (.int p1), .unset, .unset, .unset, .unset, .unset, .unset] [(.int (63 : Int32)), (.int p1)])) _
      refine XS.iand X0.here hx rfl (hb hby at_3) rfl ?_
      show Steps p.tables e below (s₁.setTop (mkF m 4 #[.val (.int p1), .unset, .unset, .unset, .unset, .unset, .unset] [(.int (p1 &&& (63 : Int32)))])) _
      refine XS.istoreN X0.here hx rfl (hb hby at_4) rfl (l' := #[.val (.int p1), .val (.int (p1 &&& (63 : Int32))), .unset, .unset, .unset, .unset, .unset]) rfl ?_
      show Steps p.tables e below (s₁.setTop (mkF m 5 #[.val (.int p1), .val (.int (p1 &&& (63 : Int32))), .unset, .unset, .unset, .unset, .unset] [])) _
      refine XS.iloadN X0.here hx rfl (hb hby at_5) rfl ?_
      show Steps p.tables e below (s₁.setTop (mkF m 6 #[.val (.int p1), .val (.int (p1 &&& (63 : Int32))), .unset, .unset, .unset, .unset, .unset] [(.int (p1 &&& (63 : Int32)))])) _
      refine st1 _ ?_
      show Steps p.tables e below (T1.setTop (mkF m 9 #[.val (.int p1), .val (.int (p1 &&& (63 : Int32))), .unset, .unset, .unset, .unset, .unset] [(.int (own_cs (p1 &&& (63 : Int32))))])) _
      refine XS.istoreN X1.here hx rfl (hb hby at_9) rfl (l' := #[.val (.int p1), .val (.int (p1 &&& (63 : Int32))), .val (.int (own_cs (p1 &&& (63 : Int32)))), .unset, .unset, .unset, .unset]) rfl ?_
      show Steps p.tables e below (T1.setTop (mkF m 10 #[.val (.int p1), .val (.int (p1 &&& (63 : Int32))), .val (.int (own_cs (p1 &&& (63 : Int32)))), .unset, .unset, .unset, .unset] [])) _
      refine XS.iloadN X1.here hx rfl (hb hby at_10) rfl ?_
      show Steps p.tables e below (T1.setTop (mkF m 11 #[.val (.int p1), .val (.int (p1 &&& (63 : Int32))), .val (.int (own_cs (p1 &&& (63 : Int32)))), .unset, .unset, .unset, .unset] [(.int (p1 &&& (63 : Int32)))])) _
      refine XS.bipush X1.here hx rfl (hb hby at_11) ?_
      show Steps p.tables e below (T1.setTop (mkF m 13 #[.val (.int p1), .val (.int (p1 &&& (63 : Int32))), .val (.int (own_cs (p1 &&& (63 : Int32)))), .unset, .unset, .unset, .unset] [(.int (16 : Int32)), (.int (p1 &&& (63 : Int32)))])) _
      refine XS.icmpNo X1.here hx rfl (hb hby at_13) rfl (tlt (h1 : (p1 &&& (63 : Int32)) < (16 : Int32))).2.1 ?_
      show Steps p.tables e below (T1.setTop (mkF m 16 #[.val (.int p1), .val (.int (p1 &&& (63 : Int32))), .val (.int (own_cs (p1 &&& (63 : Int32)))), .unset, .unset, .unset, .unset] [])) _
      refine XS.bipush X1.here hx rfl (hb hby at_16) ?_
      show Steps p.tables e below (T1.setTop (mkF m 18 #[.val (.int p1), .val (.int (p1 &&& (63 : Int32))), .val (.int (own_cs (p1 &&& (63 : Int32)))), .unset, .unset, .unset, .unset] [(.int (16 : Int32))])) _
      refine XS.iloadN X1.here hx rfl (hb hby at_18) rfl ?_
      show Steps p.tables e below (T1.setTop (mkF m 19 #[.val (.int p1), .val (.int (p1 &&& (63 : Int32))), .val (.int (own_cs (p1 &&& (63 : Int32)))), .unset, .unset, .unset, .unset] [(.int (p1 &&& (63 : Int32))), (.int (16 : Int32))])) _
      refine XS.iconst X1.here hx rfl (hb hby at_19) ?_
      show Steps p.tables e below (T1.setTop (mkF m 20 #[.val (.int p1), .val (.int (p1 &&& (63 : Int32))), .val (.int (own_cs (p1 &&& (63 : Int32)))), .unset, .unset, .unset, .unset] [(.int (1 : Int32)), (.int (p1 &&& (63 : Int32))), (.int (16 : Int32))])) _
      refine XS.iadd X1.here hx rfl (hb hby at_20) rfl ?_
      show Steps p.tables e below (T1.setTop (mkF m 21 #[.val (.int p1), .val (.int (p1 &&& (63 : Int32))), .val (.int (own_cs (p1 &&& (63 : Int32)))), .unset, .unset, .unset, .unset] [(.int ((p1 &&& (63 : Int32)) + (1 : Int32))), (.int (16 : Int32))])) _
      refine XS.imul X1.here hx rfl (hb hby at_21) rfl ?_
      show Steps p.tables e below (T1.setTop (mkF m 22 #[.val (.int p1), .val (.int (p1 &&& (63 : Int32))), .val (.int (own_cs (p1 &&& (63 : Int32)))), .unset, .unset, .unset, .unset] [(.int ((16 : Int32) * ((p1 &&& (63 : Int32)) + (1 : Int32))))])) _
      refine XS.istoreN X1.here hx rfl (hb hby at_22) rfl (l' := #[.val (.int p1), .val (.int (p1 &&& (63 : Int32))), .val (.int (own_cs (p1 &&& (63 : Int32)))), .val (.int ((16 : Int32) * ((p1 &&& (63 : Int32)) + (1 : Int32)))), .unset, .unset, .unset]) rfl ?_
      show Steps p.tables e below (T1.setTop (mkF m 23 #[.val (.int p1), .val (.int (p1 &&& (63 : Int32))), .val (.int (own_cs (p1 &&& (63 : Int32)))), .val (.int ((16 : Int32) * ((p1 &&& (63 : Int32)) + (1 : Int32)))), .unset, .unset, .unset] [])) _
      refine XS.goto X1.here hx rfl (pc0 := 23) (pc' := 63) rfl (hb hby at_23) (by decide) (by decide) ?_
      show Steps p.tables e below (T1.setTop (mkF m 63 #[.val (.int p1), .val (.int (p1 &&& (63 : Int32))), .val (.int (own_cs (p1 &&& (63 : Int32)))), .val (.int ((16 : Int32) * ((p1 &&& (63 : Int32)) + (1 : Int32)))), .unset, .unset, .unset] [])) _
      refine XS.iloadN X1.here hx rfl (hb hby at_63) rfl ?_
      show Steps p.tables e below (T1.setTop (mkF m 64 #[.val (.int p1), .val (.int (p1 &&& (63 : Int32))), .val (.int (own_cs (p1 &&& (63 : Int32)))), .val (.int ((16 : Int32) * ((p1 &&& (63 : Int32)) + (1 : Int32)))), .unset, .unset, .unset] [(.int (own_cs (p1 &&& (63 : Int32))))])) _
      refine XS.iloadN X1.here hx rfl (hb hby at_64) rfl ?_
      show Steps p.tables e below (T1.setTop (mkF m 65 #[.val (.int p1), .val (.int (p1 &&& (63 : Int32))), .val (.int (own_cs (p1 &&& (63 : Int32)))), .val (.int ((16 : Int32) * ((p1 &&& (63 : Int32)) + (1 : Int32)))), .unset, .unset, .unset] [(.int ((16 : Int32) * ((p1 &&& (63 : Int32)) + (1 : Int32)))), (.int (own_cs (p1 &&& (63 : Int32))))])) _
      refine XS.icmpYes X1.here hx rfl (pc0 := 65) (pc' := 70) rfl (hb hby at_65) rfl (teq ((own_c0 hk h1).1 : (own_cs (p1 &&& (63 : Int32))) = ((16 : Int32) * ((p1 &&& (63 : Int32)) + (1 : Int32))))).1 (by decide) (by decide) ?_
      show Steps p.tables e below (T1.setTop (mkF m 70 #[.val (.int p1), .val (.int (p1 &&& (63 : Int32))), .val (.int (own_cs (p1 &&& (63 : Int32)))), .val (.int ((16 : Int32) * ((p1 &&& (63 : Int32)) + (1 : Int32)))), .unset, .unset, .unset] [])) _
      refine XS.iloadN X1.here hx rfl (hb hby at_70) rfl ?_
      show Steps p.tables e below (T1.setTop (mkF m 71 #[.val (.int p1), .val (.int (p1 &&& (63 : Int32))), .val (.int (own_cs (p1 &&& (63 : Int32)))), .val (.int ((16 : Int32) * ((p1 &&& (63 : Int32)) + (1 : Int32)))), .unset, .unset, .unset] [(.int (own_cs (p1 &&& (63 : Int32))))])) _
      refine st2 _ ?_
      show Steps p.tables e below (T2.setTop (mkF m 74 #[.val (.int p1), .val (.int (p1 &&& (63 : Int32))), .val (.int (own_cs (p1 &&& (63 : Int32)))), .val (.int ((16 : Int32) * ((p1 &&& (63 : Int32)) + (1 : Int32)))), .unset, .unset, .unset] [(.int (own_sc (own_cs (p1 &&& (63 : Int32)))))])) _
      refine XS.iloadN X2.here hx rfl (hb hby at_74) rfl ?_
      show Steps p.tables e below (T2.setTop (mkF m 75 #[.val (.int p1), .val (.int (p1 &&& (63 : Int32))), .val (.int (own_cs (p1 &&& (63 : Int32)))), .val (.int ((16 : Int32) * ((p1 &&& (63 : Int32)) + (1 : Int32)))), .unset, .unset, .unset] [(.int (p1 &&& (63 : Int32))), (.int (own_sc (own_cs (p1 &&& (63 : Int32)))))])) _
      refine XS.icmpYes X2.here hx rfl (pc0 := 75) (pc' := 80) rfl (hb hby at_75) rfl (teq (o2 : (own_sc (own_cs (p1 &&& (63 : Int32)))) = (p1 &&& (63 : Int32)))).1 (by decide) (by decide) ?_
      show Steps p.tables e below (T2.setTop (mkF m 80 #[.val (.int p1), .val (.int (p1 &&& (63 : Int32))), .val (.int (own_cs (p1 &&& (63 : Int32)))), .val (.int ((16 : Int32) * ((p1 &&& (63 : Int32)) + (1 : Int32)))), .unset, .unset, .unset] [])) _
      refine XS.iloadN X2.here hx rfl (hb hby at_80) rfl ?_
      show Steps p.tables e below (T2.setTop (mkF m 81 #[.val (.int p1), .val (.int (p1 &&& (63 : Int32))), .val (.int (own_cs (p1 &&& (63 : Int32)))), .val (.int ((16 : Int32) * ((p1 &&& (63 : Int32)) + (1 : Int32)))), .unset, .unset, .unset] [(.int (p1 &&& (63 : Int32)))])) _
      refine XS.bipush X2.here hx rfl (hb hby at_81) ?_
      show Steps p.tables e below (T2.setTop (mkF m 83 #[.val (.int p1), .val (.int (p1 &&& (63 : Int32))), .val (.int (own_cs (p1 &&& (63 : Int32)))), .val (.int ((16 : Int32) * ((p1 &&& (63 : Int32)) + (1 : Int32)))), .unset, .unset, .unset] [(.int (63 : Int32)), (.int (p1 &&& (63 : Int32)))])) _
      refine XS.icmpNo X2.here hx rfl (hb hby at_83) rfl (tlt (h2 : (p1 &&& (63 : Int32)) < (63 : Int32))).2.1 ?_
      show Steps p.tables e below (T2.setTop (mkF m 86 #[.val (.int p1), .val (.int (p1 &&& (63 : Int32))), .val (.int (own_cs (p1 &&& (63 : Int32)))), .val (.int ((16 : Int32) * ((p1 &&& (63 : Int32)) + (1 : Int32)))), .unset, .unset, .unset] [])) _
      refine XS.iloadN X2.here hx rfl (hb hby at_86) rfl ?_
      show Steps p.tables e below (T2.setTop (mkF m 87 #[.val (.int p1), .val (.int (p1 &&& (63 : Int32))), .val (.int (own_cs (p1 &&& (63 : Int32)))), .val (.int ((16 : Int32) * ((p1 &&& (63 : Int32)) + (1 : Int32)))), .unset, .unset, .unset] [(.int (own_cs (p1 &&& (63 : Int32))))])) _
      refine XS.iconst X2.here hx rfl (hb hby at_87) ?_
      show Steps p.tables e below (T2.setTop (mkF m 88 #[.val (.int p1), .val (.int (p1 &&& (63 : Int32))), .val (.int (own_cs (p1 &&& (63 : Int32)))), .val (.int ((16 : Int32) * ((p1 &&& (63 : Int32)) + (1 : Int32)))), .unset, .unset, .unset] [(.int (1 : Int32)), (.int (own_cs (p1 &&& (63 : Int32))))])) _
      refine XS.iadd X2.here hx rfl (hb hby at_88) rfl ?_
      show Steps p.tables e below (T2.setTop (mkF m 89 #[.val (.int p1), .val (.int (p1 &&& (63 : Int32))), .val (.int (own_cs (p1 &&& (63 : Int32)))), .val (.int ((16 : Int32) * ((p1 &&& (63 : Int32)) + (1 : Int32)))), .unset, .unset, .unset] [(.int ((own_cs (p1 &&& (63 : Int32))) + (1 : Int32)))])) _
      refine st3 _ ?_
      show Steps p.tables e below (T3.setTop (mkF m 92 #[.val (.int p1), .val (.int (p1 &&& (63 : Int32))), .val (.int (own_cs (p1 &&& (63 : Int32)))), .val (.int ((16 : Int32) * ((p1 &&& (63 : Int32)) + (1 : Int32)))), .unset, .unset, .unset] [(.int (own_sc ((own_cs (p1 &&& (63 : Int32))) + (1 : Int32))))])) _
      refine XS.iloadN X3.here hx rfl (hb hby at_92) rfl ?_
      show Steps p.tables e below (T3.setTop (mkF m 93 #[.val (.int p1), .val (.int (p1 &&& (63 : Int32))), .val (.int (own_cs (p1 &&& (63 : Int32)))), .val (.int ((16 : Int32) * ((p1 &&& (63 : Int32)) + (1 : Int32)))), .unset, .unset, .unset] [(.int (p1 &&& (63 : Int32))), (.int (own_sc ((own_cs (p1 &&& (63 : Int32))) + (1 : Int32))))])) _
      refine XS.iconst X3.here hx rfl (hb hby at_93) ?_
      show Steps p.tables e below (T3.setTop (mkF m 94 #[.val (.int p1), .val (.int (p1 &&& (63 : Int32))), .val (.int (own_cs (p1 &&& (63 : Int32)))), .val (.int ((16 : Int32) * ((p1 &&& (63 : Int32)) + (1 : Int32)))), .unset, .unset, .unset] [(.int (1 : Int32)), (.int (p1 &&& (63 : Int32))), (.int (own_sc ((own_cs (p1 &&& (63 : Int32))) + (1 : Int32))))])) _
      refine XS.iadd X3.here hx rfl (hb hby at_94) rfl ?_
      show Steps p.tables e below (T3.setTop (mkF m 95 #[.val (.int p1), .val (.int (p1 &&& (63 : Int32))), .val (.int (own_cs (p1 &&& (63 : Int32)))), .val (.int ((16 : Int32) * ((p1 &&& (63 : Int32)) + (1 : Int32)))), .unset, .unset, .unset] [(.int ((p1 &&& (63 : Int32)) + (1 : Int32))), (.int (own_sc ((own_cs (p1 &&& (63 : Int32))) + (1 : Int32))))])) _
      refine XS.icmpYes X3.here hx rfl (pc0 := 95) (pc' := 100) rfl (hb hby at_95) rfl (teq (o6 : (own_sc ((own_cs (p1 &&& (63 : Int32))) + (1 : Int32))) = ((p1 &&& (63 : Int32)) + (1 : Int32)))).1 (by decide) (by decide) ?_
      show Steps p.tables e below (T3.setTop (mkF m 100 #[.val (.int p1), .val (.int (p1 &&& (63 : Int32))), .val (.int (own_cs (p1 &&& (63 : Int32)))), .val (.int ((16 : Int32) * ((p1 &&& (63 : Int32)) + (1 : Int32)))), .unset, .unset, .unset] [])) _
      refine XS.iconst X3.here hx rfl (hb hby at_100) ?_
      show Steps p.tables e below (T3.setTop (mkF m 101 #[.val (.int p1), .val (.int (p1 &&& (63 : Int32))), .val (.int (own_cs (p1 &&& (63 : Int32)))), .val (.int ((16 : Int32) * ((p1 &&& (63 : Int32)) + (1 : Int32)))), .unset, .unset, .unset] [(.int (1 : Int32))])) _
      exact retN X3 hx (t := .boolean) Bd.returns (by simp) (hb hby at_101) hr
    · show Q0 Z p1 h0 n0 _ T3.heap _
      rw [e3]
      exact ⟨rfl, N3⟩
  · by_cases h2 : (p1 &&& (63 : Int32)) < (63 : Int32)
    · obtain ⟨o5, o6⟩ := own_c3 hk h2
      obtain ⟨o7, o8⟩ := own_oks o5
      obtain ⟨_, _, ⟨T1, L1, k1, n1⟩, -, X1, ⟨Lc1, hQ1, l1, y1, z1⟩, st1⟩ := Jvm.LawKit.callS X0 hx (y := (⟨"com/example/stratavault/stratavault/storage/Allocator", "classSize", "(I)I"⟩ : MethodName)) hown (mvT hZ (hw _ (List.mem_of_getElem? (i := 0) rfl))) (mvT hZ (hw _ (List.mem_of_getElem? (i := 1) rfl))) (mvT hZ (hw _ (List.mem_of_getElem? (i := 2) rfl))) (mvT hZ (hw _ (List.mem_of_getElem? (i := 3) rfl))) (by decide) (backOf (W := 0) (rm1 l Z a0 hw [] (p1 &&& (63 : Int32)) h0 n0 Z0) hZ (hw _ (List.mem_of_getElem? (i := 3) rfl)) (hw _ (List.mem_of_getElem? (i := 2) rfl)) (by decide) (by decide)) (g := (mkF m 6 #[.val (.int p1), .val (.int (p1 &&& (63 : Int32))), .unset, .unset, .unset, .unset, .unset] [(.int (p1 &&& (63 : Int32)))])) rfl (by rw [hml]; rfl) (argsL := [(.int (p1 &&& (63 : Int32)))]) (rest := []) (lenOf pdx_0 rfl) rfl (by show 2 * 0 + _ ≤ _; exact Nat.le_of_eq rfl) (hb hby at_6) (fun _ _ => ⟨rfl, e0, (by decide : 0 + 0 ≤ _), (by decide : 0 + 0 ≤ _)⟩)
      dsimp only [Pt.U, Pt.locs, Pt.cells, Pt.slots] at X1 l1 y1 z1 st1 hQ1
      subst l1 y1 z1
      obtain ⟨rfl, N1q, e1⟩ := hQ1
      have N1 := Fr.app N0 N1q
      obtain ⟨_, _, ⟨T2, L2, k2, n2⟩, -, X2, ⟨Lc2, hQ2, l2, y2, z2⟩, st2⟩ := Jvm.LawKit.callS X1 hx (y := (⟨"com/example/stratavault/stratavault/storage/Allocator", "sizeClass", "(I)I"⟩ : MethodName)) hown (mvT hZ (hw _ (List.mem_of_getElem? (i := 4) rfl))) (mvT hZ (hw _ (List.mem_of_getElem? (i := 5) rfl))) (mvT hZ (hw _ (List.mem_of_getElem? (i := 2) rfl))) (mvT hZ (hw _ (List.mem_of_getElem? (i := 6) rfl))) (by decide) (backOf (W := 0) (rm3 l Z a0 hw [] (own_cs (p1 &&& (63 : Int32))) h0 n0 Z0 o3 o4) hZ (hw _ (List.mem_of_getElem? (i := 6) rfl)) (hw _ (List.mem_of_getElem? (i := 2) rfl)) (by decide) (by decide)) (g := (mkF m 71 #[.val (.int p1), .val (.int (p1 &&& (63 : Int32))), .val (.int (own_cs (p1 &&& (63 : Int32)))), .val (.int (((256 : Int32) <<< ((((p1 &&& (63 : Int32)) - (16 : Int32)) >>> ((2 : Int32) &&& 31)) &&& 31)) + (((((p1 &&& (63 : Int32)) - (16 : Int32)) &&& (3 : Int32)) + (1 : Int32)) * (((256 : Int32) <<< ((((p1 &&& (63 : Int32)) - (16 : Int32)) >>> ((2 : Int32) &&& 31)) &&& 31)) >>> ((2 : Int32) &&& 31))))), .val (.int (((p1 &&& (63 : Int32)) - (16 : Int32)) >>> ((2 : Int32) &&& 31))), .val (.int (((p1 &&& (63 : Int32)) - (16 : Int32)) &&& (3 : Int32))), .val (.int ((256 : Int32) <<< ((((p1 &&& (63 : Int32)) - (16 : Int32)) >>> ((2 : Int32) &&& 31)) &&& 31)))] [(.int (own_cs (p1 &&& (63 : Int32))))])) rfl (by rw [hml]; rfl) (argsL := [(.int (own_cs (p1 &&& (63 : Int32))))]) (rest := []) (lenOf pdx_0 rfl) rfl (by show 2 * 0 + _ ≤ _; exact Nat.le_of_eq rfl) (hb hby at_71) (fun _ _ => ⟨rfl, e1, (by decide : 0 + 0 ≤ _), (by decide : 0 + 0 ≤ _)⟩)
      dsimp only [Pt.U, Pt.locs, Pt.cells, Pt.slots] at X2 l2 y2 z2 st2 hQ2
      subst l2 y2 z2
      obtain ⟨rfl, N2q, e2⟩ := hQ2
      have N2 := Fr.app N1 N2q
      obtain ⟨_, _, ⟨T3, L3, k3, n3⟩, -, X3, ⟨Lc3, hQ3, l3, y3, z3⟩, st3⟩ := Jvm.LawKit.callS X2 hx (y := (⟨"com/example/stratavault/stratavault/storage/Allocator", "sizeClass", "(I)I"⟩ : MethodName)) hown (mvT hZ (hw _ (List.mem_of_getElem? (i := 4) rfl))) (mvT hZ (hw _ (List.mem_of_getElem? (i := 5) rfl))) (mvT hZ (hw _ (List.mem_of_getElem? (i := 2) rfl))) (mvT hZ (hw _ (List.mem_of_getElem? (i := 6) rfl))) (by decide) (backOf (W := 0) (rm3 l Z a0 hw [] ((own_cs (p1 &&& (63 : Int32))) + (1 : Int32)) h0 n0 Z0 o7 o8) hZ (hw _ (List.mem_of_getElem? (i := 6) rfl)) (hw _ (List.mem_of_getElem? (i := 2) rfl)) (by decide) (by decide)) (g := (mkF m 89 #[.val (.int p1), .val (.int (p1 &&& (63 : Int32))), .val (.int (own_cs (p1 &&& (63 : Int32)))), .val (.int (((256 : Int32) <<< ((((p1 &&& (63 : Int32)) - (16 : Int32)) >>> ((2 : Int32) &&& 31)) &&& 31)) + (((((p1 &&& (63 : Int32)) - (16 : Int32)) &&& (3 : Int32)) + (1 : Int32)) * (((256 : Int32) <<< ((((p1 &&& (63 : Int32)) - (16 : Int32)) >>> ((2 : Int32) &&& 31)) &&& 31)) >>> ((2 : Int32) &&& 31))))), .val (.int (((p1 &&& (63 : Int32)) - (16 : Int32)) >>> ((2 : Int32) &&& 31))), .val (.int (((p1 &&& (63 : Int32)) - (16 : Int32)) &&& (3 : Int32))), .val (.int ((256 : Int32) <<< ((((p1 &&& (63 : Int32)) - (16 : Int32)) >>> ((2 : Int32) &&& 31)) &&& 31)))] [(.int ((own_cs (p1 &&& (63 : Int32))) + (1 : Int32)))])) rfl (by rw [hml]; rfl) (argsL := [(.int ((own_cs (p1 &&& (63 : Int32))) + (1 : Int32)))]) (rest := []) (lenOf pdx_0 rfl) rfl (by show 2 * 0 + _ ≤ _; exact Nat.le_of_eq rfl) (hb hby at_89) (fun _ _ => ⟨rfl, e2, (by decide : 0 + 0 ≤ _), (by decide : 0 + 0 ≤ _)⟩)
      dsimp only [Pt.U, Pt.locs, Pt.cells, Pt.slots] at X3 l3 y3 z3 st3 hQ3
      subst l3 y3 z3
      obtain ⟨rfl, N3q, e3⟩ := hQ3
      have N3 := Fr.app N2 N3q
      obtain ⟨fs, hr, hrun, hended, hW, hsame⟩ := X3.leave (v := some (.int (1 : Int32))) (fun h => by rw [Bd.returns] at h; cases h)
      refine ⟨_, _, pre0 _ ?_, hrun, hended, _, _, rfl, ?_, ⟨_, rfl⟩, hW, hsame.mono (by decide) (by decide)⟩
      · show Steps p.tables e below (s₁.setTop (mkF m 0 #[.val (.int p1), .unset, .unset, .unset, .unset, .unset, .unset] [])) _
        refine XS.iloadN X0.here hx rfl (hb hby at_0) rfl ?_
        show Steps p.tables e below (s₁.setTop (mkF m 1 #[.val (.int p1), .unset, .unset, .unset, .unset, .unset, .unset] [(.int p1)])) _
        refine XS.bipush X0.here hx rfl (hb hby at_1) ?_
        show Steps p.tables e below (s₁.setTop (mkF m 3 #[.val (.int p1), .unset, .unset, .unset, .unset, .unset, .unset] [(.int (63 : Int32)), (.int p1)])) _
        refine XS.iand X0.here hx rfl (hb hby at_3) rfl ?_
        show Steps p.tables e below (s₁.setTop (mkF m 4 #[.val (.int p1), .unset, .unset, .unset, .unset, .unset, .unset] [(.int (p1 &&& (63 : Int32)))])) _
        refine XS.istoreN X0.here hx rfl (hb hby at_4) rfl (l' := #[.val (.int p1), .val (.int (p1 &&& (63 : Int32))), .unset, .unset, .unset, .unset, .unset]) rfl ?_
        show Steps p.tables e below (s₁.setTop (mkF m 5 #[.val (.int p1), .val (.int (p1 &&& (63 : Int32))), .unset, .unset, .unset, .unset, .unset] [])) _
        refine XS.iloadN X0.here hx rfl (hb hby at_5) rfl ?_
        show Steps p.tables e below (s₁.setTop (mkF m 6 #[.val (.int p1), .val (.int (p1 &&& (63 : Int32))), .unset, .unset, .unset, .unset, .unset] [(.int (p1 &&& (63 : Int32)))])) _
        refine st1 _ ?_
        show Steps p.tables e below (T1.setTop (mkF m 9 #[.val (.int p1), .val (.int (p1 &&& (63 : Int32))), .unset, .unset, .unset, .unset, .unset] [(.int (own_cs (p1 &&& (63 : Int32))))])) _
        refine XS.istoreN X1.here hx rfl (hb hby at_9) rfl (l' := #[.val (.int p1), .val (.int (p1 &&& (63 : Int32))), .val (.int (own_cs (p1 &&& (63 : Int32)))), .unset, .unset, .unset, .unset]) rfl ?_
        show Steps p.tables e below (T1.setTop (mkF m 10 #[.val (.int p1), .val (.int (p1 &&& (63 : Int32))), .val (.int (own_cs (p1 &&& (63 : Int32)))), .unset, .unset, .unset, .unset] [])) _
        refine XS.iloadN X1.here hx rfl (hb hby at_10) rfl ?_
        show Steps p.tables e below (T1.setTop (mkF m 11 #[.val (.int p1), .val (.int (p1 &&& (63 : Int32))), .val (.int (own_cs (p1 &&& (63 : Int32)))), .unset, .unset, .unset, .unset] [(.int (p1 &&& (63 : Int32)))])) _
        refine XS.bipush X1.here hx rfl (hb hby at_11) ?_
        show Steps p.tables e below (T1.setTop (mkF m 13 #[.val (.int p1), .val (.int (p1 &&& (63 : Int32))), .val (.int (own_cs (p1 &&& (63 : Int32)))), .unset, .unset, .unset, .unset] [(.int (16 : Int32)), (.int (p1 &&& (63 : Int32)))])) _
        refine XS.icmpYes X1.here hx rfl (pc0 := 13) (pc' := 26) rfl (hb hby at_13) rfl (flt (h1 : ¬ ((p1 &&& (63 : Int32)) < (16 : Int32)))).2.1 (by decide) (by decide) ?_
        show Steps p.tables e below (T1.setTop (mkF m 26 #[.val (.int p1), .val (.int (p1 &&& (63 : Int32))), .val (.int (own_cs (p1 &&& (63 : Int32)))), .unset, .unset, .unset, .unset] [])) _
        refine XS.iloadN X1.here hx rfl (hb hby at_26) rfl ?_
        show Steps p.tables e below (T1.setTop (mkF m 27 #[.val (.int p1), .val (.int (p1 &&& (63 : Int32))), .val (.int (own_cs (p1 &&& (63 : Int32)))), .unset, .unset, .unset, .unset] [(.int (p1 &&& (63 : Int32)))])) _
        refine XS.bipush X1.here hx rfl (hb hby at_27) ?_
        show Steps p.tables e below (T1.setTop (mkF m 29 #[.val (.int p1), .val (.int (p1 &&& (63 : Int32))), .val (.int (own_cs (p1 &&& (63 : Int32)))), .unset, .unset, .unset, .unset] [(.int (16 : Int32)), (.int (p1 &&& (63 : Int32)))])) _
        refine XS.isub X1.here hx rfl (hb hby at_29) rfl ?_
        show Steps p.tables e below (T1.setTop (mkF m 30 #[.val (.int p1), .val (.int (p1 &&& (63 : Int32))), .val (.int (own_cs (p1 &&& (63 : Int32)))), .unset, .unset, .unset, .unset] [(.int ((p1 &&& (63 : Int32)) - (16 : Int32)))])) _
        refine XS.iconst X1.here hx rfl (hb hby at_30) ?_
        show Steps p.tables e below (T1.setTop (mkF m 31 #[.val (.int p1), .val (.int (p1 &&& (63 : Int32))), .val (.int (own_cs (p1 &&& (63 : Int32)))), .unset, .unset, .unset, .unset] [(.int (2 : Int32)), (.int ((p1 &&& (63 : Int32)) - (16 : Int32)))])) _
        refine XS.ishr X1.here hx rfl (hb hby at_31) rfl ?_
        show Steps p.tables e below (T1.setTop (mkF m 32 #[.val (.int p1), .val (.int (p1 &&& (63 : Int32))), .val (.int (own_cs (p1 &&& (63 : Int32)))), .unset, .unset, .unset, .unset] [(.int (((p1 &&& (63 : Int32)) - (16 : Int32)) >>> ((2 : Int32) &&& 31)))])) _
        refine XS.istore X1.here hx rfl (hb hby at_32) rfl (l' := #[.val (.int p1), .val (.int (p1 &&& (63 : Int32))), .val (.int (own_cs (p1 &&& (63 : Int32)))), .unset, .val (.int (((p1 &&& (63 : Int32)) - (16 : Int32)) >>> ((2 : Int32) &&& 31))), .unset, .unset]) rfl ?_
        show Steps p.tables e below (T1.setTop (mkF m 34 #[.val (.int p1), .val (.int (p1 &&& (63 : Int32))), .val (.int (own_cs (p1 &&& (63 : Int32)))), .unset, .val (.int (((p1 &&& (63 : Int32)) - (16 : Int32)) >>> ((2 : Int32) &&& 31))), .unset, .unset] [])) _
        refine XS.iloadN X1.here hx rfl (hb hby at_34) rfl ?_
        show Steps p.tables e below (T1.setTop (mkF m 35 #[.val (.int p1), .val (.int (p1 &&& (63 : Int32))), .val (.int (own_cs (p1 &&& (63 : Int32)))), .unset, .val (.int (((p1 &&& (63 : Int32)) - (16 : Int32)) >>> ((2 : Int32) &&& 31))), .unset, .unset] [(.int (p1 &&& (63 : Int32)))])) _
        refine XS.bipush X1.here hx rfl (hb hby at_35) ?_
        show Steps p.tables e below (T1.setTop (mkF m 37 #[.val (.int p1), .val (.int (p1 &&& (63 : Int32))), .val (.int (own_cs (p1 &&& (63 : Int32)))), .unset, .val (.int (((p1 &&& (63 : Int32)) - (16 : Int32)) >>> ((2 : Int32) &&& 31))), .unset, .unset] [(.int (16 : Int32)), (.int (p1 &&& (63 : Int32)))])) _
        refine XS.isub X1.here hx rfl (hb hby at_37) rfl ?_
        show Steps p.tables e below (T1.setTop (mkF m 38 #[.val (.int p1), .val (.int (p1 &&& (63 : Int32))), .val (.int (own_cs (p1 &&& (63 : Int32)))), .unset, .val (.int (((p1 &&& (63 : Int32)) - (16 : Int32)) >>> ((2 : Int32) &&& 31))), .unset, .unset] [(.int ((p1 &&& (63 : Int32)) - (16 : Int32)))])) _
        refine XS.iconst X1.here hx rfl (hb hby at_38) ?_
        show Steps p.tables e below (T1.setTop (mkF m 39 #[.val (.int p1), .val (.int (p1 &&& (63 : Int32))), .val (.int (own_cs (p1 &&& (63 : Int32)))), .unset, .val (.int (((p1 &&& (63 : Int32)) - (16 : Int32)) >>> ((2 : Int32) &&& 31))), .unset, .unset] [(.int (3 : Int32)), (.int ((p1 &&& (63 : Int32)) - (16 : Int32)))])) _
        refine XS.iand X1.here hx rfl (hb hby at_39) rfl ?_
        show Steps p.tables e below (T1.setTop (mkF m 40 #[.val (.int p1), .val (.int (p1 &&& (63 : Int32))), .val (.int (own_cs (p1 &&& (63 : Int32)))), .unset, .val (.int (((p1 &&& (63 : Int32)) - (16 : Int32)) >>> ((2 : Int32) &&& 31))), .unset, .unset] [(.int (((p1 &&& (63 : Int32)) - (16 : Int32)) &&& (3 : Int32)))])) _
        refine XS.istore X1.here hx rfl (hb hby at_40) rfl (l' := #[.val (.int p1), .val (.int (p1 &&& (63 : Int32))), .val (.int (own_cs (p1 &&& (63 : Int32)))), .unset, .val (.int (((p1 &&& (63 : Int32)) - (16 : Int32)) >>> ((2 : Int32) &&& 31))), .val (.int (((p1 &&& (63 : Int32)) - (16 : Int32)) &&& (3 : Int32))), .unset]) rfl ?_
        show Steps p.tables e below (T1.setTop (mkF m 42 #[.val (.int p1), .val (.int (p1 &&& (63 : Int32))), .val (.int (own_cs (p1 &&& (63 : Int32)))), .unset, .val (.int (((p1 &&& (63 : Int32)) - (16 : Int32)) >>> ((2 : Int32) &&& 31))), .val (.int (((p1 &&& (63 : Int32)) - (16 : Int32)) &&& (3 : Int32))), .unset] [])) _
        refine XS.sipush X1.here hx rfl (hb hby at_42) ?_
        show Steps p.tables e below (T1.setTop (mkF m 45 #[.val (.int p1), .val (.int (p1 &&& (63 : Int32))), .val (.int (own_cs (p1 &&& (63 : Int32)))), .unset, .val (.int (((p1 &&& (63 : Int32)) - (16 : Int32)) >>> ((2 : Int32) &&& 31))), .val (.int (((p1 &&& (63 : Int32)) - (16 : Int32)) &&& (3 : Int32))), .unset] [(.int (256 : Int32))])) _
        refine XS.iload X1.here hx rfl (hb hby at_45) rfl ?_
        show Steps p.tables e below (T1.setTop (mkF m 47 #[.val (.int p1), .val (.int (p1 &&& (63 : Int32))), .val (.int (own_cs (p1 &&& (63 : Int32)))), .unset, .val (.int (((p1 &&& (63 : Int32)) - (16 : Int32)) >>> ((2 : Int32) &&& 31))), .val (.int (((p1 &&& (63 : Int32)) - (16 : Int32)) &&& (3 : Int32))), .unset] [(.int (((p1 &&& (63 : Int32)) - (16 : Int32)) >>> ((2 : Int32) &&& 31))), (.int (256 : Int32))])) _
        refine XS.ishl X1.here hx rfl (hb hby at_47) rfl ?_
        show Steps p.tables e below (T1.setTop (mkF m 48 #[.val (.int p1), .val (.int (p1 &&& (63 : Int32))), .val (.int (own_cs (p1 &&& (63 : Int32)))), .unset, .val (.int (((p1 &&& (63 : Int32)) - (16 : Int32)) >>> ((2 : Int32) &&& 31))), .val (.int (((p1 &&& (63 : Int32)) - (16 : Int32)) &&& (3 : Int32))), .unset] [(.int ((256 : Int32) <<< ((((p1 &&& (63 : Int32)) - (16 : Int32)) >>> ((2 : Int32) &&& 31)) &&& 31)))])) _
        refine XS.istore X1.here hx rfl (hb hby at_48) rfl (l' := #[.val (.int p1), .val (.int (p1 &&& (63 : Int32))), .val (.int (own_cs (p1 &&& (63 : Int32)))), .unset, .val (.int (((p1 &&& (63 : Int32)) - (16 : Int32)) >>> ((2 : Int32) &&& 31))), .val (.int (((p1 &&& (63 : Int32)) - (16 : Int32)) &&& (3 : Int32))), .val (.int ((256 : Int32) <<< ((((p1 &&& (63 : Int32)) - (16 : Int32)) >>> ((2 : Int32) &&& 31)) &&& 31)))]) rfl ?_
        show Steps p.tables e below (T1.setTop (mkF m 50 #[.val (.int p1), .val (.int (p1 &&& (63 : Int32))), .val (.int (own_cs (p1 &&& (63 : Int32)))), .unset, .val (.int (((p1 &&& (63 : Int32)) - (16 : Int32)) >>> ((2 : Int32) &&& 31))), .val (.int (((p1 &&& (63 : Int32)) - (16 : Int32)) &&& (3 : Int32))), .val (.int ((256 : Int32) <<< ((((p1 &&& (63 : Int32)) - (16 : Int32)) >>> ((2 : Int32) &&& 31)) &&& 31)))] [])) _
        refine XS.iload X1.here hx rfl (hb hby at_50) rfl ?_
        show Steps p.tables e below (T1.setTop (mkF m 52 #[.val (.int p1), .val (.int (p1 &&& (63 : Int32))), .val (.int (own_cs (p1 &&& (63 : Int32)))), .unset, .val (.int (((p1 &&& (63 : Int32)) - (16 : Int32)) >>> ((2 : Int32) &&& 31))), .val (.int (((p1 &&& (63 : Int32)) - (16 : Int32)) &&& (3 : Int32))), .val (.int ((256 : Int32) <<< ((((p1 &&& (63 : Int32)) - (16 : Int32)) >>> ((2 : Int32) &&& 31)) &&& 31)))] [(.int ((256 : Int32) <<< ((((p1 &&& (63 : Int32)) - (16 : Int32)) >>> ((2 : Int32) &&& 31)) &&& 31)))])) _
        refine XS.iload X1.here hx rfl (hb hby at_52) rfl ?_
        show Steps p.tables e below (T1.setTop (mkF m 54 #[.val (.int p1), .val (.int (p1 &&& (63 : Int32))), .val (.int (own_cs (p1 &&& (63 : Int32)))), .unset, .val (.int (((p1 &&& (63 : Int32)) - (16 : Int32)) >>> ((2 : Int32) &&& 31))), .val (.int (((p1 &&& (63 : Int32)) - (16 : Int32)) &&& (3 : Int32))), .val (.int ((256 : Int32) <<< ((((p1 &&& (63 : Int32)) - (16 : Int32)) >>> ((2 : Int32) &&& 31)) &&& 31)))] [(.int (((p1 &&& (63 : Int32)) - (16 : Int32)) &&& (3 : Int32))), (.int ((256 : Int32) <<< ((((p1 &&& (63 : Int32)) - (16 : Int32)) >>> ((2 : Int32) &&& 31)) &&& 31)))])) _
        refine XS.iconst X1.here hx rfl (hb hby at_54) ?_
        show Steps p.tables e below (T1.setTop (mkF m 55 #[.val (.int p1), .val (.int (p1 &&& (63 : Int32))), .val (.int (own_cs (p1 &&& (63 : Int32)))), .unset, .val (.int (((p1 &&& (63 : Int32)) - (16 : Int32)) >>> ((2 : Int32) &&& 31))), .val (.int (((p1 &&& (63 : Int32)) - (16 : Int32)) &&& (3 : Int32))), .val (.int ((256 : Int32) <<< ((((p1 &&& (63 : Int32)) - (16 : Int32)) >>> ((2 : Int32) &&& 31)) &&& 31)))] [(.int (1 : Int32)), (.int (((p1 &&& (63 : Int32)) - (16 : Int32)) &&& (3 : Int32))), (.int ((256 : Int32) <<< ((((p1 &&& (63 : Int32)) - (16 : Int32)) >>> ((2 : Int32) &&& 31)) &&& 31)))])) _
        refine XS.iadd X1.here hx rfl (hb hby at_55) rfl ?_
        show Steps p.tables e below (T1.setTop (mkF m 56 #[.val (.int p1), .val (.int (p1 &&& (63 : Int32))), .val (.int (own_cs (p1 &&& (63 : Int32)))), .unset, .val (.int (((p1 &&& (63 : Int32)) - (16 : Int32)) >>> ((2 : Int32) &&& 31))), .val (.int (((p1 &&& (63 : Int32)) - (16 : Int32)) &&& (3 : Int32))), .val (.int ((256 : Int32) <<< ((((p1 &&& (63 : Int32)) - (16 : Int32)) >>> ((2 : Int32) &&& 31)) &&& 31)))] [(.int ((((p1 &&& (63 : Int32)) - (16 : Int32)) &&& (3 : Int32)) + (1 : Int32))), (.int ((256 : Int32) <<< ((((p1 &&& (63 : Int32)) - (16 : Int32)) >>> ((2 : Int32) &&& 31)) &&& 31)))])) _
        refine XS.iload X1.here hx rfl (hb hby at_56) rfl ?_
        show Steps p.tables e below (T1.setTop (mkF m 58 #[.val (.int p1), .val (.int (p1 &&& (63 : Int32))), .val (.int (own_cs (p1 &&& (63 : Int32)))), .unset, .val (.int (((p1 &&& (63 : Int32)) - (16 : Int32)) >>> ((2 : Int32) &&& 31))), .val (.int (((p1 &&& (63 : Int32)) - (16 : Int32)) &&& (3 : Int32))), .val (.int ((256 : Int32) <<< ((((p1 &&& (63 : Int32)) - (16 : Int32)) >>> ((2 : Int32) &&& 31)) &&& 31)))] [(.int ((256 : Int32) <<< ((((p1 &&& (63 : Int32)) - (16 : Int32)) >>> ((2 : Int32) &&& 31)) &&& 31))), (.int ((((p1 &&& (63 : Int32)) - (16 : Int32)) &&& (3 : Int32)) + (1 : Int32))), (.int ((256 : Int32) <<< ((((p1 &&& (63 : Int32)) - (16 : Int32)) >>> ((2 : Int32) &&& 31)) &&& 31)))])) _
        refine XS.iconst X1.here hx rfl (hb hby at_58) ?_
        show Steps p.tables e below (T1.setTop (mkF m 59 #[.val (.int p1), .val (.int (p1 &&& (63 : Int32))), .val (.int (own_cs (p1 &&& (63 : Int32)))), .unset, .val (.int (((p1 &&& (63 : Int32)) - (16 : Int32)) >>> ((2 : Int32) &&& 31))), .val (.int (((p1 &&& (63 : Int32)) - (16 : Int32)) &&& (3 : Int32))), .val (.int ((256 : Int32) <<< ((((p1 &&& (63 : Int32)) - (16 : Int32)) >>> ((2 : Int32) &&& 31)) &&& 31)))] [(.int (2 : Int32)), (.int ((256 : Int32) <<< ((((p1 &&& (63 : Int32)) - (16 : Int32)) >>> ((2 : Int32) &&& 31)) &&& 31))), (.int ((((p1 &&& (63 : Int32)) - (16 : Int32)) &&& (3 : Int32)) + (1 : Int32))), (.int ((256 : Int32) <<< ((((p1 &&& (63 : Int32)) - (16 : Int32)) >>> ((2 : Int32) &&& 31)) &&& 31)))])) _
        refine XS.ishr X1.here hx rfl (hb hby at_59) rfl ?_
        show Steps p.tables e below (T1.setTop (mkF m 60 #[.val (.int p1), .val (.int (p1 &&& (63 : Int32))), .val (.int (own_cs (p1 &&& (63 : Int32)))), .unset, .val (.int (((p1 &&& (63 : Int32)) - (16 : Int32)) >>> ((2 : Int32) &&& 31))), .val (.int (((p1 &&& (63 : Int32)) - (16 : Int32)) &&& (3 : Int32))), .val (.int ((256 : Int32) <<< ((((p1 &&& (63 : Int32)) - (16 : Int32)) >>> ((2 : Int32) &&& 31)) &&& 31)))] [(.int (((256 : Int32) <<< ((((p1 &&& (63 : Int32)) - (16 : Int32)) >>> ((2 : Int32) &&& 31)) &&& 31)) >>> ((2 : Int32) &&& 31))), (.int ((((p1 &&& (63 : Int32)) - (16 : Int32)) &&& (3 : Int32)) + (1 : Int32))), (.int ((256 : Int32) <<< ((((p1 &&& (63 : Int32)) - (16 : Int32)) >>> ((2 : Int32) &&& 31)) &&& 31)))])) _
        refine XS.imul X1.here hx rfl (hb hby at_60) rfl ?_
        show Steps p.tables e below (T1.setTop (mkF m 61 #[.val (.int p1), .val (.int (p1 &&& (63 : Int32))), .val (.int (own_cs (p1 &&& (63 : Int32)))), .unset, .val (.int (((p1 &&& (63 : Int32)) - (16 : Int32)) >>> ((2 : Int32) &&& 31))), .val (.int (((p1 &&& (63 : Int32)) - (16 : Int32)) &&& (3 : Int32))), .val (.int ((256 : Int32) <<< ((((p1 &&& (63 : Int32)) - (16 : Int32)) >>> ((2 : Int32) &&& 31)) &&& 31)))] [(.int (((((p1 &&& (63 : Int32)) - (16 : Int32)) &&& (3 : Int32)) + (1 : Int32)) * (((256 : Int32) <<< ((((p1 &&& (63 : Int32)) - (16 : Int32)) >>> ((2 : Int32) &&& 31)) &&& 31)) >>> ((2 : Int32) &&& 31)))), (.int ((256 : Int32) <<< ((((p1 &&& (63 : Int32)) - (16 : Int32)) >>> ((2 : Int32) &&& 31)) &&& 31)))])) _
        refine XS.iadd X1.here hx rfl (hb hby at_61) rfl ?_
        show Steps p.tables e below (T1.setTop (mkF m 62 #[.val (.int p1), .val (.int (p1 &&& (63 : Int32))), .val (.int (own_cs (p1 &&& (63 : Int32)))), .unset, .val (.int (((p1 &&& (63 : Int32)) - (16 : Int32)) >>> ((2 : Int32) &&& 31))), .val (.int (((p1 &&& (63 : Int32)) - (16 : Int32)) &&& (3 : Int32))), .val (.int ((256 : Int32) <<< ((((p1 &&& (63 : Int32)) - (16 : Int32)) >>> ((2 : Int32) &&& 31)) &&& 31)))] [(.int (((256 : Int32) <<< ((((p1 &&& (63 : Int32)) - (16 : Int32)) >>> ((2 : Int32) &&& 31)) &&& 31)) + (((((p1 &&& (63 : Int32)) - (16 : Int32)) &&& (3 : Int32)) + (1 : Int32)) * (((256 : Int32) <<< ((((p1 &&& (63 : Int32)) - (16 : Int32)) >>> ((2 : Int32) &&& 31)) &&& 31)) >>> ((2 : Int32) &&& 31)))))])) _
        refine XS.istoreN X1.here hx rfl (hb hby at_62) rfl (l' := #[.val (.int p1), .val (.int (p1 &&& (63 : Int32))), .val (.int (own_cs (p1 &&& (63 : Int32)))), .val (.int (((256 : Int32) <<< ((((p1 &&& (63 : Int32)) - (16 : Int32)) >>> ((2 : Int32) &&& 31)) &&& 31)) + (((((p1 &&& (63 : Int32)) - (16 : Int32)) &&& (3 : Int32)) + (1 : Int32)) * (((256 : Int32) <<< ((((p1 &&& (63 : Int32)) - (16 : Int32)) >>> ((2 : Int32) &&& 31)) &&& 31)) >>> ((2 : Int32) &&& 31))))), .val (.int (((p1 &&& (63 : Int32)) - (16 : Int32)) >>> ((2 : Int32) &&& 31))), .val (.int (((p1 &&& (63 : Int32)) - (16 : Int32)) &&& (3 : Int32))), .val (.int ((256 : Int32) <<< ((((p1 &&& (63 : Int32)) - (16 : Int32)) >>> ((2 : Int32) &&& 31)) &&& 31)))]) rfl ?_
        show Steps p.tables e below (T1.setTop (mkF m 63 #[.val (.int p1), .val (.int (p1 &&& (63 : Int32))), .val (.int (own_cs (p1 &&& (63 : Int32)))), .val (.int (((256 : Int32) <<< ((((p1 &&& (63 : Int32)) - (16 : Int32)) >>> ((2 : Int32) &&& 31)) &&& 31)) + (((((p1 &&& (63 : Int32)) - (16 : Int32)) &&& (3 : Int32)) + (1 : Int32)) * (((256 : Int32) <<< ((((p1 &&& (63 : Int32)) - (16 : Int32)) >>> ((2 : Int32) &&& 31)) &&& 31)) >>> ((2 : Int32) &&& 31))))), .val (.int (((p1 &&& (63 : Int32)) - (16 : Int32)) >>> ((2 : Int32) &&& 31))), .val (.int (((p1 &&& (63 : Int32)) - (16 : Int32)) &&& (3 : Int32))), .val (.int ((256 : Int32) <<< ((((p1 &&& (63 : Int32)) - (16 : Int32)) >>> ((2 : Int32) &&& 31)) &&& 31)))] [])) _
        refine XS.iloadN X1.here hx rfl (hb hby at_63) rfl ?_
        show Steps p.tables e below (T1.setTop (mkF m 64 #[.val (.int p1), .val (.int (p1 &&& (63 : Int32))), .val (.int (own_cs (p1 &&& (63 : Int32)))), .val (.int (((256 : Int32) <<< ((((p1 &&& (63 : Int32)) - (16 : Int32)) >>> ((2 : Int32) &&& 31)) &&& 31)) + (((((p1 &&& (63 : Int32)) - (16 : Int32)) &&& (3 : Int32)) + (1 : Int32)) * (((256 : Int32) <<< ((((p1 &&& (63 : Int32)) - (16 : Int32)) >>> ((2 : Int32) &&& 31)) &&& 31)) >>> ((2 : Int32) &&& 31))))), .val (.int (((p1 &&& (63 : Int32)) - (16 : Int32)) >>> ((2 : Int32) &&& 31))), .val (.int (((p1 &&& (63 : Int32)) - (16 : Int32)) &&& (3 : Int32))), .val (.int ((256 : Int32) <<< ((((p1 &&& (63 : Int32)) - (16 : Int32)) >>> ((2 : Int32) &&& 31)) &&& 31)))] [(.int (own_cs (p1 &&& (63 : Int32))))])) _
        refine XS.iloadN X1.here hx rfl (hb hby at_64) rfl ?_
        show Steps p.tables e below (T1.setTop (mkF m 65 #[.val (.int p1), .val (.int (p1 &&& (63 : Int32))), .val (.int (own_cs (p1 &&& (63 : Int32)))), .val (.int (((256 : Int32) <<< ((((p1 &&& (63 : Int32)) - (16 : Int32)) >>> ((2 : Int32) &&& 31)) &&& 31)) + (((((p1 &&& (63 : Int32)) - (16 : Int32)) &&& (3 : Int32)) + (1 : Int32)) * (((256 : Int32) <<< ((((p1 &&& (63 : Int32)) - (16 : Int32)) >>> ((2 : Int32) &&& 31)) &&& 31)) >>> ((2 : Int32) &&& 31))))), .val (.int (((p1 &&& (63 : Int32)) - (16 : Int32)) >>> ((2 : Int32) &&& 31))), .val (.int (((p1 &&& (63 : Int32)) - (16 : Int32)) &&& (3 : Int32))), .val (.int ((256 : Int32) <<< ((((p1 &&& (63 : Int32)) - (16 : Int32)) >>> ((2 : Int32) &&& 31)) &&& 31)))] [(.int (((256 : Int32) <<< ((((p1 &&& (63 : Int32)) - (16 : Int32)) >>> ((2 : Int32) &&& 31)) &&& 31)) + (((((p1 &&& (63 : Int32)) - (16 : Int32)) &&& (3 : Int32)) + (1 : Int32)) * (((256 : Int32) <<< ((((p1 &&& (63 : Int32)) - (16 : Int32)) >>> ((2 : Int32) &&& 31)) &&& 31)) >>> ((2 : Int32) &&& 31))))), (.int (own_cs (p1 &&& (63 : Int32))))])) _
        refine XS.icmpYes X1.here hx rfl (pc0 := 65) (pc' := 70) rfl (hb hby at_65) rfl (teq (own_c1 hk h1 : (own_cs (p1 &&& (63 : Int32))) = (((256 : Int32) <<< ((((p1 &&& (63 : Int32)) - (16 : Int32)) >>> ((2 : Int32) &&& 31)) &&& 31)) + (((((p1 &&& (63 : Int32)) - (16 : Int32)) &&& (3 : Int32)) + (1 : Int32)) * (((256 : Int32) <<< ((((p1 &&& (63 : Int32)) - (16 : Int32)) >>> ((2 : Int32) &&& 31)) &&& 31)) >>> ((2 : Int32) &&& 31)))))).1 (by decide) (by decide) ?_
        show Steps p.tables e below (T1.setTop (mkF m 70 #[.val (.int p1), .val (.int (p1 &&& (63 : Int32))), .val (.int (own_cs (p1 &&& (63 : Int32)))), .val (.int (((256 : Int32) <<< ((((p1 &&& (63 : Int32)) - (16 : Int32)) >>> ((2 : Int32) &&& 31)) &&& 31)) + (((((p1 &&& (63 : Int32)) - (16 : Int32)) &&& (3 : Int32)) + (1 : Int32)) * (((256 : Int32) <<< ((((p1 &&& (63 : Int32)) - (16 : Int32)) >>> ((2 : Int32) &&& 31)) &&& 31)) >>> ((2 : Int32) &&& 31))))), .val (.int (((p1 &&& (63 : Int32)) - (16 : Int32)) >>> ((2 : Int32) &&& 31))), .val (.int (((p1 &&& (63 : Int32)) - (16 : Int32)) &&& (3 : Int32))), .val (.int ((256 : Int32) <<< ((((p1 &&& (63 : Int32)) - (16 : Int32)) >>> ((2 : Int32) &&& 31)) &&& 31)))] [])) _
        refine XS.iloadN X1.here hx rfl (hb hby at_70) rfl ?_
        show Steps p.tables e below (T1.setTop (mkF m 71 #[.val (.int p1), .val (.int (p1 &&& (63 : Int32))), .val (.int (own_cs (p1 &&& (63 : Int32)))), .val (.int (((256 : Int32) <<< ((((p1 &&& (63 : Int32)) - (16 : Int32)) >>> ((2 : Int32) &&& 31)) &&& 31)) + (((((p1 &&& (63 : Int32)) - (16 : Int32)) &&& (3 : Int32)) + (1 : Int32)) * (((256 : Int32) <<< ((((p1 &&& (63 : Int32)) - (16 : Int32)) >>> ((2 : Int32) &&& 31)) &&& 31)) >>> ((2 : Int32) &&& 31))))), .val (.int (((p1 &&& (63 : Int32)) - (16 : Int32)) >>> ((2 : Int32) &&& 31))), .val (.int (((p1 &&& (63 : Int32)) - (16 : Int32)) &&& (3 : Int32))), .val (.int ((256 : Int32) <<< ((((p1 &&& (63 : Int32)) - (16 : Int32)) >>> ((2 : Int32) &&& 31)) &&& 31)))] [(.int (own_cs (p1 &&& (63 : Int32))))])) _
        refine st2 _ ?_
        show Steps p.tables e below (T2.setTop (mkF m 74 #[.val (.int p1), .val (.int (p1 &&& (63 : Int32))), .val (.int (own_cs (p1 &&& (63 : Int32)))), .val (.int (((256 : Int32) <<< ((((p1 &&& (63 : Int32)) - (16 : Int32)) >>> ((2 : Int32) &&& 31)) &&& 31)) + (((((p1 &&& (63 : Int32)) - (16 : Int32)) &&& (3 : Int32)) + (1 : Int32)) * (((256 : Int32) <<< ((((p1 &&& (63 : Int32)) - (16 : Int32)) >>> ((2 : Int32) &&& 31)) &&& 31)) >>> ((2 : Int32) &&& 31))))), .val (.int (((p1 &&& (63 : Int32)) - (16 : Int32)) >>> ((2 : Int32) &&& 31))), .val (.int (((p1 &&& (63 : Int32)) - (16 : Int32)) &&& (3 : Int32))), .val (.int ((256 : Int32) <<< ((((p1 &&& (63 : Int32)) - (16 : Int32)) >>> ((2 : Int32) &&& 31)) &&& 31)))] [(.int (own_sc (own_cs (p1 &&& (63 : Int32)))))])) _
        refine XS.iloadN X2.here hx rfl (hb hby at_74) rfl ?_
        show Steps p.tables e below (T2.setTop (mkF m 75 #[.val (.int p1), .val (.int (p1 &&& (63 : Int32))), .val (.int (own_cs (p1 &&& (63 : Int32)))), .val (.int (((256 : Int32) <<< ((((p1 &&& (63 : Int32)) - (16 : Int32)) >>> ((2 : Int32) &&& 31)) &&& 31)) + (((((p1 &&& (63 : Int32)) - (16 : Int32)) &&& (3 : Int32)) + (1 : Int32)) * (((256 : Int32) <<< ((((p1 &&& (63 : Int32)) - (16 : Int32)) >>> ((2 : Int32) &&& 31)) &&& 31)) >>> ((2 : Int32) &&& 31))))), .val (.int (((p1 &&& (63 : Int32)) - (16 : Int32)) >>> ((2 : Int32) &&& 31))), .val (.int (((p1 &&& (63 : Int32)) - (16 : Int32)) &&& (3 : Int32))), .val (.int ((256 : Int32) <<< ((((p1 &&& (63 : Int32)) - (16 : Int32)) >>> ((2 : Int32) &&& 31)) &&& 31)))] [(.int (p1 &&& (63 : Int32))), (.int (own_sc (own_cs (p1 &&& (63 : Int32)))))])) _
        refine XS.icmpYes X2.here hx rfl (pc0 := 75) (pc' := 80) rfl (hb hby at_75) rfl (teq (o2 : (own_sc (own_cs (p1 &&& (63 : Int32)))) = (p1 &&& (63 : Int32)))).1 (by decide) (by decide) ?_
        show Steps p.tables e below (T2.setTop (mkF m 80 #[.val (.int p1), .val (.int (p1 &&& (63 : Int32))), .val (.int (own_cs (p1 &&& (63 : Int32)))), .val (.int (((256 : Int32) <<< ((((p1 &&& (63 : Int32)) - (16 : Int32)) >>> ((2 : Int32) &&& 31)) &&& 31)) + (((((p1 &&& (63 : Int32)) - (16 : Int32)) &&& (3 : Int32)) + (1 : Int32)) * (((256 : Int32) <<< ((((p1 &&& (63 : Int32)) - (16 : Int32)) >>> ((2 : Int32) &&& 31)) &&& 31)) >>> ((2 : Int32) &&& 31))))), .val (.int (((p1 &&& (63 : Int32)) - (16 : Int32)) >>> ((2 : Int32) &&& 31))), .val (.int (((p1 &&& (63 : Int32)) - (16 : Int32)) &&& (3 : Int32))), .val (.int ((256 : Int32) <<< ((((p1 &&& (63 : Int32)) - (16 : Int32)) >>> ((2 : Int32) &&& 31)) &&& 31)))] [])) _
        refine XS.iloadN X2.here hx rfl (hb hby at_80) rfl ?_
        show Steps p.tables e below (T2.setTop (mkF m 81 #[.val (.int p1), .val (.int (p1 &&& (63 : Int32))), .val (.int (own_cs (p1 &&& (63 : Int32)))), .val (.int (((256 : Int32) <<< ((((p1 &&& (63 : Int32)) - (16 : Int32)) >>> ((2 : Int32) &&& 31)) &&& 31)) + (((((p1 &&& (63 : Int32)) - (16 : Int32)) &&& (3 : Int32)) + (1 : Int32)) * (((256 : Int32) <<< ((((p1 &&& (63 : Int32)) - (16 : Int32)) >>> ((2 : Int32) &&& 31)) &&& 31)) >>> ((2 : Int32) &&& 31))))), .val (.int (((p1 &&& (63 : Int32)) - (16 : Int32)) >>> ((2 : Int32) &&& 31))), .val (.int (((p1 &&& (63 : Int32)) - (16 : Int32)) &&& (3 : Int32))), .val (.int ((256 : Int32) <<< ((((p1 &&& (63 : Int32)) - (16 : Int32)) >>> ((2 : Int32) &&& 31)) &&& 31)))] [(.int (p1 &&& (63 : Int32)))])) _
        refine XS.bipush X2.here hx rfl (hb hby at_81) ?_
        show Steps p.tables e below (T2.setTop (mkF m 83 #[.val (.int p1), .val (.int (p1 &&& (63 : Int32))), .val (.int (own_cs (p1 &&& (63 : Int32)))), .val (.int (((256 : Int32) <<< ((((p1 &&& (63 : Int32)) - (16 : Int32)) >>> ((2 : Int32) &&& 31)) &&& 31)) + (((((p1 &&& (63 : Int32)) - (16 : Int32)) &&& (3 : Int32)) + (1 : Int32)) * (((256 : Int32) <<< ((((p1 &&& (63 : Int32)) - (16 : Int32)) >>> ((2 : Int32) &&& 31)) &&& 31)) >>> ((2 : Int32) &&& 31))))), .val (.int (((p1 &&& (63 : Int32)) - (16 : Int32)) >>> ((2 : Int32) &&& 31))), .val (.int (((p1 &&& (63 : Int32)) - (16 : Int32)) &&& (3 : Int32))), .val (.int ((256 : Int32) <<< ((((p1 &&& (63 : Int32)) - (16 : Int32)) >>> ((2 : Int32) &&& 31)) &&& 31)))] [(.int (63 : Int32)), (.int (p1 &&& (63 : Int32)))])) _
        refine XS.icmpNo X2.here hx rfl (hb hby at_83) rfl (tlt (h2 : (p1 &&& (63 : Int32)) < (63 : Int32))).2.1 ?_
        show Steps p.tables e below (T2.setTop (mkF m 86 #[.val (.int p1), .val (.int (p1 &&& (63 : Int32))), .val (.int (own_cs (p1 &&& (63 : Int32)))), .val (.int (((256 : Int32) <<< ((((p1 &&& (63 : Int32)) - (16 : Int32)) >>> ((2 : Int32) &&& 31)) &&& 31)) + (((((p1 &&& (63 : Int32)) - (16 : Int32)) &&& (3 : Int32)) + (1 : Int32)) * (((256 : Int32) <<< ((((p1 &&& (63 : Int32)) - (16 : Int32)) >>> ((2 : Int32) &&& 31)) &&& 31)) >>> ((2 : Int32) &&& 31))))), .val (.int (((p1 &&& (63 : Int32)) - (16 : Int32)) >>> ((2 : Int32) &&& 31))), .val (.int (((p1 &&& (63 : Int32)) - (16 : Int32)) &&& (3 : Int32))), .val (.int ((256 : Int32) <<< ((((p1 &&& (63 : Int32)) - (16 : Int32)) >>> ((2 : Int32) &&& 31)) &&& 31)))] [])) _
        refine XS.iloadN X2.here hx rfl (hb hby at_86) rfl ?_
        show Steps p.tables e below (T2.setTop (mkF m 87 #[.val (.int p1), .val (.int (p1 &&& (63 : Int32))), .val (.int (own_cs (p1 &&& (63 : Int32)))), .val (.int (((256 : Int32) <<< ((((p1 &&& (63 : Int32)) - (16 : Int32)) >>> ((2 : Int32) &&& 31)) &&& 31)) + (((((p1 &&& (63 : Int32)) - (16 : Int32)) &&& (3 : Int32)) + (1 : Int32)) * (((256 : Int32) <<< ((((p1 &&& (63 : Int32)) - (16 : Int32)) >>> ((2 : Int32) &&& 31)) &&& 31)) >>> ((2 : Int32) &&& 31))))), .val (.int (((p1 &&& (63 : Int32)) - (16 : Int32)) >>> ((2 : Int32) &&& 31))), .val (.int (((p1 &&& (63 : Int32)) - (16 : Int32)) &&& (3 : Int32))), .val (.int ((256 : Int32) <<< ((((p1 &&& (63 : Int32)) - (16 : Int32)) >>> ((2 : Int32) &&& 31)) &&& 31)))] [(.int (own_cs (p1 &&& (63 : Int32))))])) _
        refine XS.iconst X2.here hx rfl (hb hby at_87) ?_
        show Steps p.tables e below (T2.setTop (mkF m 88 #[.val (.int p1), .val (.int (p1 &&& (63 : Int32))), .val (.int (own_cs (p1 &&& (63 : Int32)))), .val (.int (((256 : Int32) <<< ((((p1 &&& (63 : Int32)) - (16 : Int32)) >>> ((2 : Int32) &&& 31)) &&& 31)) + (((((p1 &&& (63 : Int32)) - (16 : Int32)) &&& (3 : Int32)) + (1 : Int32)) * (((256 : Int32) <<< ((((p1 &&& (63 : Int32)) - (16 : Int32)) >>> ((2 : Int32) &&& 31)) &&& 31)) >>> ((2 : Int32) &&& 31))))), .val (.int (((p1 &&& (63 : Int32)) - (16 : Int32)) >>> ((2 : Int32) &&& 31))), .val (.int (((p1 &&& (63 : Int32)) - (16 : Int32)) &&& (3 : Int32))), .val (.int ((256 : Int32) <<< ((((p1 &&& (63 : Int32)) - (16 : Int32)) >>> ((2 : Int32) &&& 31)) &&& 31)))] [(.int (1 : Int32)), (.int (own_cs (p1 &&& (63 : Int32))))])) _
        refine XS.iadd X2.here hx rfl (hb hby at_88) rfl ?_
        show Steps p.tables e below (T2.setTop (mkF m 89 #[.val (.int p1), .val (.int (p1 &&& (63 : Int32))), .val (.int (own_cs (p1 &&& (63 : Int32)))), .val (.int (((256 : Int32) <<< ((((p1 &&& (63 : Int32)) - (16 : Int32)) >>> ((2 : Int32) &&& 31)) &&& 31)) + (((((p1 &&& (63 : Int32)) - (16 : Int32)) &&& (3 : Int32)) + (1 : Int32)) * (((256 : Int32) <<< ((((p1 &&& (63 : Int32)) - (16 : Int32)) >>> ((2 : Int32) &&& 31)) &&& 31)) >>> ((2 : Int32) &&& 31))))), .val (.int (((p1 &&& (63 : Int32)) - (16 : Int32)) >>> ((2 : Int32) &&& 31))), .val (.int (((p1 &&& (63 : Int32)) - (16 : Int32)) &&& (3 : Int32))), .val (.int ((256 : Int32) <<< ((((p1 &&& (63 : Int32)) - (16 : Int32)) >>> ((2 : Int32) &&& 31)) &&& 31)))] [(.int ((own_cs (p1 &&& (63 : Int32))) + (1 : Int32)))])) _
        refine st3 _ ?_
        show Steps p.tables e below (T3.setTop (mkF m 92 #[.val (.int p1), .val (.int (p1 &&& (63 : Int32))), .val (.int (own_cs (p1 &&& (63 : Int32)))), .val (.int (((256 : Int32) <<< ((((p1 &&& (63 : Int32)) - (16 : Int32)) >>> ((2 : Int32) &&& 31)) &&& 31)) + (((((p1 &&& (63 : Int32)) - (16 : Int32)) &&& (3 : Int32)) + (1 : Int32)) * (((256 : Int32) <<< ((((p1 &&& (63 : Int32)) - (16 : Int32)) >>> ((2 : Int32) &&& 31)) &&& 31)) >>> ((2 : Int32) &&& 31))))), .val (.int (((p1 &&& (63 : Int32)) - (16 : Int32)) >>> ((2 : Int32) &&& 31))), .val (.int (((p1 &&& (63 : Int32)) - (16 : Int32)) &&& (3 : Int32))), .val (.int ((256 : Int32) <<< ((((p1 &&& (63 : Int32)) - (16 : Int32)) >>> ((2 : Int32) &&& 31)) &&& 31)))] [(.int (own_sc ((own_cs (p1 &&& (63 : Int32))) + (1 : Int32))))])) _
        refine XS.iloadN X3.here hx rfl (hb hby at_92) rfl ?_
        show Steps p.tables e below (T3.setTop (mkF m 93 #[.val (.int p1), .val (.int (p1 &&& (63 : Int32))), .val (.int (own_cs (p1 &&& (63 : Int32)))), .val (.int (((256 : Int32) <<< ((((p1 &&& (63 : Int32)) - (16 : Int32)) >>> ((2 : Int32) &&& 31)) &&& 31)) + (((((p1 &&& (63 : Int32)) - (16 : Int32)) &&& (3 : Int32)) + (1 : Int32)) * (((256 : Int32) <<< ((((p1 &&& (63 : Int32)) - (16 : Int32)) >>> ((2 : Int32) &&& 31)) &&& 31)) >>> ((2 : Int32) &&& 31))))), .val (.int (((p1 &&& (63 : Int32)) - (16 : Int32)) >>> ((2 : Int32) &&& 31))), .val (.int (((p1 &&& (63 : Int32)) - (16 : Int32)) &&& (3 : Int32))), .val (.int ((256 : Int32) <<< ((((p1 &&& (63 : Int32)) - (16 : Int32)) >>> ((2 : Int32) &&& 31)) &&& 31)))] [(.int (p1 &&& (63 : Int32))), (.int (own_sc ((own_cs (p1 &&& (63 : Int32))) + (1 : Int32))))])) _
        refine XS.iconst X3.here hx rfl (hb hby at_93) ?_
        show Steps p.tables e below (T3.setTop (mkF m 94 #[.val (.int p1), .val (.int (p1 &&& (63 : Int32))), .val (.int (own_cs (p1 &&& (63 : Int32)))), .val (.int (((256 : Int32) <<< ((((p1 &&& (63 : Int32)) - (16 : Int32)) >>> ((2 : Int32) &&& 31)) &&& 31)) + (((((p1 &&& (63 : Int32)) - (16 : Int32)) &&& (3 : Int32)) + (1 : Int32)) * (((256 : Int32) <<< ((((p1 &&& (63 : Int32)) - (16 : Int32)) >>> ((2 : Int32) &&& 31)) &&& 31)) >>> ((2 : Int32) &&& 31))))), .val (.int (((p1 &&& (63 : Int32)) - (16 : Int32)) >>> ((2 : Int32) &&& 31))), .val (.int (((p1 &&& (63 : Int32)) - (16 : Int32)) &&& (3 : Int32))), .val (.int ((256 : Int32) <<< ((((p1 &&& (63 : Int32)) - (16 : Int32)) >>> ((2 : Int32) &&& 31)) &&& 31)))] [(.int (1 : Int32)), (.int (p1 &&& (63 : Int32))), (.int (own_sc ((own_cs (p1 &&& (63 : Int32))) + (1 : Int32))))])) _
        refine XS.iadd X3.here hx rfl (hb hby at_94) rfl ?_
        show Steps p.tables e below (T3.setTop (mkF m 95 #[.val (.int p1), .val (.int (p1 &&& (63 : Int32))), .val (.int (own_cs (p1 &&& (63 : Int32)))), .val (.int (((256 : Int32) <<< ((((p1 &&& (63 : Int32)) - (16 : Int32)) >>> ((2 : Int32) &&& 31)) &&& 31)) + (((((p1 &&& (63 : Int32)) - (16 : Int32)) &&& (3 : Int32)) + (1 : Int32)) * (((256 : Int32) <<< ((((p1 &&& (63 : Int32)) - (16 : Int32)) >>> ((2 : Int32) &&& 31)) &&& 31)) >>> ((2 : Int32) &&& 31))))), .val (.int (((p1 &&& (63 : Int32)) - (16 : Int32)) >>> ((2 : Int32) &&& 31))), .val (.int (((p1 &&& (63 : Int32)) - (16 : Int32)) &&& (3 : Int32))), .val (.int ((256 : Int32) <<< ((((p1 &&& (63 : Int32)) - (16 : Int32)) >>> ((2 : Int32) &&& 31)) &&& 31)))] [(.int ((p1 &&& (63 : Int32)) + (1 : Int32))), (.int (own_sc ((own_cs (p1 &&& (63 : Int32))) + (1 : Int32))))])) _
        refine XS.icmpYes X3.here hx rfl (pc0 := 95) (pc' := 100) rfl (hb hby at_95) rfl (teq (o6 : (own_sc ((own_cs (p1 &&& (63 : Int32))) + (1 : Int32))) = ((p1 &&& (63 : Int32)) + (1 : Int32)))).1 (by decide) (by decide) ?_
        show Steps p.tables e below (T3.setTop (mkF m 100 #[.val (.int p1), .val (.int (p1 &&& (63 : Int32))), .val (.int (own_cs (p1 &&& (63 : Int32)))), .val (.int (((256 : Int32) <<< ((((p1 &&& (63 : Int32)) - (16 : Int32)) >>> ((2 : Int32) &&& 31)) &&& 31)) + (((((p1 &&& (63 : Int32)) - (16 : Int32)) &&& (3 : Int32)) + (1 : Int32)) * (((256 : Int32) <<< ((((p1 &&& (63 : Int32)) - (16 : Int32)) >>> ((2 : Int32) &&& 31)) &&& 31)) >>> ((2 : Int32) &&& 31))))), .val (.int (((p1 &&& (63 : Int32)) - (16 : Int32)) >>> ((2 : Int32) &&& 31))), .val (.int (((p1 &&& (63 : Int32)) - (16 : Int32)) &&& (3 : Int32))), .val (.int ((256 : Int32) <<< ((((p1 &&& (63 : Int32)) - (16 : Int32)) >>> ((2 : Int32) &&& 31)) &&& 31)))] [])) _
        refine XS.iconst X3.here hx rfl (hb hby at_100) ?_
        show Steps p.tables e below (T3.setTop (mkF m 101 #[.val (.int p1), .val (.int (p1 &&& (63 : Int32))), .val (.int (own_cs (p1 &&& (63 : Int32)))), .val (.int (((256 : Int32) <<< ((((p1 &&& (63 : Int32)) - (16 : Int32)) >>> ((2 : Int32) &&& 31)) &&& 31)) + (((((p1 &&& (63 : Int32)) - (16 : Int32)) &&& (3 : Int32)) + (1 : Int32)) * (((256 : Int32) <<< ((((p1 &&& (63 : Int32)) - (16 : Int32)) >>> ((2 : Int32) &&& 31)) &&& 31)) >>> ((2 : Int32) &&& 31))))), .val (.int (((p1 &&& (63 : Int32)) - (16 : Int32)) >>> ((2 : Int32) &&& 31))), .val (.int (((p1 &&& (63 : Int32)) - (16 : Int32)) &&& (3 : Int32))), .val (.int ((256 : Int32) <<< ((((p1 &&& (63 : Int32)) - (16 : Int32)) >>> ((2 : Int32) &&& 31)) &&& 31)))] [(.int (1 : Int32))])) _
        exact retN X3 hx (t := .boolean) Bd.returns (by simp) (hb hby at_101) hr
      · show Q0 Z p1 h0 n0 _ T3.heap _
        rw [e3]
        exact ⟨rfl, N3⟩
    · have hh2 := h2
      obtain ⟨_, _, ⟨T1, L1, k1, n1⟩, -, X1, ⟨Lc1, hQ1, l1, y1, z1⟩, st1⟩ := Jvm.LawKit.callS X0 hx (y := (⟨"com/example/stratavault/stratavault/storage/Allocator", "classSize", "(I)I"⟩ : MethodName)) hown (mvT hZ (hw _ (List.mem_of_getElem? (i := 0) rfl))) (mvT hZ (hw _ (List.mem_of_getElem? (i := 1) rfl))) (mvT hZ (hw _ (List.mem_of_getElem? (i := 2) rfl))) (mvT hZ (hw _ (List.mem_of_getElem? (i := 3) rfl))) (by decide) (backOf (W := 0) (rm1 l Z a0 hw [] (p1 &&& (63 : Int32)) h0 n0 Z0) hZ (hw _ (List.mem_of_getElem? (i := 3) rfl)) (hw _ (List.mem_of_getElem? (i := 2) rfl)) (by decide) (by decide)) (g := (mkF m 6 #[.val (.int p1), .val (.int (p1 &&& (63 : Int32))), .unset, .unset, .unset, .unset, .unset] [(.int (p1 &&& (63 : Int32)))])) rfl (by rw [hml]; rfl) (argsL := [(.int (p1 &&& (63 : Int32)))]) (rest := []) (lenOf pdx_0 rfl) rfl (by show 2 * 0 + _ ≤ _; exact Nat.le_of_eq rfl) (hb hby at_6) (fun _ _ => ⟨rfl, e0, (by decide : 0 + 0 ≤ _), (by decide : 0 + 0 ≤ _)⟩)
      dsimp only [Pt.U, Pt.locs, Pt.cells, Pt.slots] at X1 l1 y1 z1 st1 hQ1
      subst l1 y1 z1
      obtain ⟨rfl, N1q, e1⟩ := hQ1
      have N1 := Fr.app N0 N1q
      obtain ⟨_, _, ⟨T2, L2, k2, n2⟩, -, X2, ⟨Lc2, hQ2, l2, y2, z2⟩, st2⟩ := Jvm.LawKit.callS X1 hx (y := (⟨"com/example/stratavault/stratavault/storage/Allocator", "sizeClass", "(I)I"⟩ : MethodName)) hown (mvT hZ (hw _ (List.mem_of_getElem? (i := 4) rfl))) (mvT hZ (hw _ (List.mem_of_getElem? (i := 5) rfl))) (mvT hZ (hw _ (List.mem_of_getElem? (i := 2) rfl))) (mvT hZ (hw _ (List.mem_of_getElem? (i := 6) rfl))) (by decide) (backOf (W := 0) (rm3 l Z a0 hw [] (own_cs (p1 &&& (63 : Int32))) h0 n0 Z0 o3 o4) hZ (hw _ (List.mem_of_getElem? (i := 6) rfl)) (hw _ (List.mem_of_getElem? (i := 2) rfl)) (by decide) (by decide)) (g := (mkF m 71 #[.val (.int p1), .val (.int (p1 &&& (63 : Int32))), .val (.int (own_cs (p1 &&& (63 : Int32)))), .val (.int (((256 : Int32) <<< ((((p1 &&& (63 : Int32)) - (16 : Int32)) >>> ((2 : Int32) &&& 31)) &&& 31)) + (((((p1 &&& (63 : Int32)) - (16 : Int32)) &&& (3 : Int32)) + (1 : Int32)) * (((256 : Int32) <<< ((((p1 &&& (63 : Int32)) - (16 : Int32)) >>> ((2 : Int32) &&& 31)) &&& 31)) >>> ((2 : Int32) &&& 31))))), .val (.int (((p1 &&& (63 : Int32)) - (16 : Int32)) >>> ((2 : Int32) &&& 31))), .val (.int (((p1 &&& (63 : Int32)) - (16 : Int32)) &&& (3 : Int32))), .val (.int ((256 : Int32) <<< ((((p1 &&& (63 : Int32)) - (16 : Int32)) >>> ((2 : Int32) &&& 31)) &&& 31)))] [(.int (own_cs (p1 &&& (63 : Int32))))])) rfl (by rw [hml]; rfl) (argsL := [(.int (own_cs (p1 &&& (63 : Int32))))]) (rest := []) (lenOf pdx_0 rfl) rfl (by show 2 * 0 + _ ≤ _; exact Nat.le_of_eq rfl) (hb hby at_71) (fun _ _ => ⟨rfl, e1, (by decide : 0 + 0 ≤ _), (by decide : 0 + 0 ≤ _)⟩)
      dsimp only [Pt.U, Pt.locs, Pt.cells, Pt.slots] at X2 l2 y2 z2 st2 hQ2
      subst l2 y2 z2
      obtain ⟨rfl, N2q, e2⟩ := hQ2
      have N2 := Fr.app N1 N2q
      obtain ⟨fs, hr, hrun, hended, hW, hsame⟩ := X2.leave (v := some (.int (1 : Int32))) (fun h => by rw [Bd.returns] at h; cases h)
      refine ⟨_, _, pre0 _ ?_, hrun, hended, _, _, rfl, ?_, ⟨_, rfl⟩, hW, hsame.mono (by decide) (by decide)⟩
      · show Steps p.tables e below (s₁.setTop (mkF m 0 #[.val (.int p1), .unset, .unset, .unset, .unset, .unset, .unset] [])) _
        refine XS.iloadN X0.here hx rfl (hb hby at_0) rfl ?_
        show Steps p.tables e below (s₁.setTop (mkF m 1 #[.val (.int p1), .unset, .unset, .unset, .unset, .unset, .unset] [(.int p1)])) _
        refine XS.bipush X0.here hx rfl (hb hby at_1) ?_
        show Steps p.tables e below (s₁.setTop (mkF m 3 #[.val (.int p1), .unset, .unset, .unset, .unset, .unset, .unset] [(.int (63 : Int32)), (.int p1)])) _
        refine XS.iand X0.here hx rfl (hb hby at_3) rfl ?_
        show Steps p.tables e below (s₁.setTop (mkF m 4 #[.val (.int p1), .unset, .unset, .unset, .unset, .unset, .unset] [(.int (p1 &&& (63 : Int32)))])) _
        refine XS.istoreN X0.here hx rfl (hb hby at_4) rfl (l' := #[.val (.int p1), .val (.int (p1 &&& (63 : Int32))), .unset, .unset, .unset, .unset, .unset]) rfl ?_
        show Steps p.tables e below (s₁.setTop (mkF m 5 #[.val (.int p1), .val (.int (p1 &&& (63 : Int32))), .unset, .unset, .unset, .unset, .unset] [])) _
        refine XS.iloadN X0.here hx rfl (hb hby at_5) rfl ?_
        show Steps p.tables e below (s₁.setTop (mkF m 6 #[.val (.int p1), .val (.int (p1 &&& (63 : Int32))), .unset, .unset, .unset, .unset, .unset] [(.int (p1 &&& (63 : Int32)))])) _
        refine st1 _ ?_
        show Steps p.tables e below (T1.setTop (mkF m 9 #[.val (.int p1), .val (.int (p1 &&& (63 : Int32))), .unset, .unset, .unset, .unset, .unset] [(.int (own_cs (p1 &&& (63 : Int32))))])) _
        refine XS.istoreN X1.here hx rfl (hb hby at_9) rfl (l' := #[.val (.int p1), .val (.int (p1 &&& (63 : Int32))), .val (.int (own_cs (p1 &&& (63 : Int32)))), .unset, .unset, .unset, .unset]) rfl ?_
        show Steps p.tables e below (T1.setTop (mkF m 10 #[.val (.int p1), .val (.int (p1 &&& (63 : Int32))), .val (.int (own_cs (p1 &&& (63 : Int32)))), .unset, .unset, .unset, .unset] [])) _
        refine XS.iloadN X1.here hx rfl (hb hby at_10) rfl ?_
        show Steps p.tables e below (T1.setTop (mkF m 11 #[.val (.int p1), .val (.int (p1 &&& (63 : Int32))), .val (.int (own_cs (p1 &&& (63 : Int32)))), .unset, .unset, .unset, .unset] [(.int (p1 &&& (63 : Int32)))])) _
        refine XS.bipush X1.here hx rfl (hb hby at_11) ?_
        show Steps p.tables e below (T1.setTop (mkF m 13 #[.val (.int p1), .val (.int (p1 &&& (63 : Int32))), .val (.int (own_cs (p1 &&& (63 : Int32)))), .unset, .unset, .unset, .unset] [(.int (16 : Int32)), (.int (p1 &&& (63 : Int32)))])) _
        refine XS.icmpYes X1.here hx rfl (pc0 := 13) (pc' := 26) rfl (hb hby at_13) rfl (flt (h1 : ¬ ((p1 &&& (63 : Int32)) < (16 : Int32)))).2.1 (by decide) (by decide) ?_
        show Steps p.tables e below (T1.setTop (mkF m 26 #[.val (.int p1), .val (.int (p1 &&& (63 : Int32))), .val (.int (own_cs (p1 &&& (63 : Int32)))), .unset, .unset, .unset, .unset] [])) _
        refine XS.iloadN X1.here hx rfl (hb hby at_26) rfl ?_
        show Steps p.tables e below (T1.setTop (mkF m 27 #[.val (.int p1), .val (.int (p1 &&& (63 : Int32))), .val (.int (own_cs (p1 &&& (63 : Int32)))), .unset, .unset, .unset, .unset] [(.int (p1 &&& (63 : Int32)))])) _
        refine XS.bipush X1.here hx rfl (hb hby at_27) ?_
        show Steps p.tables e below (T1.setTop (mkF m 29 #[.val (.int p1), .val (.int (p1 &&& (63 : Int32))), .val (.int (own_cs (p1 &&& (63 : Int32)))), .unset, .unset, .unset, .unset] [(.int (16 : Int32)), (.int (p1 &&& (63 : Int32)))])) _
        refine XS.isub X1.here hx rfl (hb hby at_29) rfl ?_
        show Steps p.tables e below (T1.setTop (mkF m 30 #[.val (.int p1), .val (.int (p1 &&& (63 : Int32))), .val (.int (own_cs (p1 &&& (63 : Int32)))), .unset, .unset, .unset, .unset] [(.int ((p1 &&& (63 : Int32)) - (16 : Int32)))])) _
        refine XS.iconst X1.here hx rfl (hb hby at_30) ?_
        show Steps p.tables e below (T1.setTop (mkF m 31 #[.val (.int p1), .val (.int (p1 &&& (63 : Int32))), .val (.int (own_cs (p1 &&& (63 : Int32)))), .unset, .unset, .unset, .unset] [(.int (2 : Int32)), (.int ((p1 &&& (63 : Int32)) - (16 : Int32)))])) _
        refine XS.ishr X1.here hx rfl (hb hby at_31) rfl ?_
        show Steps p.tables e below (T1.setTop (mkF m 32 #[.val (.int p1), .val (.int (p1 &&& (63 : Int32))), .val (.int (own_cs (p1 &&& (63 : Int32)))), .unset, .unset, .unset, .unset] [(.int (((p1 &&& (63 : Int32)) - (16 : Int32)) >>> ((2 : Int32) &&& 31)))])) _
        refine XS.istore X1.here hx rfl (hb hby at_32) rfl (l' := #[.val (.int p1), .val (.int (p1 &&& (63 : Int32))), .val (.int (own_cs (p1 &&& (63 : Int32)))), .unset, .val (.int (((p1 &&& (63 : Int32)) - (16 : Int32)) >>> ((2 : Int32) &&& 31))), .unset, .unset]) rfl ?_
        show Steps p.tables e below (T1.setTop (mkF m 34 #[.val (.int p1), .val (.int (p1 &&& (63 : Int32))), .val (.int (own_cs (p1 &&& (63 : Int32)))), .unset, .val (.int (((p1 &&& (63 : Int32)) - (16 : Int32)) >>> ((2 : Int32) &&& 31))), .unset, .unset] [])) _
        refine XS.iloadN X1.here hx rfl (hb hby at_34) rfl ?_
        show Steps p.tables e below (T1.setTop (mkF m 35 #[.val (.int p1), .val (.int (p1 &&& (63 : Int32))), .val (.int (own_cs (p1 &&& (63 : Int32)))), .unset, .val (.int (((p1 &&& (63 : Int32)) - (16 : Int32)) >>> ((2 : Int32) &&& 31))), .unset, .unset] [(.int (p1 &&& (63 : Int32)))])) _
        refine XS.bipush X1.here hx rfl (hb hby at_35) ?_
        show Steps p.tables e below (T1.setTop (mkF m 37 #[.val (.int p1), .val (.int (p1 &&& (63 : Int32))), .val (.int (own_cs (p1 &&& (63 : Int32)))), .unset, .val (.int (((p1 &&& (63 : Int32)) - (16 : Int32)) >>> ((2 : Int32) &&& 31))), .unset, .unset] [(.int (16 : Int32)), (.int (p1 &&& (63 : Int32)))])) _
        refine XS.isub X1.here hx rfl (hb hby at_37) rfl ?_
        show Steps p.tables e below (T1.setTop (mkF m 38 #[.val (.int p1), .val (.int (p1 &&& (63 : Int32))), .val (.int (own_cs (p1 &&& (63 : Int32)))), .unset, .val (.int (((p1 &&& (63 : Int32)) - (16 : Int32)) >>> ((2 : Int32) &&& 31))), .unset, .unset] [(.int ((p1 &&& (63 : Int32)) - (16 : Int32)))])) _
        refine XS.iconst X1.here hx rfl (hb hby at_38) ?_
        show Steps p.tables e below (T1.setTop (mkF m 39 #[.val (.int p1), .val (.int (p1 &&& (63 : Int32))), .val (.int (own_cs (p1 &&& (63 : Int32)))), .unset, .val (.int (((p1 &&& (63 : Int32)) - (16 : Int32)) >>> ((2 : Int32) &&& 31))), .unset, .unset] [(.int (3 : Int32)), (.int ((p1 &&& (63 : Int32)) - (16 : Int32)))])) _
        refine XS.iand X1.here hx rfl (hb hby at_39) rfl ?_
        show Steps p.tables e below (T1.setTop (mkF m 40 #[.val (.int p1), .val (.int (p1 &&& (63 : Int32))), .val (.int (own_cs (p1 &&& (63 : Int32)))), .unset, .val (.int (((p1 &&& (63 : Int32)) - (16 : Int32)) >>> ((2 : Int32) &&& 31))), .unset, .unset] [(.int (((p1 &&& (63 : Int32)) - (16 : Int32)) &&& (3 : Int32)))])) _
        refine XS.istore X1.here hx rfl (hb hby at_40) rfl (l' := #[.val (.int p1), .val (.int (p1 &&& (63 : Int32))), .val (.int (own_cs (p1 &&& (63 : Int32)))), .unset, .val (.int (((p1 &&& (63 : Int32)) - (16 : Int32)) >>> ((2 : Int32) &&& 31))), .val (.int (((p1 &&& (63 : Int32)) - (16 : Int32)) &&& (3 : Int32))), .unset]) rfl ?_
        show Steps p.tables e below (T1.setTop (mkF m 42 #[.val (.int p1), .val (.int (p1 &&& (63 : Int32))), .val (.int (own_cs (p1 &&& (63 : Int32)))), .unset, .val (.int (((p1 &&& (63 : Int32)) - (16 : Int32)) >>> ((2 : Int32) &&& 31))), .val (.int (((p1 &&& (63 : Int32)) - (16 : Int32)) &&& (3 : Int32))), .unset] [])) _
        refine XS.sipush X1.here hx rfl (hb hby at_42) ?_
        show Steps p.tables e below (T1.setTop (mkF m 45 #[.val (.int p1), .val (.int (p1 &&& (63 : Int32))), .val (.int (own_cs (p1 &&& (63 : Int32)))), .unset, .val (.int (((p1 &&& (63 : Int32)) - (16 : Int32)) >>> ((2 : Int32) &&& 31))), .val (.int (((p1 &&& (63 : Int32)) - (16 : Int32)) &&& (3 : Int32))), .unset] [(.int (256 : Int32))])) _
        refine XS.iload X1.here hx rfl (hb hby at_45) rfl ?_
        show Steps p.tables e below (T1.setTop (mkF m 47 #[.val (.int p1), .val (.int (p1 &&& (63 : Int32))), .val (.int (own_cs (p1 &&& (63 : Int32)))), .unset, .val (.int (((p1 &&& (63 : Int32)) - (16 : Int32)) >>> ((2 : Int32) &&& 31))), .val (.int (((p1 &&& (63 : Int32)) - (16 : Int32)) &&& (3 : Int32))), .unset] [(.int (((p1 &&& (63 : Int32)) - (16 : Int32)) >>> ((2 : Int32) &&& 31))), (.int (256 : Int32))])) _
        refine XS.ishl X1.here hx rfl (hb hby at_47) rfl ?_
        show Steps p.tables e below (T1.setTop (mkF m 48 #[.val (.int p1), .val (.int (p1 &&& (63 : Int32))), .val (.int (own_cs (p1 &&& (63 : Int32)))), .unset, .val (.int (((p1 &&& (63 : Int32)) - (16 : Int32)) >>> ((2 : Int32) &&& 31))), .val (.int (((p1 &&& (63 : Int32)) - (16 : Int32)) &&& (3 : Int32))), .unset] [(.int ((256 : Int32) <<< ((((p1 &&& (63 : Int32)) - (16 : Int32)) >>> ((2 : Int32) &&& 31)) &&& 31)))])) _
        refine XS.istore X1.here hx rfl (hb hby at_48) rfl (l' := #[.val (.int p1), .val (.int (p1 &&& (63 : Int32))), .val (.int (own_cs (p1 &&& (63 : Int32)))), .unset, .val (.int (((p1 &&& (63 : Int32)) - (16 : Int32)) >>> ((2 : Int32) &&& 31))), .val (.int (((p1 &&& (63 : Int32)) - (16 : Int32)) &&& (3 : Int32))), .val (.int ((256 : Int32) <<< ((((p1 &&& (63 : Int32)) - (16 : Int32)) >>> ((2 : Int32) &&& 31)) &&& 31)))]) rfl ?_
        show Steps p.tables e below (T1.setTop (mkF m 50 #[.val (.int p1), .val (.int (p1 &&& (63 : Int32))), .val (.int (own_cs (p1 &&& (63 : Int32)))), .unset, .val (.int (((p1 &&& (63 : Int32)) - (16 : Int32)) >>> ((2 : Int32) &&& 31))), .val (.int (((p1 &&& (63 : Int32)) - (16 : Int32)) &&& (3 : Int32))), .val (.int ((256 : Int32) <<< ((((p1 &&& (63 : Int32)) - (16 : Int32)) >>> ((2 : Int32) &&& 31)) &&& 31)))] [])) _
        refine XS.iload X1.here hx rfl (hb hby at_50) rfl ?_
        show Steps p.tables e below (T1.setTop (mkF m 52 #[.val (.int p1), .val (.int (p1 &&& (63 : Int32))), .val (.int (own_cs (p1 &&& (63 : Int32)))), .unset, .val (.int (((p1 &&& (63 : Int32)) - (16 : Int32)) >>> ((2 : Int32) &&& 31))), .val (.int (((p1 &&& (63 : Int32)) - (16 : Int32)) &&& (3 : Int32))), .val (.int ((256 : Int32) <<< ((((p1 &&& (63 : Int32)) - (16 : Int32)) >>> ((2 : Int32) &&& 31)) &&& 31)))] [(.int ((256 : Int32) <<< ((((p1 &&& (63 : Int32)) - (16 : Int32)) >>> ((2 : Int32) &&& 31)) &&& 31)))])) _
        refine XS.iload X1.here hx rfl (hb hby at_52) rfl ?_
        show Steps p.tables e below (T1.setTop (mkF m 54 #[.val (.int p1), .val (.int (p1 &&& (63 : Int32))), .val (.int (own_cs (p1 &&& (63 : Int32)))), .unset, .val (.int (((p1 &&& (63 : Int32)) - (16 : Int32)) >>> ((2 : Int32) &&& 31))), .val (.int (((p1 &&& (63 : Int32)) - (16 : Int32)) &&& (3 : Int32))), .val (.int ((256 : Int32) <<< ((((p1 &&& (63 : Int32)) - (16 : Int32)) >>> ((2 : Int32) &&& 31)) &&& 31)))] [(.int (((p1 &&& (63 : Int32)) - (16 : Int32)) &&& (3 : Int32))), (.int ((256 : Int32) <<< ((((p1 &&& (63 : Int32)) - (16 : Int32)) >>> ((2 : Int32) &&& 31)) &&& 31)))])) _
        refine XS.iconst X1.here hx rfl (hb hby at_54) ?_
        show Steps p.tables e below (T1.setTop (mkF m 55 #[.val (.int p1), .val (.int (p1 &&& (63 : Int32))), .val (.int (own_cs (p1 &&& (63 : Int32)))), .unset, .val (.int (((p1 &&& (63 : Int32)) - (16 : Int32)) >>> ((2 : Int32) &&& 31))), .val (.int (((p1 &&& (63 : Int32)) - (16 : Int32)) &&& (3 : Int32))), .val (.int ((256 : Int32) <<< ((((p1 &&& (63 : Int32)) - (16 : Int32)) >>> ((2 : Int32) &&& 31)) &&& 31)))] [(.int (1 : Int32)), (.int (((p1 &&& (63 : Int32)) - (16 : Int32)) &&& (3 : Int32))), (.int ((256 : Int32) <<< ((((p1 &&& (63 : Int32)) - (16 : Int32)) >>> ((2 : Int32) &&& 31)) &&& 31)))])) _
        refine XS.iadd X1.here hx rfl (hb hby at_55) rfl ?_
        show Steps p.tables e below (T1.setTop (mkF m 56 #[.val (.int p1), .val (.int (p1 &&& (63 : Int32))), .val (.int (own_cs (p1 &&& (63 : Int32)))), .unset, .val (.int (((p1 &&& (63 : Int32)) - (16 : Int32)) >>> ((2 : Int32) &&& 31))), .val (.int (((p1 &&& (63 : Int32)) - (16 : Int32)) &&& (3 : Int32))), .val (.int ((256 : Int32) <<< ((((p1 &&& (63 : Int32)) - (16 : Int32)) >>> ((2 : Int32) &&& 31)) &&& 31)))] [(.int ((((p1 &&& (63 : Int32)) - (16 : Int32)) &&& (3 : Int32)) + (1 : Int32))), (.int ((256 : Int32) <<< ((((p1 &&& (63 : Int32)) - (16 : Int32)) >>> ((2 : Int32) &&& 31)) &&& 31)))])) _
        refine XS.iload X1.here hx rfl (hb hby at_56) rfl ?_
        show Steps p.tables e below (T1.setTop (mkF m 58 #[.val (.int p1), .val (.int (p1 &&& (63 : Int32))), .val (.int (own_cs (p1 &&& (63 : Int32)))), .unset, .val (.int (((p1 &&& (63 : Int32)) - (16 : Int32)) >>> ((2 : Int32) &&& 31))), .val (.int (((p1 &&& (63 : Int32)) - (16 : Int32)) &&& (3 : Int32))), .val (.int ((256 : Int32) <<< ((((p1 &&& (63 : Int32)) - (16 : Int32)) >>> ((2 : Int32) &&& 31)) &&& 31)))] [(.int ((256 : Int32) <<< ((((p1 &&& (63 : Int32)) - (16 : Int32)) >>> ((2 : Int32) &&& 31)) &&& 31))), (.int ((((p1 &&& (63 : Int32)) - (16 : Int32)) &&& (3 : Int32)) + (1 : Int32))), (.int ((256 : Int32) <<< ((((p1 &&& (63 : Int32)) - (16 : Int32)) >>> ((2 : Int32) &&& 31)) &&& 31)))])) _
        refine XS.iconst X1.here hx rfl (hb hby at_58) ?_
        show Steps p.tables e below (T1.setTop (mkF m 59 #[.val (.int p1), .val (.int (p1 &&& (63 : Int32))), .val (.int (own_cs (p1 &&& (63 : Int32)))), .unset, .val (.int (((p1 &&& (63 : Int32)) - (16 : Int32)) >>> ((2 : Int32) &&& 31))), .val (.int (((p1 &&& (63 : Int32)) - (16 : Int32)) &&& (3 : Int32))), .val (.int ((256 : Int32) <<< ((((p1 &&& (63 : Int32)) - (16 : Int32)) >>> ((2 : Int32) &&& 31)) &&& 31)))] [(.int (2 : Int32)), (.int ((256 : Int32) <<< ((((p1 &&& (63 : Int32)) - (16 : Int32)) >>> ((2 : Int32) &&& 31)) &&& 31))), (.int ((((p1 &&& (63 : Int32)) - (16 : Int32)) &&& (3 : Int32)) + (1 : Int32))), (.int ((256 : Int32) <<< ((((p1 &&& (63 : Int32)) - (16 : Int32)) >>> ((2 : Int32) &&& 31)) &&& 31)))])) _
        refine XS.ishr X1.here hx rfl (hb hby at_59) rfl ?_
        show Steps p.tables e below (T1.setTop (mkF m 60 #[.val (.int p1), .val (.int (p1 &&& (63 : Int32))), .val (.int (own_cs (p1 &&& (63 : Int32)))), .unset, .val (.int (((p1 &&& (63 : Int32)) - (16 : Int32)) >>> ((2 : Int32) &&& 31))), .val (.int (((p1 &&& (63 : Int32)) - (16 : Int32)) &&& (3 : Int32))), .val (.int ((256 : Int32) <<< ((((p1 &&& (63 : Int32)) - (16 : Int32)) >>> ((2 : Int32) &&& 31)) &&& 31)))] [(.int (((256 : Int32) <<< ((((p1 &&& (63 : Int32)) - (16 : Int32)) >>> ((2 : Int32) &&& 31)) &&& 31)) >>> ((2 : Int32) &&& 31))), (.int ((((p1 &&& (63 : Int32)) - (16 : Int32)) &&& (3 : Int32)) + (1 : Int32))), (.int ((256 : Int32) <<< ((((p1 &&& (63 : Int32)) - (16 : Int32)) >>> ((2 : Int32) &&& 31)) &&& 31)))])) _
        refine XS.imul X1.here hx rfl (hb hby at_60) rfl ?_
        show Steps p.tables e below (T1.setTop (mkF m 61 #[.val (.int p1), .val (.int (p1 &&& (63 : Int32))), .val (.int (own_cs (p1 &&& (63 : Int32)))), .unset, .val (.int (((p1 &&& (63 : Int32)) - (16 : Int32)) >>> ((2 : Int32) &&& 31))), .val (.int (((p1 &&& (63 : Int32)) - (16 : Int32)) &&& (3 : Int32))), .val (.int ((256 : Int32) <<< ((((p1 &&& (63 : Int32)) - (16 : Int32)) >>> ((2 : Int32) &&& 31)) &&& 31)))] [(.int (((((p1 &&& (63 : Int32)) - (16 : Int32)) &&& (3 : Int32)) + (1 : Int32)) * (((256 : Int32) <<< ((((p1 &&& (63 : Int32)) - (16 : Int32)) >>> ((2 : Int32) &&& 31)) &&& 31)) >>> ((2 : Int32) &&& 31)))), (.int ((256 : Int32) <<< ((((p1 &&& (63 : Int32)) - (16 : Int32)) >>> ((2 : Int32) &&& 31)) &&& 31)))])) _
        refine XS.iadd X1.here hx rfl (hb hby at_61) rfl ?_
        show Steps p.tables e below (T1.setTop (mkF m 62 #[.val (.int p1), .val (.int (p1 &&& (63 : Int32))), .val (.int (own_cs (p1 &&& (63 : Int32)))), .unset, .val (.int (((p1 &&& (63 : Int32)) - (16 : Int32)) >>> ((2 : Int32) &&& 31))), .val (.int (((p1 &&& (63 : Int32)) - (16 : Int32)) &&& (3 : Int32))), .val (.int ((256 : Int32) <<< ((((p1 &&& (63 : Int32)) - (16 : Int32)) >>> ((2 : Int32) &&& 31)) &&& 31)))] [(.int (((256 : Int32) <<< ((((p1 &&& (63 : Int32)) - (16 : Int32)) >>> ((2 : Int32) &&& 31)) &&& 31)) + (((((p1 &&& (63 : Int32)) - (16 : Int32)) &&& (3 : Int32)) + (1 : Int32)) * (((256 : Int32) <<< ((((p1 &&& (63 : Int32)) - (16 : Int32)) >>> ((2 : Int32) &&& 31)) &&& 31)) >>> ((2 : Int32) &&& 31)))))])) _
        refine XS.istoreN X1.here hx rfl (hb hby at_62) rfl (l' := #[.val (.int p1), .val (.int (p1 &&& (63 : Int32))), .val (.int (own_cs (p1 &&& (63 : Int32)))), .val (.int (((256 : Int32) <<< ((((p1 &&& (63 : Int32)) - (16 : Int32)) >>> ((2 : Int32) &&& 31)) &&& 31)) + (((((p1 &&& (63 : Int32)) - (16 : Int32)) &&& (3 : Int32)) + (1 : Int32)) * (((256 : Int32) <<< ((((p1 &&& (63 : Int32)) - (16 : Int32)) >>> ((2 : Int32) &&& 31)) &&& 31)) >>> ((2 : Int32) &&& 31))))), .val (.int (((p1 &&& (63 : Int32)) - (16 : Int32)) >>> ((2 : Int32) &&& 31))), .val (.int (((p1 &&& (63 : Int32)) - (16 : Int32)) &&& (3 : Int32))), .val (.int ((256 : Int32) <<< ((((p1 &&& (63 : Int32)) - (16 : Int32)) >>> ((2 : Int32) &&& 31)) &&& 31)))]) rfl ?_
        show Steps p.tables e below (T1.setTop (mkF m 63 #[.val (.int p1), .val (.int (p1 &&& (63 : Int32))), .val (.int (own_cs (p1 &&& (63 : Int32)))), .val (.int (((256 : Int32) <<< ((((p1 &&& (63 : Int32)) - (16 : Int32)) >>> ((2 : Int32) &&& 31)) &&& 31)) + (((((p1 &&& (63 : Int32)) - (16 : Int32)) &&& (3 : Int32)) + (1 : Int32)) * (((256 : Int32) <<< ((((p1 &&& (63 : Int32)) - (16 : Int32)) >>> ((2 : Int32) &&& 31)) &&& 31)) >>> ((2 : Int32) &&& 31))))), .val (.int (((p1 &&& (63 : Int32)) - (16 : Int32)) >>> ((2 : Int32) &&& 31))), .val (.int (((p1 &&& (63 : Int32)) - (16 : Int32)) &&& (3 : Int32))), .val (.int ((256 : Int32) <<< ((((p1 &&& (63 : Int32)) - (16 : Int32)) >>> ((2 : Int32) &&& 31)) &&& 31)))] [])) _
        refine XS.iloadN X1.here hx rfl (hb hby at_63) rfl ?_
        show Steps p.tables e below (T1.setTop (mkF m 64 #[.val (.int p1), .val (.int (p1 &&& (63 : Int32))), .val (.int (own_cs (p1 &&& (63 : Int32)))), .val (.int (((256 : Int32) <<< ((((p1 &&& (63 : Int32)) - (16 : Int32)) >>> ((2 : Int32) &&& 31)) &&& 31)) + (((((p1 &&& (63 : Int32)) - (16 : Int32)) &&& (3 : Int32)) + (1 : Int32)) * (((256 : Int32) <<< ((((p1 &&& (63 : Int32)) - (16 : Int32)) >>> ((2 : Int32) &&& 31)) &&& 31)) >>> ((2 : Int32) &&& 31))))), .val (.int (((p1 &&& (63 : Int32)) - (16 : Int32)) >>> ((2 : Int32) &&& 31))), .val (.int (((p1 &&& (63 : Int32)) - (16 : Int32)) &&& (3 : Int32))), .val (.int ((256 : Int32) <<< ((((p1 &&& (63 : Int32)) - (16 : Int32)) >>> ((2 : Int32) &&& 31)) &&& 31)))] [(.int (own_cs (p1 &&& (63 : Int32))))])) _
        refine XS.iloadN X1.here hx rfl (hb hby at_64) rfl ?_
        show Steps p.tables e below (T1.setTop (mkF m 65 #[.val (.int p1), .val (.int (p1 &&& (63 : Int32))), .val (.int (own_cs (p1 &&& (63 : Int32)))), .val (.int (((256 : Int32) <<< ((((p1 &&& (63 : Int32)) - (16 : Int32)) >>> ((2 : Int32) &&& 31)) &&& 31)) + (((((p1 &&& (63 : Int32)) - (16 : Int32)) &&& (3 : Int32)) + (1 : Int32)) * (((256 : Int32) <<< ((((p1 &&& (63 : Int32)) - (16 : Int32)) >>> ((2 : Int32) &&& 31)) &&& 31)) >>> ((2 : Int32) &&& 31))))), .val (.int (((p1 &&& (63 : Int32)) - (16 : Int32)) >>> ((2 : Int32) &&& 31))), .val (.int (((p1 &&& (63 : Int32)) - (16 : Int32)) &&& (3 : Int32))), .val (.int ((256 : Int32) <<< ((((p1 &&& (63 : Int32)) - (16 : Int32)) >>> ((2 : Int32) &&& 31)) &&& 31)))] [(.int (((256 : Int32) <<< ((((p1 &&& (63 : Int32)) - (16 : Int32)) >>> ((2 : Int32) &&& 31)) &&& 31)) + (((((p1 &&& (63 : Int32)) - (16 : Int32)) &&& (3 : Int32)) + (1 : Int32)) * (((256 : Int32) <<< ((((p1 &&& (63 : Int32)) - (16 : Int32)) >>> ((2 : Int32) &&& 31)) &&& 31)) >>> ((2 : Int32) &&& 31))))), (.int (own_cs (p1 &&& (63 : Int32))))])) _
        refine XS.icmpYes X1.here hx rfl (pc0 := 65) (pc' := 70) rfl (hb hby at_65) rfl (teq (own_c1 hk h1 : (own_cs (p1 &&& (63 : Int32))) = (((256 : Int32) <<< ((((p1 &&& (63 : Int32)) - (16 : Int32)) >>> ((2 : Int32) &&& 31)) &&& 31)) + (((((p1 &&& (63 : Int32)) - (16 : Int32)) &&& (3 : Int32)) + (1 : Int32)) * (((256 : Int32) <<< ((((p1 &&& (63 : Int32)) - (16 : Int32)) >>> ((2 : Int32) &&& 31)) &&& 31)) >>> ((2 : Int32) &&& 31)))))).1 (by decide) (by decide) ?_
        show Steps p.tables e below (T1.setTop (mkF m 70 #[.val (.int p1), .val (.int (p1 &&& (63 : Int32))), .val (.int (own_cs (p1 &&& (63 : Int32)))), .val (.int (((256 : Int32) <<< ((((p1 &&& (63 : Int32)) - (16 : Int32)) >>> ((2 : Int32) &&& 31)) &&& 31)) + (((((p1 &&& (63 : Int32)) - (16 : Int32)) &&& (3 : Int32)) + (1 : Int32)) * (((256 : Int32) <<< ((((p1 &&& (63 : Int32)) - (16 : Int32)) >>> ((2 : Int32) &&& 31)) &&& 31)) >>> ((2 : Int32) &&& 31))))), .val (.int (((p1 &&& (63 : Int32)) - (16 : Int32)) >>> ((2 : Int32) &&& 31))), .val (.int (((p1 &&& (63 : Int32)) - (16 : Int32)) &&& (3 : Int32))), .val (.int ((256 : Int32) <<< ((((p1 &&& (63 : Int32)) - (16 : Int32)) >>> ((2 : Int32) &&& 31)) &&& 31)))] [])) _
        refine XS.iloadN X1.here hx rfl (hb hby at_70) rfl ?_
        show Steps p.tables e below (T1.setTop (mkF m 71 #[.val (.int p1), .val (.int (p1 &&& (63 : Int32))), .val (.int (own_cs (p1 &&& (63 : Int32)))), .val (.int (((256 : Int32) <<< ((((p1 &&& (63 : Int32)) - (16 : Int32)) >>> ((2 : Int32) &&& 31)) &&& 31)) + (((((p1 &&& (63 : Int32)) - (16 : Int32)) &&& (3 : Int32)) + (1 : Int32)) * (((256 : Int32) <<< ((((p1 &&& (63 : Int32)) - (16 : Int32)) >>> ((2 : Int32) &&& 31)) &&& 31)) >>> ((2 : Int32) &&& 31))))), .val (.int (((p1 &&& (63 : Int32)) - (16 : Int32)) >>> ((2 : Int32) &&& 31))), .val (.int (((p1 &&& (63 : Int32)) - (16 : Int32)) &&& (3 : Int32))), .val (.int ((256 : Int32) <<< ((((p1 &&& (63 : Int32)) - (16 : Int32)) >>> ((2 : Int32) &&& 31)) &&& 31)))] [(.int (own_cs (p1 &&& (63 : Int32))))])) _
        refine st2 _ ?_
        show Steps p.tables e below (T2.setTop (mkF m 74 #[.val (.int p1), .val (.int (p1 &&& (63 : Int32))), .val (.int (own_cs (p1 &&& (63 : Int32)))), .val (.int (((256 : Int32) <<< ((((p1 &&& (63 : Int32)) - (16 : Int32)) >>> ((2 : Int32) &&& 31)) &&& 31)) + (((((p1 &&& (63 : Int32)) - (16 : Int32)) &&& (3 : Int32)) + (1 : Int32)) * (((256 : Int32) <<< ((((p1 &&& (63 : Int32)) - (16 : Int32)) >>> ((2 : Int32) &&& 31)) &&& 31)) >>> ((2 : Int32) &&& 31))))), .val (.int (((p1 &&& (63 : Int32)) - (16 : Int32)) >>> ((2 : Int32) &&& 31))), .val (.int (((p1 &&& (63 : Int32)) - (16 : Int32)) &&& (3 : Int32))), .val (.int ((256 : Int32) <<< ((((p1 &&& (63 : Int32)) - (16 : Int32)) >>> ((2 : Int32) &&& 31)) &&& 31)))] [(.int (own_sc (own_cs (p1 &&& (63 : Int32)))))])) _
        refine XS.iloadN X2.here hx rfl (hb hby at_74) rfl ?_
        show Steps p.tables e below (T2.setTop (mkF m 75 #[.val (.int p1), .val (.int (p1 &&& (63 : Int32))), .val (.int (own_cs (p1 &&& (63 : Int32)))), .val (.int (((256 : Int32) <<< ((((p1 &&& (63 : Int32)) - (16 : Int32)) >>> ((2 : Int32) &&& 31)) &&& 31)) + (((((p1 &&& (63 : Int32)) - (16 : Int32)) &&& (3 : Int32)) + (1 : Int32)) * (((256 : Int32) <<< ((((p1 &&& (63 : Int32)) - (16 : Int32)) >>> ((2 : Int32) &&& 31)) &&& 31)) >>> ((2 : Int32) &&& 31))))), .val (.int (((p1 &&& (63 : Int32)) - (16 : Int32)) >>> ((2 : Int32) &&& 31))), .val (.int (((p1 &&& (63 : Int32)) - (16 : Int32)) &&& (3 : Int32))), .val (.int ((256 : Int32) <<< ((((p1 &&& (63 : Int32)) - (16 : Int32)) >>> ((2 : Int32) &&& 31)) &&& 31)))] [(.int (p1 &&& (63 : Int32))), (.int (own_sc (own_cs (p1 &&& (63 : Int32)))))])) _
        refine XS.icmpYes X2.here hx rfl (pc0 := 75) (pc' := 80) rfl (hb hby at_75) rfl (teq (o2 : (own_sc (own_cs (p1 &&& (63 : Int32)))) = (p1 &&& (63 : Int32)))).1 (by decide) (by decide) ?_
        show Steps p.tables e below (T2.setTop (mkF m 80 #[.val (.int p1), .val (.int (p1 &&& (63 : Int32))), .val (.int (own_cs (p1 &&& (63 : Int32)))), .val (.int (((256 : Int32) <<< ((((p1 &&& (63 : Int32)) - (16 : Int32)) >>> ((2 : Int32) &&& 31)) &&& 31)) + (((((p1 &&& (63 : Int32)) - (16 : Int32)) &&& (3 : Int32)) + (1 : Int32)) * (((256 : Int32) <<< ((((p1 &&& (63 : Int32)) - (16 : Int32)) >>> ((2 : Int32) &&& 31)) &&& 31)) >>> ((2 : Int32) &&& 31))))), .val (.int (((p1 &&& (63 : Int32)) - (16 : Int32)) >>> ((2 : Int32) &&& 31))), .val (.int (((p1 &&& (63 : Int32)) - (16 : Int32)) &&& (3 : Int32))), .val (.int ((256 : Int32) <<< ((((p1 &&& (63 : Int32)) - (16 : Int32)) >>> ((2 : Int32) &&& 31)) &&& 31)))] [])) _
        refine XS.iloadN X2.here hx rfl (hb hby at_80) rfl ?_
        show Steps p.tables e below (T2.setTop (mkF m 81 #[.val (.int p1), .val (.int (p1 &&& (63 : Int32))), .val (.int (own_cs (p1 &&& (63 : Int32)))), .val (.int (((256 : Int32) <<< ((((p1 &&& (63 : Int32)) - (16 : Int32)) >>> ((2 : Int32) &&& 31)) &&& 31)) + (((((p1 &&& (63 : Int32)) - (16 : Int32)) &&& (3 : Int32)) + (1 : Int32)) * (((256 : Int32) <<< ((((p1 &&& (63 : Int32)) - (16 : Int32)) >>> ((2 : Int32) &&& 31)) &&& 31)) >>> ((2 : Int32) &&& 31))))), .val (.int (((p1 &&& (63 : Int32)) - (16 : Int32)) >>> ((2 : Int32) &&& 31))), .val (.int (((p1 &&& (63 : Int32)) - (16 : Int32)) &&& (3 : Int32))), .val (.int ((256 : Int32) <<< ((((p1 &&& (63 : Int32)) - (16 : Int32)) >>> ((2 : Int32) &&& 31)) &&& 31)))] [(.int (p1 &&& (63 : Int32)))])) _
        refine XS.bipush X2.here hx rfl (hb hby at_81) ?_
        show Steps p.tables e below (T2.setTop (mkF m 83 #[.val (.int p1), .val (.int (p1 &&& (63 : Int32))), .val (.int (own_cs (p1 &&& (63 : Int32)))), .val (.int (((256 : Int32) <<< ((((p1 &&& (63 : Int32)) - (16 : Int32)) >>> ((2 : Int32) &&& 31)) &&& 31)) + (((((p1 &&& (63 : Int32)) - (16 : Int32)) &&& (3 : Int32)) + (1 : Int32)) * (((256 : Int32) <<< ((((p1 &&& (63 : Int32)) - (16 : Int32)) >>> ((2 : Int32) &&& 31)) &&& 31)) >>> ((2 : Int32) &&& 31))))), .val (.int (((p1 &&& (63 : Int32)) - (16 : Int32)) >>> ((2 : Int32) &&& 31))), .val (.int (((p1 &&& (63 : Int32)) - (16 : Int32)) &&& (3 : Int32))), .val (.int ((256 : Int32) <<< ((((p1 &&& (63 : Int32)) - (16 : Int32)) >>> ((2 : Int32) &&& 31)) &&& 31)))] [(.int (63 : Int32)), (.int (p1 &&& (63 : Int32)))])) _
        refine XS.icmpYes X2.here hx rfl (pc0 := 83) (pc' := 100) rfl (hb hby at_83) rfl (flt (h2 : ¬ ((p1 &&& (63 : Int32)) < (63 : Int32)))).2.1 (by decide) (by decide) ?_
        show Steps p.tables e below (T2.setTop (mkF m 100 #[.val (.int p1), .val (.int (p1 &&& (63 : Int32))), .val (.int (own_cs (p1 &&& (63 : Int32)))), .val (.int (((256 : Int32) <<< ((((p1 &&& (63 : Int32)) - (16 : Int32)) >>> ((2 : Int32) &&& 31)) &&& 31)) + (((((p1 &&& (63 : Int32)) - (16 : Int32)) &&& (3 : Int32)) + (1 : Int32)) * (((256 : Int32) <<< ((((p1 &&& (63 : Int32)) - (16 : Int32)) >>> ((2 : Int32) &&& 31)) &&& 31)) >>> ((2 : Int32) &&& 31))))), .val (.int (((p1 &&& (63 : Int32)) - (16 : Int32)) >>> ((2 : Int32) &&& 31))), .val (.int (((p1 &&& (63 : Int32)) - (16 : Int32)) &&& (3 : Int32))), .val (.int ((256 : Int32) <<< ((((p1 &&& (63 : Int32)) - (16 : Int32)) >>> ((2 : Int32) &&& 31)) &&& 31)))] [])) _
        refine XS.iconst X2.here hx rfl (hb hby at_100) ?_
        show Steps p.tables e below (T2.setTop (mkF m 101 #[.val (.int p1), .val (.int (p1 &&& (63 : Int32))), .val (.int (own_cs (p1 &&& (63 : Int32)))), .val (.int (((256 : Int32) <<< ((((p1 &&& (63 : Int32)) - (16 : Int32)) >>> ((2 : Int32) &&& 31)) &&& 31)) + (((((p1 &&& (63 : Int32)) - (16 : Int32)) &&& (3 : Int32)) + (1 : Int32)) * (((256 : Int32) <<< ((((p1 &&& (63 : Int32)) - (16 : Int32)) >>> ((2 : Int32) &&& 31)) &&& 31)) >>> ((2 : Int32) &&& 31))))), .val (.int (((p1 &&& (63 : Int32)) - (16 : Int32)) >>> ((2 : Int32) &&& 31))), .val (.int (((p1 &&& (63 : Int32)) - (16 : Int32)) &&& (3 : Int32))), .val (.int ((256 : Int32) <<< ((((p1 &&& (63 : Int32)) - (16 : Int32)) >>> ((2 : Int32) &&& 31)) &&& 31)))] [(.int (1 : Int32))])) _
        exact retN X2 hx (t := .boolean) Bd.returns (by simp) (hb hby at_101) hr
      · show Q0 Z p1 h0 n0 _ T2.heap _
        rw [e2]
        exact ⟨rfl, N2⟩
set_option maxRecDepth 65536 in
set_option maxHeartbeats 40000000 in
theorem comes_1 {Post : Tables → Env → Array Value → State → Outcome → State → Prop} (hpost : ∀ tb e args s v u, (limb_1_1.after args s (.returned v) u = true ∧ limb_1_2.after args s (.returned v) u = true ∧ True) → FrameEnd s (.returned v) u (Jvm.fieldLocs frame_1_writes args s ++ Jvm.arrayLocs frame_1_arrays args s ++ Jvm.staticLocs frame_1_statics s) 0 0 → Post tb e args s (.returned v) u) :
    ArmFor flags0 classFile x code maxLocals ret World_1 tables_1 room_1 Calls_1 rest_1 Pre_1 Post := by
  intro l hfl _ _ p e ha hc hk s m args below hf hA hF happ hP
  obtain ⟨hcalls, hrest, hpre⟩ := hP
  obtain ⟨-, -, -, hnamed, -, -, -, hat⟩ := (Spec.applies_iff hf).mp happ
  obtain ⟨hg, hn⟩ := and_e (Cond.before_iff.mp (show (Jvm.Cond.and given_1 narrow_1).before args s = true from hpre))
  obtain ⟨gc, gr0⟩ := and_e hg
  obtain ⟨w0, rfl⟩ : ∃ w0 : Value, args = #[w0] := by
    have hs : args.size = 1 := by simpa [Cond.value, given_1] using gc
    obtain ⟨L⟩ := args
    match L, hs with
    | [w0], _ => exact ⟨w0, rfl⟩
  have hw := fun d (hd : d ∈ tables_1) => atoms_spec (ws := Jvm.Cond.code x code maxLocals ret :: tables_1) hat d (List.mem_cons_of_mem _ hd)
  obtain ⟨i0, ei0⟩ := is_v gr0
  obtain rfl : w0 = (.int i0) := Option.some.inj ei0
  obtain ⟨n, o, h1, h2, h3, _, L, rfl, ⟨rfl, N⟩, hq⟩ := rm0 l s _ hw tables_1 i0 s.heap s.heap.size (Nat.le_refl _)  p e ha hc hk s m _ below hf ((Spec.applies_iff_loose hf).mp happ).1 ⟨rfl, State.Warmed39.refl s, rfl⟩ trivial
  refine ⟨n, _, h1, h2, h3, hpost _ _ _ _ _ _ ⟨Cond.after_iff.mpr rfl, Cond.after_iff.mpr (eq_i res_at (Term.int_eval (1)) rfl), trivial⟩ ⟨hq.1, hq.2.1, (hq.2.2.sift fun y hy => Or.inr (N y hy)).mono (by decide) (by decide)⟩⟩
theorem main_1_1 : Claimed_1_1 := comes_1 fun _ _ _ _ _ _ h hF => ⟨h.1, hF⟩
theorem main_1_2 : Claimed_1_2 := comes_1 fun _ _ _ _ _ _ h hF => ⟨h.2.1, hF⟩
end Jvm.Pilot.@@N@@
namespace Jvm.Pilot.@@N@@
open Jvm Jvm.ClassFile Sem Op Lib Jvm.Free Jvm.Stand Jvm.Pilot.@@N@@.Jvm.D
/-! MADE BY PROGRAM (witnessworld.py) out of the Statement's table words and the real class files: 14 classes; the members and pool entries that the words name. The judged class is class 1, her method 1. -/
namespace start1
open Jvm.ClassFile
def u (s : String) : CpInfo := .utf8 (stringToUtf16 s)
/-- a pool by its gaps: so many unusable entries, then the entry; so many at the end -/
def gap : Nat → List CpInfo → List CpInfo
  | 0, r => r
  | n + 1, r => .unusable :: gap n r
def poolList (es : List (Nat × CpInfo)) (last : Nat) : List CpInfo := es.foldr (fun e r => gap e.1 (e.2 :: r)) (gap last [])
def pool (es : List (Nat × CpInfo)) (last : Nat) : Array CpInfo := ⟨poolList es last⟩
def fileOf (pool : Array CpInfo) (this : Nat) (attrs : Array Attribute := #[]) (ms : Array MethodInfo := #[]) (fl : Nat := 33) (sup : Nat := 0) (ifs : Array Nat := #[]) (fds : Array FieldInfo := #[]) : ClassFile where
  minorVersion := 0
  majorVersion := 65
  constantPool := pool
  accessFlags := fl
  thisClass := this
  superClass := sup
  interfaces := ifs
  fields := fds
  methods := ms
  attributes := attrs
def plain (name : String) (sup : Option ClassId) : Class where
  name := name
  kind := .ordinary
  loader := none
  accessFlags := 33
  super := sup
  interfaces := #[]
  cf := none
  fields := #[]
  methods := #[]
  instanceTypes := #[]
  staticTypes := #[]
  resolved := #[]
  callSites := []
  init := .initialized
  statics := none
  mirror := none

def pool0 : Array CpInfo := pool [(5, u "<init>"), (0, u "()V"), (1, .class_ 10), (1, u "java/lang/Object")] 113

def k0m0 : Method := { name := "<init>", desc := "()V", sig := { parameters := [], returnType := none }, accessFlags := 1, code := none }
/-- java/lang/Object -/
def k0 : Class := { plain "java/lang/Object" none with
  accessFlags := 33
  interfaces := #[]
  cf := some (fileOf pool0 8 #[] #[{ accessFlags := 1, nameIndex := 5, descriptorIndex := 6, attributes := #[] }] 33 0 #[] #[])
  fields := #[]
  methods := #[k0m0]
  instanceTypes := #[]
  staticTypes := #[]
  resolved := Array.replicate 124 none
  statics := none }

def pool1 : Array CpInfo := pool [(2, .class_ 4), (1, u "java/lang/Object"), (0, u "<init>"), (0, u "()V"), (0, .methodref 8 9), (0, .class_ 10), (0, .nameAndType 11 12), (0, u "com/example/stratavault/stratavault/storage/Allocator"), (0, u "classSize"), (0, u "(I)I"), (0, .methodref 8 14), (0, .nameAndType 15 12), (0, u "sizeClass"), (0, .class_ 17), (0, u "com/example/stratavault/stratavault/storage/AllocatorClassSizePinLaw"), (2, u "law"), (0, u "(I)Z")] 3

def k1m0 : Method := { name := "<init>", desc := "()V", sig := { parameters := [], returnType := none }, accessFlags := 2, code := none }
def k1c1 : Code := { maxStack := 4, maxLocals := 7, code := code, exceptionTable := #[], attributes := #[] }
def k1m1 : Method := { name := "law", desc := "(I)Z", sig := { parameters := [.int], returnType := some .boolean }, accessFlags := 9, code := some k1c1 }
/-- com/example/stratavault/stratavault/storage/AllocatorClassSizePinLaw -/
def k1 : Class := { plain "com/example/stratavault/stratavault/storage/AllocatorClassSizePinLaw" (some 0) with
  accessFlags := 49
  interfaces := #[]
  cf := some (fileOf pool1 16 #[] #[{ accessFlags := 2, nameIndex := 5, descriptorIndex := 6, attributes := #[] }, { accessFlags := 9, nameIndex := 20, descriptorIndex := 21, attributes := #[] }] 49 2 #[] #[])
  fields := #[]
  methods := #[k1m0, k1m1]
  instanceTypes := #[]
  staticTypes := #[]
  resolved := Array.replicate 25 none
  statics := none }

def pool2 : Array CpInfo := pool [(3, .class_ 4), (0, u "com/example/stratavault/stratavault/storage/Allocator"), (3, .class_ 10), (1, u "java/lang/Object"), (4, u "freeLists"), (0, u "[J"), (2, u "store"), (0, u "Lcom/example/stratavault/stratavault/storage/Store;"), (9, u "bump"), (0, u "J"), (28, u "check"), (0, u "I"), (15, u "classSize"), (0, u "(I)I"), (4, u "sizeClass"), (54, .integer 1048576), (7, .methodref 147 148), (0, .class_ 149), (0, .nameAndType 150 78), (0, u "java/lang/Integer"), (0, u "numberOfLeadingZeros"), (12, u "MAX_BLOCK"), (1, u "ALIGNMENT"), (1, u "CLASSES"), (1, u "SMALL_CLASSES"), (0, u "SMALL_STEP_SHIFT"), (1, u "SMALL_LIMIT"), (1, u "SMALL_LIMIT_LOG"), (1, u "CLASSES_PER_DOUBLING"), (0, u "BUMP"), (0, u "FREE_LISTS"), (0, u "CHECK")] 27

def k2c0 : Code := { maxStack := 3, maxLocals := 3, code := prog_36_method_7_code, exceptionTable := #[], attributes := #[] }
def k2m0 : Method := { name := "sizeClass", desc := "(I)I", sig := { parameters := [.int], returnType := some .int }, accessFlags := 8, code := some k2c0 }
def k2c1 : Code := { maxStack := 3, maxLocals := 3, code := prog_36_method_8_code, exceptionTable := #[], attributes := #[] }
def k2m1 : Method := { name := "classSize", desc := "(I)I", sig := { parameters := [.int], returnType := some .int }, accessFlags := 8, code := some k2c1 }
/-- com/example/stratavault/stratavault/storage/Allocator -/
def k2 : Class := { plain "com/example/stratavault/stratavault/storage/Allocator" (some 0) with
  accessFlags := 49
  interfaces := #[]
  cf := some (fileOf pool2 3 #[] #[{ accessFlags := 8, nameIndex := 83, descriptorIndex := 78, attributes := #[] }, { accessFlags := 8, nameIndex := 77, descriptorIndex := 78, attributes := #[] }] 49 8 #[] #[{ accessFlags := 25, nameIndex := 163, descriptorIndex := 61, attributes := #[] }, { accessFlags := 24, nameIndex := 165, descriptorIndex := 61, attributes := #[] }, { accessFlags := 26, nameIndex := 167, descriptorIndex := 61, attributes := #[] }, { accessFlags := 26, nameIndex := 169, descriptorIndex := 61, attributes := #[] }, { accessFlags := 26, nameIndex := 170, descriptorIndex := 61, attributes := #[] }, { accessFlags := 26, nameIndex := 172, descriptorIndex := 61, attributes := #[] }, { accessFlags := 26, nameIndex := 174, descriptorIndex := 61, attributes := #[] }, { accessFlags := 26, nameIndex := 176, descriptorIndex := 61, attributes := #[] }, { accessFlags := 26, nameIndex := 177, descriptorIndex := 31, attributes := #[] }, { accessFlags := 26, nameIndex := 178, descriptorIndex := 31, attributes := #[] }, { accessFlags := 26, nameIndex := 179, descriptorIndex := 31, attributes := #[] }, { accessFlags := 18, nameIndex := 19, descriptorIndex := 20, attributes := #[] }, { accessFlags := 18, nameIndex := 15, descriptorIndex := 16, attributes := #[] }, { accessFlags := 2, nameIndex := 30, descriptorIndex := 31, attributes := #[] }, { accessFlags := 2, nameIndex := 60, descriptorIndex := 61, attributes := #[] }])
  fields := #[{ name := "MAX_BLOCK", type := .int, accessFlags := 25, slot := 0, constantValue := 0 }, { name := "ALIGNMENT", type := .int, accessFlags := 24, slot := 1, constantValue := 0 }, { name := "CLASSES", type := .int, accessFlags := 26, slot := 2, constantValue := 0 }, { name := "SMALL_CLASSES", type := .int, accessFlags := 26, slot := 3, constantValue := 0 }, { name := "SMALL_STEP_SHIFT", type := .int, accessFlags := 26, slot := 4, constantValue := 0 }, { name := "SMALL_LIMIT", type := .int, accessFlags := 26, slot := 5, constantValue := 0 }, { name := "SMALL_LIMIT_LOG", type := .int, accessFlags := 26, slot := 6, constantValue := 0 }, { name := "CLASSES_PER_DOUBLING", type := .int, accessFlags := 26, slot := 7, constantValue := 0 }, { name := "BUMP", type := .long, accessFlags := 26, slot := 8, constantValue := 0 }, { name := "FREE_LISTS", type := .long, accessFlags := 26, slot := 9, constantValue := 0 }, { name := "CHECK", type := .long, accessFlags := 26, slot := 10, constantValue := 0 }, { name := "store", type := (.object "com/example/stratavault/stratavault/storage/Store"), accessFlags := 18, slot := 0, constantValue := 0 }, { name := "freeLists", type := (.array .long), accessFlags := 18, slot := 1, constantValue := 0 }, { name := "bump", type := .long, accessFlags := 2, slot := 2, constantValue := 0 }, { name := "check", type := .int, accessFlags := 2, slot := 3, constantValue := 0 }]
  methods := #[k2m0, k2m1]
  instanceTypes := #[(.object "com/example/stratavault/stratavault/storage/Store"), (.array .long), .long, .int]
  staticTypes := #[.int, .int, .int, .int, .int, .int, .int, .int, .long, .long, .long]
  resolved := Array.replicate 207 none
  statics := none }

def pool3 : Array CpInfo := pool [(1, .class_ 2), (0, u "java/io/Serializable"), (0, .class_ 4), (0, u "java/lang/Object")] 2

/-- java/io/Serializable -/
def k3 : Class := { plain "java/io/Serializable" (some 0) with
  accessFlags := 1537
  interfaces := #[]
  cf := some (fileOf pool3 1 #[] #[] 1537 3 #[] #[])
  fields := #[]
  methods := #[]
  instanceTypes := #[]
  staticTypes := #[]
  resolved := Array.replicate 7 none
  statics := none }

def pool4 : Array CpInfo := pool [(2, .class_ 4), (1, u "java/lang/Object"), (0, u "<init>"), (0, u "()V"), (1, .class_ 10), (1, u "java/lang/Number"), (2, .class_ 14), (0, u "java/io/Serializable"), (0, u "serialVersionUID"), (0, u "J")] 20

def k4m0 : Method := { name := "<init>", desc := "()V", sig := { parameters := [], returnType := none }, accessFlags := 1, code := none }
/-- java/lang/Number -/
def k4 : Class := { plain "java/lang/Number" (some 0) with
  accessFlags := 1057
  interfaces := #[3]
  cf := some (fileOf pool4 8 #[] #[{ accessFlags := 1, nameIndex := 5, descriptorIndex := 6, attributes := #[] }] 1057 2 #[13] #[{ accessFlags := 26, nameIndex := 15, descriptorIndex := 16, attributes := #[] }])
  fields := #[{ name := "serialVersionUID", type := .long, accessFlags := 26, slot := 0, constantValue := 0 }]
  methods := #[k4m0]
  instanceTypes := #[]
  staticTypes := #[.long]
  resolved := Array.replicate 37 none
  statics := none }

def pool5 : Array CpInfo := pool [(1, .class_ 2), (0, u "java/lang/Comparable"), (0, .class_ 4), (0, u "java/lang/Object")] 7

/-- java/lang/Comparable -/
def k5 : Class := { plain "java/lang/Comparable" (some 0) with
  accessFlags := 1537
  interfaces := #[]
  cf := some (fileOf pool5 1 #[] #[] 1537 3 #[] #[])
  fields := #[]
  methods := #[]
  instanceTypes := #[]
  staticTypes := #[]
  resolved := Array.replicate 12 none
  statics := none }

def pool6 : Array CpInfo := pool [(1, .class_ 2), (0, u "java/lang/constant/Constable"), (0, .class_ 4), (0, u "java/lang/Object")] 6

/-- java/lang/constant/Constable -/
def k6 : Class := { plain "java/lang/constant/Constable" (some 0) with
  accessFlags := 1537
  interfaces := #[]
  cf := some (fileOf pool6 1 #[] #[] 1537 3 #[] #[])
  fields := #[]
  methods := #[]
  instanceTypes := #[]
  staticTypes := #[]
  resolved := Array.replicate 11 none
  statics := none }

def pool7 : Array CpInfo := pool [(1, .class_ 2), (0, u "java/lang/constant/ConstantDesc"), (0, .class_ 4), (0, u "java/lang/Object")] 32

/-- java/lang/constant/ConstantDesc -/
def k7 : Class := { plain "java/lang/constant/ConstantDesc" (some 0) with
  accessFlags := 1537
  interfaces := #[]
  cf := some (fileOf pool7 1 #[] #[] 1537 3 #[] #[])
  fields := #[]
  methods := #[]
  instanceTypes := #[]
  staticTypes := #[]
  resolved := Array.replicate 37 none
  statics := none }

def pool8 : Array CpInfo := pool [(1, .class_ 2), (0, u "java/lang/Integer"), (16, u "digits"), (0, u "[C"), (32, u "numberOfLeadingZeros"), (0, u "(I)I"), (30, u "DigitOnes"), (0, u "[B"), (2, u "DigitTens"), (99, .class_ 190), (0, u "java/lang/Integer$IntegerCache"), (3, u "I"), (8, .class_ 204), (0, u "java/lang/Number"), (2, u "value"), (56, .integer 65536), (37, u "TYPE"), (0, u "Ljava/lang/Class;"), (0, .class_ 305), (0, u "java/lang/Comparable"), (0, .class_ 307), (0, u "java/lang/constant/Constable"), (0, .class_ 309), (0, u "java/lang/constant/ConstantDesc"), (0, u "MIN_VALUE"), (1, u "MAX_VALUE"), (3, u "SIZE"), (1, u "BYTES"), (1, u "serialVersionUID"), (0, u "J")] 131

def k8c0 : Code := { maxStack := 3, maxLocals := 2, code := jdk_33_method_47_code, exceptionTable := #[], attributes := #[] }
def k8m0 : Method := { name := "numberOfLeadingZeros", desc := "(I)I", sig := { parameters := [.int], returnType := some .int }, accessFlags := 9, code := some k8c0 }
/-- java/lang/Integer -/
def k8 : Class := { plain "java/lang/Integer" (some 4) with
  accessFlags := 49
  interfaces := #[5, 6, 7]
  cf := some (fileOf pool8 1 #[.nestMembers #[189]] #[{ accessFlags := 9, nameIndex := 53, descriptorIndex := 54, attributes := #[] }] 49 203 #[304, 306, 308] #[{ accessFlags := 25, nameIndex := 310, descriptorIndex := 194, attributes := #[] }, { accessFlags := 25, nameIndex := 312, descriptorIndex := 194, attributes := #[] }, { accessFlags := 25, nameIndex := 302, descriptorIndex := 303, attributes := #[] }, { accessFlags := 24, nameIndex := 19, descriptorIndex := 20, attributes := #[] }, { accessFlags := 24, nameIndex := 89, descriptorIndex := 86, attributes := #[] }, { accessFlags := 24, nameIndex := 85, descriptorIndex := 86, attributes := #[] }, { accessFlags := 18, nameIndex := 207, descriptorIndex := 194, attributes := #[] }, { accessFlags := 25, nameIndex := 316, descriptorIndex := 194, attributes := #[] }, { accessFlags := 25, nameIndex := 318, descriptorIndex := 194, attributes := #[] }, { accessFlags := 26, nameIndex := 320, descriptorIndex := 321, attributes := #[] }])
  fields := #[{ name := "MIN_VALUE", type := .int, accessFlags := 25, slot := 0, constantValue := 0 }, { name := "MAX_VALUE", type := .int, accessFlags := 25, slot := 1, constantValue := 0 }, { name := "TYPE", type := (.object "java/lang/Class"), accessFlags := 25, slot := 2, constantValue := 0 }, { name := "digits", type := (.array .char), accessFlags := 24, slot := 3, constantValue := 0 }, { name := "DigitTens", type := (.array .byte), accessFlags := 24, slot := 4, constantValue := 0 }, { name := "DigitOnes", type := (.array .byte), accessFlags := 24, slot := 5, constantValue := 0 }, { name := "value", type := .int, accessFlags := 18, slot := 0, constantValue := 0 }, { name := "SIZE", type := .int, accessFlags := 25, slot := 6, constantValue := 0 }, { name := "BYTES", type := .int, accessFlags := 25, slot := 7, constantValue := 0 }, { name := "serialVersionUID", type := .long, accessFlags := 26, slot := 8, constantValue := 0 }]
  methods := #[k8m0]
  instanceTypes := #[.int]
  staticTypes := #[.int, .int, (.object "java/lang/Class"), (.array .char), (.array .byte), (.array .byte), .int, .int, .long]
  resolved := Array.replicate 453 none
  statics := none }

def pool9 : Array CpInfo := pool [(1, u "java/lang/Cloneable"), (0, .class_ 1), (0, u "java/lang/Object"), (0, .class_ 3)] 3

/-- java/lang/Cloneable -/
def k9 : Class := { plain "java/lang/Cloneable" (some 0) with
  accessFlags := 1537
  interfaces := #[]
  cf := some (fileOf pool9 2 #[] #[] 1537 4 #[] #[])
  fields := #[]
  methods := #[]
  instanceTypes := #[]
  staticTypes := #[]
  resolved := Array.replicate 8 none
  statics := none }

/-- the primitive byte -/
def k10 : Class := { plain "byte" none with kind := .primitive 'B', accessFlags := 0x411 }
/-- [B -/
def k11 : Class := { plain "[B" (some 0) with kind := .array 10 .byte, interfaces := #[9, 3], accessFlags := 1041 }

/-- the primitive int -/
def k12 : Class := { plain "int" none with kind := .primitive 'I', accessFlags := 0x411 }
/-- [I -/
def k13 : Class := { plain "[I" (some 0) with kind := .array 12 .int, interfaces := #[9, 3], accessFlags := 1041 }

def heap : Heap := #[]
def classes : Array Class := #[k0, k1, k2, k3, k4, k5, k6, k7, k8, k9, k10, k11, k12, k13]
def interned : List (Array UInt16 × Addr) := []
def slotsUsed : Nat := 0
def theMethod : MethodId := ⟨1, 1⟩
def args0 : Array Value := #[.int 300]
def aboutOver (below : List Frame) : State where
  vm := { classes := classes, interned := interned.toArray }
  heap := heap
  slotsUsed := slotsUsed
  threads := #[{ frames := .invoking theMethod args0 :: below }]
def below0 : List Frame := [.native { method := ⟨0, 0⟩, args := #[] }]
def about1 : State := aboutOver below0
def p0 : Program := .bare "" "" ""
def e0 : Env := launch0.env 0 0 0
theorem w_frames : about1.frames = Frame.invoking theMethod args0 :: below0 := rfl
set_option maxRecDepth 65536 in
theorem w_args : argsFit about1.vm theMethod args0 = true := by decide +kernel
set_option maxRecDepth 65536 in
theorem w_heap : heapFits about1 = true := by decide +kernel
set_option maxRecDepth 65536 in
theorem w_runnable : about1.curStatus? = some .runnable := by decide +kernel
set_option maxRecDepth 65536 in
theorem w_alone : about1.alone = true := by decide +kernel
set_option maxRecDepth 65536 in
theorem w_named : about1.methodNamed? x = some theMethod := by decide +kernel
set_option maxRecDepth 65536 in
theorem w_hears : about1.hears theMethod below0 = true := by decide +kernel
set_option maxRecDepth 65536 in
theorem w_ripe : about1.ripe theMethod args0 below0 = true := by decide +kernel
theorem w_running : about1.status = .running := rfl
set_option maxRecDepth 65536 in
theorem w_room : about1.hasRoom e0.platform room_1 = true :=
  launch0.hasRoom_least _ room_1 (by decide +kernel) (by decide +kernel) (by decide +kernel) (by decide +kernel) (by decide +kernel) (by decide +kernel)
theorem allAtoms_all (ts : List Jvm.Cond) (a : Array Jvm.Value) (st : Jvm.State) : (allAtoms ts).before a st = ts.all (fun c => c.before a st) := by
  induction ts with
  | nil => rfl
  | cons c t ih =>
    show (Jvm.Cond.and c (allAtoms t)).before a st = _
    rw [Jvm.Cond.before_and, ih, List.all_cons]
def words1 : List Jvm.Cond := Jvm.Cond.code x code maxLocals ret :: tables_1
/-- a 'code' word, met by the world's own term for the bytes: nothing is compared byte by byte -/
theorem code_word {y : MethodName} {bytes : ByteArray} {mx : Nat} {rt : Option FieldType} {a : Array Value} {s : State} {m : MethodId} {meth : Method} {c : Code} (h1 : s.methodNamed? y = some m) (h2 : s.vm.method? m = some meth) (h3 : meth.code = some c) (h4 : c.code = bytes)
    (h5 : (c.maxLocals == mx && c.exceptionTable.isEmpty && decide (c.maxStack ≤ mostOperands) && decide (meth.sig.returnType = rt) && !meth.locks && decide (parseMethodDescriptor y.desc = some meth.sig)) = true) : (Jvm.Cond.code y bytes mx rt).before a s = true := by
  simp only [Bool.and_eq_true, beq_iff_eq, Bool.not_eq_true', decide_eq_true_eq] at h5
  obtain ⟨⟨⟨⟨⟨g1, g2⟩, g3⟩, g4⟩, g5⟩, g6⟩ := h5
  simp [Cond.before, Cond.holds, Cond.value, h1, h2, h3, h4, g1, g2, g3, g4, g5, g6]
def isCode : Jvm.Cond → Bool
  | .code _ _ _ _ => true
  | _ => false
theorem all_split {L : List Jvm.Cond} {P : Jvm.Cond → Bool} (h1 : L.all (fun c => isCode c || P c) = true) (h2 : ∀ c ∈ L.filter isCode, P c = true) : L.all P = true := by
  refine List.all_eq_true.mpr fun c hc => ?_
  have h := List.all_eq_true.mp h1 c hc
  rcases Bool.eq_false_or_eq_true (isCode c) with hi | hi
  · exact h2 c (List.mem_filter.mpr ⟨hc, hi⟩)
  · simpa [hi] using h
set_option maxRecDepth 65536 in
theorem w_c0 : (Jvm.Cond.code x code maxLocals ret).before args0 about1 = true := code_word (m := ⟨1, 1⟩) (meth := k1m1) (c := k1c1) (by decide +kernel) rfl rfl rfl (by decide +kernel)
set_option maxRecDepth 65536 in
theorem w_c1 : (Jvm.Cond.code ({ cls := "com/example/stratavault/stratavault/storage/Allocator", name := "classSize", desc := "(I)I" } : Jvm.MethodName) prog_36_method_8_code (3 : Nat) (Option.some Jvm.ClassFile.FieldType.int)).before args0 about1 = true := code_word (m := ⟨2, 1⟩) (meth := k2m1) (c := k2c1) (by decide +kernel) rfl rfl rfl (by decide +kernel)
set_option maxRecDepth 65536 in
theorem w_c2 : (Jvm.Cond.code ({ cls := "com/example/stratavault/stratavault/storage/Allocator", name := "sizeClass", desc := "(I)I" } : Jvm.MethodName) prog_36_method_7_code (3 : Nat) (Option.some Jvm.ClassFile.FieldType.int)).before args0 about1 = true := code_word (m := ⟨2, 0⟩) (meth := k2m0) (c := k2c0) (by decide +kernel) rfl rfl rfl (by decide +kernel)
set_option maxRecDepth 65536 in
theorem w_c3 : (Jvm.Cond.code ({ cls := "java/lang/Integer", name := "numberOfLeadingZeros", desc := "(I)I" } : Jvm.MethodName) jdk_33_method_47_code (2 : Nat) (Option.some Jvm.ClassFile.FieldType.int)).before args0 about1 = true := code_word (m := ⟨8, 0⟩) (meth := k8m0) (c := k8c0) (by decide +kernel) rfl rfl rfl (by decide +kernel)
def codes1 : List Jvm.Cond := [Jvm.Cond.code x code maxLocals ret, Jvm.Cond.code ({ cls := "com/example/stratavault/stratavault/storage/Allocator", name := "classSize", desc := "(I)I" } : Jvm.MethodName) prog_36_method_8_code (3 : Nat) (Option.some Jvm.ClassFile.FieldType.int), Jvm.Cond.code ({ cls := "com/example/stratavault/stratavault/storage/Allocator", name := "sizeClass", desc := "(I)I" } : Jvm.MethodName) prog_36_method_7_code (3 : Nat) (Option.some Jvm.ClassFile.FieldType.int), Jvm.Cond.code ({ cls := "java/lang/Integer", name := "numberOfLeadingZeros", desc := "(I)I" } : Jvm.MethodName) jdk_33_method_47_code (2 : Nat) (Option.some Jvm.ClassFile.FieldType.int)]
set_option maxRecDepth 65536 in
theorem codes_eq : words1.filter isCode = codes1 := rfl
theorem w_codes : ∀ c ∈ words1.filter isCode, c.before args0 about1 = true := by
  rw [codes_eq]
  intro c hc
  simp only [codes1, List.mem_cons, List.not_mem_nil, or_false] at hc
  rcases hc with rfl | rfl | rfl | rfl
  · exact w_c0
  · exact w_c1
  · exact w_c2
  · exact w_c3
set_option maxRecDepth 65536 in
theorem w_t1 : words1.all (fun c => isCode c || c.before args0 about1) = true := by decide +kernel
theorem w_tables : (allAtoms (Jvm.Cond.code x code maxLocals ret :: tables_1)).before args0 about1 = true := by
  rw [allAtoms_all]
  show words1.all (fun c => c.before args0 about1) = true
  refine all_split ?_ w_codes
  rw [w_t1]
set_option maxRecDepth 65536 in
theorem w_case : (Jvm.Cond.and given_1 narrow_1).before args0 about1 = true := by decide +kernel
theorem w_applies : (headSpec (Jvm.Cond.code x code maxLocals ret :: tables_1) room_1).applies x e0.platform about1 = true :=
  (Spec.applies_iff w_frames).mpr ⟨w_running, w_runnable, w_alone, w_named, w_hears, w_ripe, w_room, w_tables⟩
theorem atStart : AtStart classFile x code maxLocals ret World_1 tables_1 room_1 Calls_1 rest_1 Pre_1 launch0 p0 e0 about1 theMethod args0 below0 :=
  ⟨lists_1, trivial, launch0.admits_env _ _ _, launch0.least_env, fairChoices_fair.cas, fairChoices_fair.clock, w_frames, w_args, w_heap, w_applies, trivial, trivial, w_case⟩
end start1
theorem witness_1 : WitnessClaimed_1 := ⟨start1.p0, start1.e0, start1.about1, start1.theMethod, start1.args0, start1.below0, start1.atStart⟩
end Jvm.Pilot.@@N@@
