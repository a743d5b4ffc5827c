import JvmDerived
import JvmDerived.Pilot.@@N@@Statement
import JvmDerived.Pilot.@@N@@Code
set_option linter.unusedVariables false
set_option linter.unusedSimpArgs false
namespace Jvm.RoadKit
open Sem ClassFile Op Lib Jvm.Stand Jvm.Free Jvm.LawKit
section New
variable {p : Program} {l : Launch} {e : Env} {R : Room} {s : State} {m : MethodId} {args : Array Value} {below : List Frame} {meth : Method} {c : Code} {T : State} {locs : List Loc} {cells slots : Nat}
theorem retI (X : Stand p l e R s m args below meth c T locs cells slots) (hx : p.tables.exec = Jvm.exec) {pc : Nat} {Ls : Array Slot} {z : Int32} {rest : List Value} (hret : meth.sig.returnType = some .int) (hd : decode c.code pc = .ok (.ireturn, 1)) {fs : List Frame}
    (hl : ∀ (f : JFrame) (acts : List Action), f.method = m → f.locked = none → f.entered = [] → (doReturn e (T.setTop f) acts (some (.int z))).1 = T.setFrames fs) : Steps p.tables e below (T.setTop (mkF m pc Ls (.int z :: rest))) (T.setFrames fs) := by
  have hm' : T.vm.method? m = some meth := X.method'
  have hn : narrow .int (.int z) = .int z := rfl
  show Steps p.tables e below (T.setTop { method := m, pc := pc, locals := Ls, stack := _ :: rest, locked := none }) _
  jvm_step X.here [X.here.top, hx, hd, hm', hret, hn]
  first | (intro acts; rw [hl _ acts rfl rfl rfl]) | rw [hl _ _ rfl rfl rfl]
  exact Steps.refl _
end New
end Jvm.RoadKit
namespace Jvm.Pilot.@@N@@
open Jvm Jvm.ClassFile Sem Op Lib Jvm.Free Jvm.Stand Jvm.LawKit Jvm.RoadKit Bundle Jvm.Pilot.@@N@@.Jvm.D
def own_A (Z : State) (h : Heap) (a : Addr) (ty : FieldType) (n : Nat) (f : Nat → Value) : Prop := ∃ c : Cell, Arr Z h a c ty ∧ c.slots.size = n ∧ ∀ j, j < n → c.slots[j]? = some (f j)
section OwnA
variable {Z : State} {h h' : Heap} {a b : Addr} {ty : FieldType} {n : Nat} {f : Nat → Value} {sl : Nat} {v : Value} {ws : List Addr}
theorem own_A.lt (F : own_A Z h a ty n f) : a < h.size := by obtain ⟨c, A, -⟩ := F; exact A.lt
theorem own_A.ext (F : own_A Z h a ty n f) (E : Ext h h') : own_A Z h' a ty n f := by obtain ⟨c, A, r⟩ := F; exact ⟨c, A.ext E, r⟩
theorem own_A.other (F : own_A Z h b ty n f) (W : Wr h h' a sl v) (q : b ≠ a) : own_A Z h' b ty n f := by obtain ⟨c, A, r⟩ := F; exact ⟨c, A.other W q, r⟩
theorem own_A.keep (F : own_A Z h a ty n f) (K : Keep h h' ws) (q : a ∉ ws) : own_A Z h' a ty n f := by obtain ⟨c, A, r⟩ := F; exact ⟨c, ⟨K.2.1 a c A.1 q, A.2⟩, r⟩
theorem own_A.alike {g : Nat → Value} (F : own_A Z h a ty n f) (e : ∀ j, j < n → f j = g j) : own_A Z h a ty n g := by obtain ⟨c, A, s, r⟩ := F; exact ⟨c, A, s, fun j hj => by rw [r j hj, e j hj]⟩
theorem own_A.set (F : own_A Z h a ty n f) {k : Nat} (hk : k < n) (W : Wr h h' a k v) : own_A Z h' a ty n (fun j => if j = k then v else f j) := by
  obtain ⟨c, A, s, r⟩ := F
  refine ⟨c.setSlot k v, A.same W, by rw [sz_set, s], fun j hj => ?_⟩
  show (c.slots.setIfInBounds k v)[j]? = some (if j = k then v else f j)
  rw [Array.getElem?_setIfInBounds]
  by_cases e : k = j
  · subst e; rw [if_pos rfl, if_pos (by omega), if_pos rfl]
  · rw [if_neg e, if_neg (fun q : j = k => e q.symm), r j hj]
theorem own_A.new {k : ClassId} {z : Int32} (A : Arr Z h a (newA k ty z) ty) (e : z.toNatClampNeg = n) : own_A Z h a ty n (fun _ => defaultValue ty) := by
  refine ⟨_, A, by rw [sz_new, e], fun j hj => ?_⟩
  show (Array.replicate z.toNatClampNeg (defaultValue ty))[j]? = _
  rw [Array.getElem?_replicate, if_pos (by omega)]
end OwnA
theorem own_in {c : Cell} {j : Int32} {n k : Nat} (s : c.slots.size = n) (h0 : ¬ j < 0) (hk : j.toNatClampNeg = k) (h : k < n) : ¬ (j < 0 ∨ c.slots.size ≤ j.toNatClampNeg) := fun q => q.elim h0 fun q => by omega

def own_x (p : Int32) : Int32 := p &&& (2147483647 : Int32)
def own_n (p : Int32) : Int32 := (p &&& (2147483647 : Int32)) % (5 : Int32)
def own_g (a b c d : Int32) : Nat → Int32
  | 0 => a
  | 1 => b
  | 2 => c
  | _ => d
def own_s (g : Nat → Int32) : Nat → Int64
  | 0 => 0
  | k + 1 => own_s g k + (g k).toInt64
theorem own_nat (a : Nat) (h : a < 1000) : (Int32.ofNat a).toInt = a := by
  rw [Int32.toInt_ofNat', show Int32.size = 4294967296 from rfl, Int.bmod_def]; omega
theorem own_clamp (a : Nat) (h : a < 1000) : (Int32.ofNat a).toNatClampNeg = a := by
  show (Int32.ofNat a).toInt.toNat = a
  rw [own_nat a h]; rfl
theorem own_nn (a : Nat) (h : a < 1000) : ¬ (Int32.ofNat a < 0) := fun q => by
  rw [Int32.lt_iff_toInt_lt, own_nat a h] at q
  have z : (0 : Int32).toInt = 0 := rfl
  omega
theorem own_lt (a b : Nat) (h : b < 1000) (q : a < b) : Int32.ofNat a < Int32.ofNat b := by
  rw [Int32.lt_iff_toInt_lt, own_nat a (by omega), own_nat b h]; omega
theorem own_ge (a b : Nat) (h : b < 1000) (q : b ≤ a) (h2 : a < 1000) : ¬ (Int32.ofNat a < Int32.ofNat b) := fun z => by
  rw [Int32.lt_iff_toInt_lt, own_nat a h2, own_nat b h] at z; omega
theorem own_succ (a : Nat) : Int32.ofNat a + (1 : Int32) = Int32.ofNat (a + 1) := by rw [Int32.ofNat_add]; rfl
theorem own_len {cl : Cell} {N : Nat} (s : cl.slots.size = N) : cl.slots.size.toInt32 = Int32.ofNat N := by rw [s]
theorem own_nx (p : Int32) : ∃ N : Nat, N < 5 ∧ own_n p = Int32.ofNat N := by
  have e := c_mask p (2147483647 : Int32) 31 (by decide) (by decide)
  have q := (c_irem (p &&& (2147483647 : Int32)) (5 : Int32) 5 rfl).1 (by omega)
  refine ⟨(own_n p).toInt.toNat, ?_, Int32.toInt_inj.mp ?_⟩
  · show ((p &&& (2147483647 : Int32)) % (5 : Int32)).toInt.toNat < 5; omega
  · have q2 : (own_n p).toInt = (p &&& (2147483647 : Int32)).toInt % 5 := q
    rw [own_nat _ (by omega)]; omega
theorem d1_0 : decode prog_54_method_4_code 0 = .ok (.aload_n 0, 1) := by decide +kernel
theorem d1_1 : decode prog_54_method_4_code 1 = .ok (.arraylength, 1) := by decide +kernel
theorem d1_2 : decode prog_54_method_4_code 2 = .ok (.newarray .long, 2) := by decide +kernel
theorem d1_4 : decode prog_54_method_4_code 4 = .ok (.astore_n 1, 1) := by decide +kernel
theorem d1_5 : decode prog_54_method_4_code 5 = .ok (.lconst 0, 1) := by decide +kernel
theorem d1_6 : decode prog_54_method_4_code 6 = .ok (.lstore_n 2, 1) := by decide +kernel
theorem d1_7 : decode prog_54_method_4_code 7 = .ok (.iconst 0, 1) := by decide +kernel
theorem d1_8 : decode prog_54_method_4_code 8 = .ok (.istore 4, 2) := by decide +kernel
theorem d1_10 : decode prog_54_method_4_code 10 = .ok (.iload 4, 2) := by decide +kernel
theorem d1_12 : decode prog_54_method_4_code 12 = .ok (.aload_n 0, 1) := by decide +kernel
theorem d1_13 : decode prog_54_method_4_code 13 = .ok (.arraylength, 1) := by decide +kernel
theorem d1_14 : decode prog_54_method_4_code 14 = .ok (.if_icmp .ge 22, 3) := by decide +kernel
theorem d1_17 : decode prog_54_method_4_code 17 = .ok (.lload_n 2, 1) := by decide +kernel
theorem d1_18 : decode prog_54_method_4_code 18 = .ok (.aload_n 0, 1) := by decide +kernel
theorem d1_19 : decode prog_54_method_4_code 19 = .ok (.iload 4, 2) := by decide +kernel
theorem d1_21 : decode prog_54_method_4_code 21 = .ok (.iaload, 1) := by decide +kernel
theorem d1_22 : decode prog_54_method_4_code 22 = .ok (.i2l, 1) := by decide +kernel
theorem d1_23 : decode prog_54_method_4_code 23 = .ok (.ladd, 1) := by decide +kernel
theorem d1_24 : decode prog_54_method_4_code 24 = .ok (.lstore_n 2, 1) := by decide +kernel
theorem d1_25 : decode prog_54_method_4_code 25 = .ok (.aload_n 1, 1) := by decide +kernel
theorem d1_26 : decode prog_54_method_4_code 26 = .ok (.iload 4, 2) := by decide +kernel
theorem d1_28 : decode prog_54_method_4_code 28 = .ok (.lload_n 2, 1) := by decide +kernel
theorem d1_29 : decode prog_54_method_4_code 29 = .ok (.lastore, 1) := by decide +kernel
theorem d1_30 : decode prog_54_method_4_code 30 = .ok (.iinc 4 1, 3) := by decide +kernel
theorem d1_33 : decode prog_54_method_4_code 33 = .ok (.goto (-23), 3) := by decide +kernel
theorem d1_36 : decode prog_54_method_4_code 36 = .ok (.aload_n 1, 1) := by decide +kernel
theorem d1_37 : decode prog_54_method_4_code 37 = .ok (.areturn, 1) := by decide +kernel
theorem pdx_0 : parseMethodDescriptor "([I)[J" = some ⟨[(.array .int)], some (.array .long)⟩ := by decide +kernel
set_option maxRecDepth 65536 in
set_option maxHeartbeats 40000000 in
theorem loop1 {p : Program} {l : Launch} {e : Env} {R : Room} {s : State} {m : MethodId} {args : Array Value} {below : List Frame} {meth : Method} {c : Code} {cells slots : Nat} {Z : State} {a0 : Array Value} (a t : Addr) (N : Nat) (hN : N < 5) (g : Nat → Int32) (n0 : Nat) (g_t : n0 ≤ t) (ne1 : a ≠ t) (hx : p.tables.exec = Jvm.exec) (hZ : Z.Warmed39 s.vm) (hw : ∀ d ∈ tables_1, d.before a0 Z = true) (hby : c.code = prog_54_method_4_code) (hown : s.vm.findClass "com/example/redoubt/redoubt/Weight" = some m.cls) :
    ∀ (k i : Nat) (hik : i + k = N) (F : Nat → Value) (T0 : State) (locs : List Loc) (h0 : Heap) (X0 : Stand p l e R s m args below meth c T0 locs cells slots) (e0 : T0.heap = h0) (N0 : Fr n0 locs) (Va : own_A Z h0 a .int N (fun j => .int (g j))) (V0 : own_A Z h0 t .long N F) (hF : ∀ j, j < i → F j = .long (own_s g (j + 1))),
    ∃ (T' : State) (h' : Heap) (locs' : List Loc) (F' : Nat → Value), Stand p l e R s m args below meth c T' locs' cells slots ∧ T'.heap = h' ∧ Fr n0 locs' ∧ Keep h0 h' [t] ∧ own_A Z h' t .long N F' ∧ (∀ j, j < N → F' j = .long (own_s g (j + 1))) ∧
      ∀ target, Steps p.tables e below (T'.setTop (mkF m 36 #[.val (.ref a), .val (.ref t), .val (.long (own_s g N)), .second, .val (.int (Int32.ofNat N))] [])) target → Steps p.tables e below (T0.setTop (mkF m 10 #[.val (.ref a), .val (.ref t), .val (.long (own_s g i)), .second, .val (.int (Int32.ofNat i))] [])) target := by
  intro k
  induction k with
  | zero =>
    intro i hik F T0 locs h0 X0 e0 N0 Va V0 hF
    obtain rfl : i = N := by omega
    obtain ⟨cl, Ar, Sz, Hs⟩ := id Va
    refine ⟨T0, h0, locs, F, X0, e0, N0, Keep.refl _ _, V0, hF, fun target kt => ?_⟩
    show Steps p.tables e below (T0.setTop (mkF m 10 #[.val (.ref a), .val (.ref t), .val (.long (own_s g i)), .second, .val (.int (Int32.ofNat i))] [])) _
    refine XS.iload X0.here hx rfl (hb hby d1_10) rfl ?_
    show Steps p.tables e below (T0.setTop (mkF m 12 #[.val (.ref a), .val (.ref t), .val (.long (own_s g i)), .second, .val (.int (Int32.ofNat i))] [(.int (Int32.ofNat i))])) _
    refine XS.aloadN X0.here hx rfl (hb hby d1_12) rfl rfl ?_
    show Steps p.tables e below (T0.setTop (mkF m 13 #[.val (.ref a), .val (.ref t), .val (.long (own_s g i)), .second, .val (.int (Int32.ofNat i))] [(.ref a), (.int (Int32.ofNat i))])) _
    refine X0.arraylength hx (cell := cl) (by rw [e0]; exact Ar.1) (State.isArrayOf_alike hZ.alike Ar.2.1) (g := (mkF m 13 #[.val (.ref a), .val (.ref t), .val (.long (own_s g i)), .second, .val (.int (Int32.ofNat i))] [(.ref a), (.int (Int32.ofNat i))])) rfl rfl (hb hby d1_13) _ ?_
    rw [show cl.slots.size.toInt32 = (Int32.ofNat i) from own_len Sz]
    show Steps p.tables e below (T0.setTop (mkF m 14 #[.val (.ref a), .val (.ref t), .val (.long (own_s g i)), .second, .val (.int (Int32.ofNat i))] [(.int (Int32.ofNat i)), (.int (Int32.ofNat i))])) _
    refine XS.icmpYes X0.here hx rfl (pc0 := 14) (pc' := 36) rfl (hb hby d1_14) rfl (flt (own_ge i i (by omega) (by omega) (by omega) : ¬ ((Int32.ofNat i) < (Int32.ofNat i)))).2.1 (by decide) (by decide) ?_
    show Steps p.tables e below (T0.setTop (mkF m 36 #[.val (.ref a), .val (.ref t), .val (.long (own_s g i)), .second, .val (.int (Int32.ofNat i))] [])) _
    exact kt
  | succ k ih =>
    intro i hik F T0 locs h0 X0 e0 N0 Va V0 hF
    obtain ⟨cl, Ar, Sz, Hs⟩ := id Va
    obtain ⟨ct, At, St, Ht⟩ := id V0
    have hin := own_in Sz (own_nn i (by omega)) (own_clamp i (by omega)) (by omega : i < N)
    have hat : cl.slots[(Int32.ofNat i).toNatClampNeg]? = some (.int (g i)) := by rw [own_clamp i (by omega)]; exact Hs i (by omega)
    obtain ⟨T1, h1, X1, e1, W1, st1⟩ := stJ X0 hx hZ e0 At (j := (Int32.ofNat i)) (own_in St (own_nn i (by omega)) (own_clamp i (by omega)) (by omega : i < N)) (g := (mkF m 29 #[.val (.ref a), .val (.ref t), .val (.long ((own_s g i) + ((g i).toInt64))), .second, .val (.int (Int32.ofNat i))] [(.long ((own_s g i) + ((g i).toInt64))), (.int (Int32.ofNat i)), (.ref t)])) rfl rfl (hb hby d1_29)
    have c1_V_a := Va.other W1 ne1
    have N1 := Fr.snoc X1 N0 g_t
    rw [own_clamp i (by omega)] at W1
    have V1 := V0.set (by omega : i < N) W1
    obtain ⟨T', h', locs', F', X', e', N', K', V', hF', st'⟩ := ih (i + 1) (by omega) _ T1 _ h1 X1 e1 N1 c1_V_a V1 (fun j hj => by
      show (if j = i then _ else F j) = _
      by_cases q : j = i
      · subst q; rw [if_pos rfl]; rfl
      · rw [if_neg q]; exact hF j (by omega))
    refine ⟨T', h', locs', F', X', e', N', (Keep.of_wr W1).trans K' (fun x hx => Or.inl hx), V', hF', fun target kt => ?_⟩
    show Steps p.tables e below (T0.setTop (mkF m 10 #[.val (.ref a), .val (.ref t), .val (.long (own_s g i)), .second, .val (.int (Int32.ofNat i))] [])) _
    refine XS.iload X0.here hx rfl (hb hby d1_10) rfl ?_
    show Steps p.tables e below (T0.setTop (mkF m 12 #[.val (.ref a), .val (.ref t), .val (.long (own_s g i)), .second, .val (.int (Int32.ofNat i))] [(.int (Int32.ofNat i))])) _
    refine XS.aloadN X0.here hx rfl (hb hby d1_12) rfl rfl ?_
    show Steps p.tables e below (T0.setTop (mkF m 13 #[.val (.ref a), .val (.ref t), .val (.long (own_s g i)), .second, .val (.int (Int32.ofNat i))] [(.ref a), (.int (Int32.ofNat i))])) _
    refine X0.arraylength hx (cell := cl) (by rw [e0]; exact Ar.1) (State.isArrayOf_alike hZ.alike Ar.2.1) (g := (mkF m 13 #[.val (.ref a), .val (.ref t), .val (.long (own_s g i)), .second, .val (.int (Int32.ofNat i))] [(.ref a), (.int (Int32.ofNat i))])) rfl rfl (hb hby d1_13) _ ?_
    rw [show cl.slots.size.toInt32 = (Int32.ofNat N) from own_len Sz]
    show Steps p.tables e below (T0.setTop (mkF m 14 #[.val (.ref a), .val (.ref t), .val (.long (own_s g i)), .second, .val (.int (Int32.ofNat i))] [(.int (Int32.ofNat N)), (.int (Int32.ofNat i))])) _
    refine XS.icmpNo X0.here hx rfl (hb hby d1_14) rfl (tlt (own_lt i N (by omega) (by omega) : (Int32.ofNat i) < (Int32.ofNat N))).2.1 ?_
    show Steps p.tables e below (T0.setTop (mkF m 17 #[.val (.ref a), .val (.ref t), .val (.long (own_s g i)), .second, .val (.int (Int32.ofNat i))] [])) _
    refine XS.lloadN X0.here hx rfl (hb hby d1_17) rfl ?_
    show Steps p.tables e below (T0.setTop (mkF m 18 #[.val (.ref a), .val (.ref t), .val (.long (own_s g i)), .second, .val (.int (Int32.ofNat i))] [(.long (own_s g i))])) _
    refine XS.aloadN X0.here hx rfl (hb hby d1_18) rfl rfl ?_
    show Steps p.tables e below (T0.setTop (mkF m 19 #[.val (.ref a), .val (.ref t), .val (.long (own_s g i)), .second, .val (.int (Int32.ofNat i))] [(.ref a), (.long (own_s g i))])) _
    refine XS.iload X0.here hx rfl (hb hby d1_19) rfl ?_
    show Steps p.tables e below (T0.setTop (mkF m 21 #[.val (.ref a), .val (.ref t), .val (.long (own_s g i)), .second, .val (.int (Int32.ofNat i))] [(.int (Int32.ofNat i)), (.ref a), (.long (own_s g i))])) _
    refine X0.iaload hx (j := (Int32.ofNat i)) (v := (.int (g i))) (by rw [e0]; exact Ar.1) (State.isArrayOf_alike hZ.alike Ar.2.1) Ar.2.2 hin hat (g := (mkF m 21 #[.val (.ref a), .val (.ref t), .val (.long (own_s g i)), .second, .val (.int (Int32.ofNat i))] [(.int (Int32.ofNat i)), (.ref a), (.long (own_s g i))])) rfl rfl (hb hby d1_21) _ ?_
    show Steps p.tables e below (T0.setTop (mkF m 22 #[.val (.ref a), .val (.ref t), .val (.long (own_s g i)), .second, .val (.int (Int32.ofNat i))] [(.int (g i)), (.long (own_s g i))])) _
    refine XS.i2l X0.here hx rfl (hb hby d1_22) rfl ?_
    show Steps p.tables e below (T0.setTop (mkF m 23 #[.val (.ref a), .val (.ref t), .val (.long (own_s g i)), .second, .val (.int (Int32.ofNat i))] [(.long ((g i).toInt64)), (.long (own_s g i))])) _
    refine XS.ladd X0.here hx rfl (hb hby d1_23) rfl ?_
    show Steps p.tables e below (T0.setTop (mkF m 24 #[.val (.ref a), .val (.ref t), .val (.long (own_s g i)), .second, .val (.int (Int32.ofNat i))] [(.long ((own_s g i) + ((g i).toInt64)))])) _
    refine XS.lstoreN X0.here hx rfl (hb hby d1_24) rfl (l' := #[.val (.ref a), .val (.ref t), .val (.long ((own_s g i) + ((g i).toInt64))), .second, .val (.int (Int32.ofNat i))]) rfl ?_
    show Steps p.tables e below (T0.setTop (mkF m 25 #[.val (.ref a), .val (.ref t), .val (.long ((own_s g i) + ((g i).toInt64))), .second, .val (.int (Int32.ofNat i))] [])) _
    refine XS.aloadN X0.here hx rfl (hb hby d1_25) rfl rfl ?_
    show Steps p.tables e below (T0.setTop (mkF m 26 #[.val (.ref a), .val (.ref t), .val (.long ((own_s g i) + ((g i).toInt64))), .second, .val (.int (Int32.ofNat i))] [(.ref t)])) _
    refine XS.iload X0.here hx rfl (hb hby d1_26) rfl ?_
    show Steps p.tables e below (T0.setTop (mkF m 28 #[.val (.ref a), .val (.ref t), .val (.long ((own_s g i) + ((g i).toInt64))), .second, .val (.int (Int32.ofNat i))] [(.int (Int32.ofNat i)), (.ref t)])) _
    refine XS.lloadN X0.here hx rfl (hb hby d1_28) rfl ?_
    show Steps p.tables e below (T0.setTop (mkF m 29 #[.val (.ref a), .val (.ref t), .val (.long ((own_s g i) + ((g i).toInt64))), .second, .val (.int (Int32.ofNat i))] [(.long ((own_s g i) + ((g i).toInt64))), (.int (Int32.ofNat i)), (.ref t)])) _
    refine st1 _ ?_
    show Steps p.tables e below (T1.setTop (mkF m 30 #[.val (.ref a), .val (.ref t), .val (.long ((own_s g i) + ((g i).toInt64))), .second, .val (.int (Int32.ofNat i))] [])) _
    refine XS.iinc X1.here hx rfl (hb hby d1_30) rfl (l' := #[.val (.ref a), .val (.ref t), .val (.long ((own_s g i) + ((g i).toInt64))), .second, .val (.int ((Int32.ofNat i) + (1 : Int32)))]) rfl ?_
    show Steps p.tables e below (T1.setTop (mkF m 33 #[.val (.ref a), .val (.ref t), .val (.long ((own_s g i) + ((g i).toInt64))), .second, .val (.int ((Int32.ofNat i) + (1 : Int32)))] [])) _
    refine XS.goto X1.here hx rfl (pc0 := 33) (pc' := 10) rfl (hb hby d1_33) (by decide) (by decide) ?_
    show Steps p.tables e below (T1.setTop (mkF m 10 #[.val (.ref a), .val (.ref t), .val (.long ((own_s g i) + ((g i).toInt64))), .second, .val (.int ((Int32.ofNat i) + (1 : Int32)))] [])) _
    rw [own_succ]
    exact st' _ kt
theorem ef_1 (m : MethodId) (x0 : Addr) : entryFrame m #[(.ref x0)] 5 = mkF m 0 #[.val (.ref x0), .unset, .unset, .unset, .unset] [] := by first | (simp [entryFrame, mkF, argsToLocals, Value.category]; done) | rfl
theorem pn_1 : plainName "com/example/redoubt/redoubt/Weight" = true := by first | (simp [plainName, overriddenIn]; done) | decide +kernel
def Q1 (Z : State) (a : Addr) (N : Nat) (g : Nat → Int32) (h0 : Heap) (n0 : Nat) (rv : Option Value) (h : Heap) (Lq : List Loc) : Prop := rv = some (.ref h0.size) ∧ Fr n0 Lq ∧ Keep h0 h [] ∧ own_A Z h h0.size .long N (fun j => .long (own_s g (j + 1)))
set_option maxRecDepth 65536 in
set_option maxHeartbeats 40000000 in
theorem rm1 (l : Launch) (Z : State) (a0 : Array Value) (hw : ∀ d ∈ tables_1, d.before a0 Z = true) (ws : List Jvm.Cond) (a : Addr) (N : Nat) (g : Nat → Int32) (h0 : Heap) (n0 : Nat) (Z0 : n0 ≤ h0.size) (hN : N < 5) (Va : own_A Z h0 a .int N (fun j => .int (g j))) :
    MetFree l (⟨"com/example/redoubt/redoubt/Weight", "sums", "([I)[J"⟩ : MethodName) (head1 (Jvm.Cond.code (⟨"com/example/redoubt/redoubt/Weight", "sums", "([I)[J"⟩ : MethodName) prog_54_method_4_code 5 (some (.array .long)) :: ws) ({ frames := 0, cells := 1, slots := 4, locals := 0 } : Room)) (fun xx U => xx = #[(.ref a)] ∧ Z.Warmed39 U.vm ∧ U.heap = h0) (fun _ _ _ _ _ => True) (fun _ U o U' => ∃ rv Lq, o = .returned rv ∧ Q1 Z a N g h0 n0 rv U'.heap Lq ∧ FrameEnd U o U' Lq ({ frames := 0, cells := 1, slots := 4, locals := 0 } : Room).cells ({ frames := 0, cells := 1, slots := 4, locals := 0 } : Room).slots) := by
  refine MetFree.of_bodySF (plainFor_of_name pn_1) hisR ?_
  intro p e s m args below meth c s₁ Bd hml0 hP hK
  obtain ⟨rfl, hZ, hh⟩ := hP
  have hx := Bd.exec
  have hby := Bd.bytes
  have hml : c.maxLocals = 5 := hml0
  have hown : s.vm.findClass "com/example/redoubt/redoubt/Weight" = some m.cls := findClass_of_methodNamed Bd.named
  have hnm := (name_of_methodNamed Bd.named Bd.method).1
  have X0 : Stand p l e ({ frames := 0, cells := 1, slots := 4, locals := 0 } : Room) s m #[(.ref a)] below meth c s₁ [] 0 0 := Stand.of_body Bd
  have e0 : s₁.heap = h0 := by rw [← hh, Bd.state]; rfl
  have N0 := Fr.nil n0
  have pre0 : ∀ t, Steps p.tables e below (s₁.setTop (mkF m 0 #[.val (.ref a), .unset, .unset, .unset, .unset] [])) t → Steps p.tables e below (s₁.setTop (entryFrame m #[(.ref a)] 5)) t := fun t k => castTop (ef_1 m a) k
  obtain ⟨cl, Ar, Sz, Hs⟩ := id Va
  obtain ⟨T1, h1, k1, X1, e1, E1, A1, st1⟩ := newP X0 hx hZ (hw _ (List.mem_of_getElem? (i := 6) rfl)) e0 (g := (mkF m 2 #[.val (.ref a), .unset, .unset, .unset, .unset] [(.int (Int32.ofNat N))])) rfl (hb hby d1_2) rfl (own_nn N (by omega)) (cap := 4) (by rw [own_clamp N (by omega)]; omega) (by decide) (by decide) (by decide)
  obtain ⟨t, g1⟩ : ∃ z, z = h0.size := ⟨_, rfl⟩
  have g_t : n0 ≤ t := Nat.le_trans Z0 (Nat.le_of_eq g1.symm)
  have ne_a_t : a ≠ t := Nat.ne_of_lt (Nat.lt_of_lt_of_le Va.lt (Nat.le_of_eq g1.symm))
  have sz_t : h0.size ≤ t := Nat.le_trans (Keep.refl h0 []).1 (Nat.le_of_eq g1.symm)
  rw [← g1] at A1 st1
  have c1_V_a := Va.ext E1
  have c1_K___ := (Keep.refl h0 []).ext E1
  have V1 := own_A.new A1 (own_clamp N (by omega))
  obtain ⟨TL, hL, locsL, FL, XL, eL, NL, KL, VL, hFL, stL⟩ := loop1 a t N hN g n0 g_t ne_a_t hx hZ hw hby hown N 0 (by omega) _ T1 _ h1 X1 e1 N0 c1_V_a V1 (fun j hj => absurd hj (by omega))
  obtain ⟨fs, hr, hrun, hended, hW, hsame⟩ := XL.leave (v := some (.ref t)) (fun h => by rw [Bd.returns] at h; cases h)
  refine ⟨_, _, pre0 _ ?_, hrun, hended, _, _, rfl, ?_, ⟨_, rfl⟩, hW, hsame.mono (by decide) (by decide)⟩
  · show Steps p.tables e below (s₁.setTop (mkF m 0 #[.val (.ref a), .unset, .unset, .unset, .unset] [])) _
    refine XS.aloadN X0.here hx rfl (hb hby d1_0) rfl rfl ?_
    show Steps p.tables e below (s₁.setTop (mkF m 1 #[.val (.ref a), .unset, .unset, .unset, .unset] [(.ref a)])) _
    refine X0.arraylength hx (cell := cl) (by rw [e0]; exact Ar.1) (State.isArrayOf_alike hZ.alike Ar.2.1) (g := (mkF m 1 #[.val (.ref a), .unset, .unset, .unset, .unset] [(.ref a)])) rfl rfl (hb hby d1_1) _ ?_
    rw [show cl.slots.size.toInt32 = (Int32.ofNat N) from own_len Sz]
    show Steps p.tables e below (s₁.setTop (mkF m 2 #[.val (.ref a), .unset, .unset, .unset, .unset] [(.int (Int32.ofNat N))])) _
    refine st1 _ ?_
    show Steps p.tables e below (T1.setTop (mkF m 4 #[.val (.ref a), .unset, .unset, .unset, .unset] [(.ref t)])) _
    refine XS.astoreN X1.here hx rfl (hb hby d1_4) rfl rfl (l' := #[.val (.ref a), .val (.ref t), .unset, .unset, .unset]) rfl ?_
    show Steps p.tables e below (T1.setTop (mkF m 5 #[.val (.ref a), .val (.ref t), .unset, .unset, .unset] [])) _
    refine XS.lconst X1.here hx rfl (hb hby d1_5) ?_
    show Steps p.tables e below (T1.setTop (mkF m 6 #[.val (.ref a), .val (.ref t), .unset, .unset, .unset] [(.long (0 : Int64))])) _
    refine XS.lstoreN X1.here hx rfl (hb hby d1_6) rfl (l' := #[.val (.ref a), .val (.ref t), .val (.long (0 : Int64)), .second, .unset]) rfl ?_
    show Steps p.tables e below (T1.setTop (mkF m 7 #[.val (.ref a), .val (.ref t), .val (.long (0 : Int64)), .second, .unset] [])) _
    refine XS.iconst X1.here hx rfl (hb hby d1_7) ?_
    show Steps p.tables e below (T1.setTop (mkF m 8 #[.val (.ref a), .val (.ref t), .val (.long (0 : Int64)), .second, .unset] [(.int (0 : Int32))])) _
    refine XS.istore X1.here hx rfl (hb hby d1_8) rfl (l' := #[.val (.ref a), .val (.ref t), .val (.long (0 : Int64)), .second, .val (.int (0 : Int32))]) rfl ?_
    show Steps p.tables e below (T1.setTop (mkF m 10 #[.val (.ref a), .val (.ref t), .val (.long (0 : Int64)), .second, .val (.int (0 : Int32))] [])) _
    refine stL _ ?_
    show Steps p.tables e below (TL.setTop (mkF m 36 #[.val (.ref a), .val (.ref t), .val (.long (own_s g N)), .second, .val (.int (Int32.ofNat N))] [])) _
    refine XS.aloadN XL.here hx rfl (hb hby d1_36) rfl rfl ?_
    show Steps p.tables e below (TL.setTop (mkF m 37 #[.val (.ref a), .val (.ref t), .val (.long (own_s g N)), .second, .val (.int (Int32.ofNat N))] [(.ref t)])) _
    jvm_step XL.here [XL.here.top, hx, (hb hby d1_37), XL.method', Bd.returns, Value.isRef, FieldType.isReference]
    first | (intro acts; rw [hr _ acts rfl rfl rfl]) | rw [hr _ _ rfl rfl rfl]
    exact Steps.refl _
  · show Q1 Z a N g h0 n0 _ TL.heap _
    rw [eL]
    subst g1
    exact ⟨rfl, NL, c1_K___.trans KL (allS (Or.inr sz_t) all0), VL.alike hFL⟩
set_option maxRecDepth 65536 in
set_option maxHeartbeats 40000000 in
theorem sg_0 {p : Program} {l : Launch} {e : Env} {R : Room} {s : State} {m : MethodId} {args : Array Value} {below : List Frame} {meth : Method} {c : Code} {T0 : State} {locs : List Loc} {cells slots : Nat} {Z : State} {a0 : Array Value} {h0 : Heap} (p1 p2 p3 p4 p5 n x0 x1 x2 x3 : Int32) (b r : Addr) (N : Nat) (X0 : Stand p l e R s m args below meth c T0 locs cells slots) (hx : p.tables.exec = Jvm.exec) (hZ : Z.Warmed39 s.vm) (hw : ∀ d ∈ tables_1, d.before a0 Z = true) (hby : c.code = code) (hown : s.vm.findClass "com/example/redoubt/redoubt/WeightSumsPinLaw" = some m.cls) (e0 : T0.heap = h0) (Vs : own_A Z h0 r .long N (fun j => .long (own_s (own_g x0 x1 x2 x3) (j + 1)))) (Va : own_A Z h0 b .int N (fun j => .int (own_g x0 x1 x2 x3 j))) (hN : 0 < N) (hn : (0 : Int32) < n) :
    ∀ target, Steps p.tables e below (T0.setTop (mkF m 167 #[.val (.int p1), .val (.int p2), .val (.int p3), .val (.int p4), .val (.int p5), .val (.int n), .val (.int x0), .val (.int x1), .val (.int x2), .val (.int x3), .val (.long (x0.toInt64)), .second, .val (.long (x1.toInt64)), .second, .val (.long (x2.toInt64)), .second, .val (.long (x3.toInt64)), .second, .val (.ref b), .val (.ref r), .val (.int (1 : Int32))] [])) target → Steps p.tables e below (T0.setTop (mkF m 131 #[.val (.int p1), .val (.int p2), .val (.int p3), .val (.int p4), .val (.int p5), .val (.int n), .val (.int x0), .val (.int x1), .val (.int x2), .val (.int x3), .val (.long (x0.toInt64)), .second, .val (.long (x1.toInt64)), .second, .val (.long (x2.toInt64)), .second, .val (.long (x3.toInt64)), .second, .val (.ref b), .val (.ref r), .val (.int (1 : Int32))] [])) target := by
  intro target kt
  obtain ⟨cs, As, Ss, Hs⟩ := Vs
  obtain ⟨ca, Aa, Sa, Ha⟩ := Va
  show Steps p.tables e below (T0.setTop (mkF m 131 #[.val (.int p1), .val (.int p2), .val (.int p3), .val (.int p4), .val (.int p5), .val (.int n), .val (.int x0), .val (.int x1), .val (.int x2), .val (.int x3), .val (.long (x0.toInt64)), .second, .val (.long (x1.toInt64)), .second, .val (.long (x2.toInt64)), .second, .val (.long (x3.toInt64)), .second, .val (.ref b), .val (.ref r), .val (.int (1 : Int32))] [])) _
  refine XS.iload X0.here hx rfl (hb hby at_131) rfl ?_
  show Steps p.tables e below (T0.setTop (mkF m 133 #[.val (.int p1), .val (.int p2), .val (.int p3), .val (.int p4), .val (.int p5), .val (.int n), .val (.int x0), .val (.int x1), .val (.int x2), .val (.int x3), .val (.long (x0.toInt64)), .second, .val (.long (x1.toInt64)), .second, .val (.long (x2.toInt64)), .second, .val (.long (x3.toInt64)), .second, .val (.ref b), .val (.ref r), .val (.int (1 : Int32))] [(.int n)])) _
  refine XS.ifNo X0.here hx rfl (hb hby at_133) rfl ((if0 _ _).trans (tlt (hn : (0 : Int32) < n)).2.2.2) ?_
  show Steps p.tables e below (T0.setTop (mkF m 136 #[.val (.int p1), .val (.int p2), .val (.int p3), .val (.int p4), .val (.int p5), .val (.int n), .val (.int x0), .val (.int x1), .val (.int x2), .val (.int x3), .val (.long (x0.toInt64)), .second, .val (.long (x1.toInt64)), .second, .val (.long (x2.toInt64)), .second, .val (.long (x3.toInt64)), .second, .val (.ref b), .val (.ref r), .val (.int (1 : Int32))] [])) _
  refine XS.iload X0.here hx rfl (hb hby at_136) rfl ?_
  show Steps p.tables e below (T0.setTop (mkF m 138 #[.val (.int p1), .val (.int p2), .val (.int p3), .val (.int p4), .val (.int p5), .val (.int n), .val (.int x0), .val (.int x1), .val (.int x2), .val (.int x3), .val (.long (x0.toInt64)), .second, .val (.long (x1.toInt64)), .second, .val (.long (x2.toInt64)), .second, .val (.long (x3.toInt64)), .second, .val (.ref b), .val (.ref r), .val (.int (1 : Int32))] [(.int (1 : Int32))])) _
  refine XS.ifNo X0.here hx rfl (hb hby at_138) rfl ((if0 _ _).trans (feq (by decide : ¬ ((1 : Int32) = (0 : Int32)))).1) ?_
  show Steps p.tables e below (T0.setTop (mkF m 141 #[.val (.int p1), .val (.int p2), .val (.int p3), .val (.int p4), .val (.int p5), .val (.int n), .val (.int x0), .val (.int x1), .val (.int x2), .val (.int x3), .val (.long (x0.toInt64)), .second, .val (.long (x1.toInt64)), .second, .val (.long (x2.toInt64)), .second, .val (.long (x3.toInt64)), .second, .val (.ref b), .val (.ref r), .val (.int (1 : Int32))] [])) _
  refine XS.aload X0.here hx rfl (hb hby at_141) rfl rfl ?_
  show Steps p.tables e below (T0.setTop (mkF m 143 #[.val (.int p1), .val (.int p2), .val (.int p3), .val (.int p4), .val (.int p5), .val (.int n), .val (.int x0), .val (.int x1), .val (.int x2), .val (.int x3), .val (.long (x0.toInt64)), .second, .val (.long (x1.toInt64)), .second, .val (.long (x2.toInt64)), .second, .val (.long (x3.toInt64)), .second, .val (.ref b), .val (.ref r), .val (.int (1 : Int32))] [(.ref r)])) _
  refine XS.iconst X0.here hx rfl (hb hby at_143) ?_
  show Steps p.tables e below (T0.setTop (mkF m 144 #[.val (.int p1), .val (.int p2), .val (.int p3), .val (.int p4), .val (.int p5), .val (.int n), .val (.int x0), .val (.int x1), .val (.int x2), .val (.int x3), .val (.long (x0.toInt64)), .second, .val (.long (x1.toInt64)), .second, .val (.long (x2.toInt64)), .second, .val (.long (x3.toInt64)), .second, .val (.ref b), .val (.ref r), .val (.int (1 : Int32))] [(.int (0 : Int32)), (.ref r)])) _
  refine X0.laload hx (j := (0 : Int32)) (v := (.long (own_s (own_g x0 x1 x2 x3) (0 + 1)))) (by rw [e0]; exact As.1) (State.isArrayOf_alike hZ.alike As.2.1) As.2.2 (own_in (k := 0) Ss (by decide) rfl hN) (Hs 0 hN) (g := (mkF m 144 #[.val (.int p1), .val (.int p2), .val (.int p3), .val (.int p4), .val (.int p5), .val (.int n), .val (.int x0), .val (.int x1), .val (.int x2), .val (.int x3), .val (.long (x0.toInt64)), .second, .val (.long (x1.toInt64)), .second, .val (.long (x2.toInt64)), .second, .val (.long (x3.toInt64)), .second, .val (.ref b), .val (.ref r), .val (.int (1 : Int32))] [(.int (0 : Int32)), (.ref r)])) rfl rfl (hb hby at_144) _ ?_
  show Steps p.tables e below (T0.setTop (mkF m 145 #[.val (.int p1), .val (.int p2), .val (.int p3), .val (.int p4), .val (.int p5), .val (.int n), .val (.int x0), .val (.int x1), .val (.int x2), .val (.int x3), .val (.long (x0.toInt64)), .second, .val (.long (x1.toInt64)), .second, .val (.long (x2.toInt64)), .second, .val (.long (x3.toInt64)), .second, .val (.ref b), .val (.ref r), .val (.int (1 : Int32))] [(.long (own_s (own_g x0 x1 x2 x3) (0 + 1)))])) _
  refine XS.lload X0.here hx rfl (hb hby at_145) rfl ?_
  show Steps p.tables e below (T0.setTop (mkF m 147 #[.val (.int p1), .val (.int p2), .val (.int p3), .val (.int p4), .val (.int p5), .val (.int n), .val (.int x0), .val (.int x1), .val (.int x2), .val (.int x3), .val (.long (x0.toInt64)), .second, .val (.long (x1.toInt64)), .second, .val (.long (x2.toInt64)), .second, .val (.long (x3.toInt64)), .second, .val (.ref b), .val (.ref r), .val (.int (1 : Int32))] [(.long (x0.toInt64)), (.long (own_s (own_g x0 x1 x2 x3) (0 + 1)))])) _
  refine XS.lcmp X0.here hx rfl (hb hby at_147) rfl ?_
  show Steps p.tables e below (T0.setTop (mkF m 148 #[.val (.int p1), .val (.int p2), .val (.int p3), .val (.int p4), .val (.int p5), .val (.int n), .val (.int x0), .val (.int x1), .val (.int x2), .val (.int x3), .val (.long (x0.toInt64)), .second, .val (.long (x1.toInt64)), .second, .val (.long (x2.toInt64)), .second, .val (.long (x3.toInt64)), .second, .val (.ref b), .val (.ref r), .val (.int (1 : Int32))] [(.int (lcmpW (own_s (own_g x0 x1 x2 x3) (0 + 1)) (x0.toInt64)))])) _
  refine XS.ifNo X0.here hx rfl (hb hby at_148) rfl ((if0 _ _).trans (teq ((lw_eq _ _).mpr (by show (0 : Int64) + (x0.toInt64) = _; rw [Int64.zero_add]) : (lcmpW (own_s (own_g x0 x1 x2 x3) (0 + 1)) (x0.toInt64)) = (0 : Int32))).2) ?_
  show Steps p.tables e below (T0.setTop (mkF m 151 #[.val (.int p1), .val (.int p2), .val (.int p3), .val (.int p4), .val (.int p5), .val (.int n), .val (.int x0), .val (.int x1), .val (.int x2), .val (.int x3), .val (.long (x0.toInt64)), .second, .val (.long (x1.toInt64)), .second, .val (.long (x2.toInt64)), .second, .val (.long (x3.toInt64)), .second, .val (.ref b), .val (.ref r), .val (.int (1 : Int32))] [])) _
  refine XS.aload X0.here hx rfl (hb hby at_151) rfl rfl ?_
  show Steps p.tables e below (T0.setTop (mkF m 153 #[.val (.int p1), .val (.int p2), .val (.int p3), .val (.int p4), .val (.int p5), .val (.int n), .val (.int x0), .val (.int x1), .val (.int x2), .val (.int x3), .val (.long (x0.toInt64)), .second, .val (.long (x1.toInt64)), .second, .val (.long (x2.toInt64)), .second, .val (.long (x3.toInt64)), .second, .val (.ref b), .val (.ref r), .val (.int (1 : Int32))] [(.ref b)])) _
  refine XS.iconst X0.here hx rfl (hb hby at_153) ?_
  show Steps p.tables e below (T0.setTop (mkF m 154 #[.val (.int p1), .val (.int p2), .val (.int p3), .val (.int p4), .val (.int p5), .val (.int n), .val (.int x0), .val (.int x1), .val (.int x2), .val (.int x3), .val (.long (x0.toInt64)), .second, .val (.long (x1.toInt64)), .second, .val (.long (x2.toInt64)), .second, .val (.long (x3.toInt64)), .second, .val (.ref b), .val (.ref r), .val (.int (1 : Int32))] [(.int (0 : Int32)), (.ref b)])) _
  refine X0.iaload hx (j := (0 : Int32)) (v := (.int x0)) (by rw [e0]; exact Aa.1) (State.isArrayOf_alike hZ.alike Aa.2.1) Aa.2.2 (own_in (k := 0) Sa (by decide) rfl hN) (Ha 0 hN) (g := (mkF m 154 #[.val (.int p1), .val (.int p2), .val (.int p3), .val (.int p4), .val (.int p5), .val (.int n), .val (.int x0), .val (.int x1), .val (.int x2), .val (.int x3), .val (.long (x0.toInt64)), .second, .val (.long (x1.toInt64)), .second, .val (.long (x2.toInt64)), .second, .val (.long (x3.toInt64)), .second, .val (.ref b), .val (.ref r), .val (.int (1 : Int32))] [(.int (0 : Int32)), (.ref b)])) rfl rfl (hb hby at_154) _ ?_
  show Steps p.tables e below (T0.setTop (mkF m 155 #[.val (.int p1), .val (.int p2), .val (.int p3), .val (.int p4), .val (.int p5), .val (.int n), .val (.int x0), .val (.int x1), .val (.int x2), .val (.int x3), .val (.long (x0.toInt64)), .second, .val (.long (x1.toInt64)), .second, .val (.long (x2.toInt64)), .second, .val (.long (x3.toInt64)), .second, .val (.ref b), .val (.ref r), .val (.int (1 : Int32))] [(.int x0)])) _
  refine XS.iload X0.here hx rfl (hb hby at_155) rfl ?_
  show Steps p.tables e below (T0.setTop (mkF m 157 #[.val (.int p1), .val (.int p2), .val (.int p3), .val (.int p4), .val (.int p5), .val (.int n), .val (.int x0), .val (.int x1), .val (.int x2), .val (.int x3), .val (.long (x0.toInt64)), .second, .val (.long (x1.toInt64)), .second, .val (.long (x2.toInt64)), .second, .val (.long (x3.toInt64)), .second, .val (.ref b), .val (.ref r), .val (.int (1 : Int32))] [(.int x0), (.int x0)])) _
  refine XS.icmpNo X0.here hx rfl (hb hby at_157) rfl (teq (rfl : x0 = x0)).2 ?_
  show Steps p.tables e below (T0.setTop (mkF m 160 #[.val (.int p1), .val (.int p2), .val (.int p3), .val (.int p4), .val (.int p5), .val (.int n), .val (.int x0), .val (.int x1), .val (.int x2), .val (.int x3), .val (.long (x0.toInt64)), .second, .val (.long (x1.toInt64)), .second, .val (.long (x2.toInt64)), .second, .val (.long (x3.toInt64)), .second, .val (.ref b), .val (.ref r), .val (.int (1 : Int32))] [])) _
  refine XS.iconst X0.here hx rfl (hb hby at_160) ?_
  show Steps p.tables e below (T0.setTop (mkF m 161 #[.val (.int p1), .val (.int p2), .val (.int p3), .val (.int p4), .val (.int p5), .val (.int n), .val (.int x0), .val (.int x1), .val (.int x2), .val (.int x3), .val (.long (x0.toInt64)), .second, .val (.long (x1.toInt64)), .second, .val (.long (x2.toInt64)), .second, .val (.long (x3.toInt64)), .second, .val (.ref b), .val (.ref r), .val (.int (1 : Int32))] [(.int (1 : Int32))])) _
  refine XS.goto X0.here hx rfl (pc0 := 161) (pc' := 165) rfl (hb hby at_161) (by decide) (by decide) ?_
  show Steps p.tables e below (T0.setTop (mkF m 165 #[.val (.int p1), .val (.int p2), .val (.int p3), .val (.int p4), .val (.int p5), .val (.int n), .val (.int x0), .val (.int x1), .val (.int x2), .val (.int x3), .val (.long (x0.toInt64)), .second, .val (.long (x1.toInt64)), .second, .val (.long (x2.toInt64)), .second, .val (.long (x3.toInt64)), .second, .val (.ref b), .val (.ref r), .val (.int (1 : Int32))] [(.int (1 : Int32))])) _
  refine XS.istore X0.here hx rfl (hb hby at_165) rfl (l' := #[.val (.int p1), .val (.int p2), .val (.int p3), .val (.int p4), .val (.int p5), .val (.int n), .val (.int x0), .val (.int x1), .val (.int x2), .val (.int x3), .val (.long (x0.toInt64)), .second, .val (.long (x1.toInt64)), .second, .val (.long (x2.toInt64)), .second, .val (.long (x3.toInt64)), .second, .val (.ref b), .val (.ref r), .val (.int (1 : Int32))]) rfl ?_
  show Steps p.tables e below (T0.setTop (mkF m 167 #[.val (.int p1), .val (.int p2), .val (.int p3), .val (.int p4), .val (.int p5), .val (.int n), .val (.int x0), .val (.int x1), .val (.int x2), .val (.int x3), .val (.long (x0.toInt64)), .second, .val (.long (x1.toInt64)), .second, .val (.long (x2.toInt64)), .second, .val (.long (x3.toInt64)), .second, .val (.ref b), .val (.ref r), .val (.int (1 : Int32))] [])) _
  exact kt
set_option maxRecDepth 65536 in
set_option maxHeartbeats 40000000 in
theorem sg_1 {p : Program} {l : Launch} {e : Env} {R : Room} {s : State} {m : MethodId} {args : Array Value} {below : List Frame} {meth : Method} {c : Code} {T0 : State} {locs : List Loc} {cells slots : Nat} {Z : State} {a0 : Array Value} {h0 : Heap} (p1 p2 p3 p4 p5 n x0 x1 x2 x3 : Int32) (b r : Addr) (N : Nat) (X0 : Stand p l e R s m args below meth c T0 locs cells slots) (hx : p.tables.exec = Jvm.exec) (hZ : Z.Warmed39 s.vm) (hw : ∀ d ∈ tables_1, d.before a0 Z = true) (hby : c.code = code) (hown : s.vm.findClass "com/example/redoubt/redoubt/WeightSumsPinLaw" = some m.cls) (e0 : T0.heap = h0) (Vs : own_A Z h0 r .long N (fun j => .long (own_s (own_g x0 x1 x2 x3) (j + 1)))) (Va : own_A Z h0 b .int N (fun j => .int (own_g x0 x1 x2 x3 j))) (hN : 1 < N) (hn : (1 : Int32) < n) :
    ∀ target, Steps p.tables e below (T0.setTop (mkF m 207 #[.val (.int p1), .val (.int p2), .val (.int p3), .val (.int p4), .val (.int p5), .val (.int n), .val (.int x0), .val (.int x1), .val (.int x2), .val (.int x3), .val (.long (x0.toInt64)), .second, .val (.long (x1.toInt64)), .second, .val (.long (x2.toInt64)), .second, .val (.long (x3.toInt64)), .second, .val (.ref b), .val (.ref r), .val (.int (1 : Int32))] [])) target → Steps p.tables e below (T0.setTop (mkF m 167 #[.val (.int p1), .val (.int p2), .val (.int p3), .val (.int p4), .val (.int p5), .val (.int n), .val (.int x0), .val (.int x1), .val (.int x2), .val (.int x3), .val (.long (x0.toInt64)), .second, .val (.long (x1.toInt64)), .second, .val (.long (x2.toInt64)), .second, .val (.long (x3.toInt64)), .second, .val (.ref b), .val (.ref r), .val (.int (1 : Int32))] [])) target := by
  intro target kt
  obtain ⟨cs, As, Ss, Hs⟩ := Vs
  obtain ⟨ca, Aa, Sa, Ha⟩ := Va
  show Steps p.tables e below (T0.setTop (mkF m 167 #[.val (.int p1), .val (.int p2), .val (.int p3), .val (.int p4), .val (.int p5), .val (.int n), .val (.int x0), .val (.int x1), .val (.int x2), .val (.int x3), .val (.long (x0.toInt64)), .second, .val (.long (x1.toInt64)), .second, .val (.long (x2.toInt64)), .second, .val (.long (x3.toInt64)), .second, .val (.ref b), .val (.ref r), .val (.int (1 : Int32))] [])) _
  refine XS.iload X0.here hx rfl (hb hby at_167) rfl ?_
  show Steps p.tables e below (T0.setTop (mkF m 169 #[.val (.int p1), .val (.int p2), .val (.int p3), .val (.int p4), .val (.int p5), .val (.int n), .val (.int x0), .val (.int x1), .val (.int x2), .val (.int x3), .val (.long (x0.toInt64)), .second, .val (.long (x1.toInt64)), .second, .val (.long (x2.toInt64)), .second, .val (.long (x3.toInt64)), .second, .val (.ref b), .val (.ref r), .val (.int (1 : Int32))] [(.int n)])) _
  refine XS.iconst X0.here hx rfl (hb hby at_169) ?_
  show Steps p.tables e below (T0.setTop (mkF m 170 #[.val (.int p1), .val (.int p2), .val (.int p3), .val (.int p4), .val (.int p5), .val (.int n), .val (.int x0), .val (.int x1), .val (.int x2), .val (.int x3), .val (.long (x0.toInt64)), .second, .val (.long (x1.toInt64)), .second, .val (.long (x2.toInt64)), .second, .val (.long (x3.toInt64)), .second, .val (.ref b), .val (.ref r), .val (.int (1 : Int32))] [(.int (1 : Int32)), (.int n)])) _
  refine XS.icmpNo X0.here hx rfl (hb hby at_170) rfl (tlt (hn : (1 : Int32) < n)).2.2.2 ?_
  show Steps p.tables e below (T0.setTop (mkF m 173 #[.val (.int p1), .val (.int p2), .val (.int p3), .val (.int p4), .val (.int p5), .val (.int n), .val (.int x0), .val (.int x1), .val (.int x2), .val (.int x3), .val (.long (x0.toInt64)), .second, .val (.long (x1.toInt64)), .second, .val (.long (x2.toInt64)), .second, .val (.long (x3.toInt64)), .second, .val (.ref b), .val (.ref r), .val (.int (1 : Int32))] [])) _
  refine XS.iload X0.here hx rfl (hb hby at_173) rfl ?_
  show Steps p.tables e below (T0.setTop (mkF m 175 #[.val (.int p1), .val (.int p2), .val (.int p3), .val (.int p4), .val (.int p5), .val (.int n), .val (.int x0), .val (.int x1), .val (.int x2), .val (.int x3), .val (.long (x0.toInt64)), .second, .val (.long (x1.toInt64)), .second, .val (.long (x2.toInt64)), .second, .val (.long (x3.toInt64)), .second, .val (.ref b), .val (.ref r), .val (.int (1 : Int32))] [(.int (1 : Int32))])) _
  refine XS.ifNo X0.here hx rfl (hb hby at_175) rfl ((if0 _ _).trans (feq (by decide : ¬ ((1 : Int32) = (0 : Int32)))).1) ?_
  show Steps p.tables e below (T0.setTop (mkF m 178 #[.val (.int p1), .val (.int p2), .val (.int p3), .val (.int p4), .val (.int p5), .val (.int n), .val (.int x0), .val (.int x1), .val (.int x2), .val (.int x3), .val (.long (x0.toInt64)), .second, .val (.long (x1.toInt64)), .second, .val (.long (x2.toInt64)), .second, .val (.long (x3.toInt64)), .second, .val (.ref b), .val (.ref r), .val (.int (1 : Int32))] [])) _
  refine XS.aload X0.here hx rfl (hb hby at_178) rfl rfl ?_
  show Steps p.tables e below (T0.setTop (mkF m 180 #[.val (.int p1), .val (.int p2), .val (.int p3), .val (.int p4), .val (.int p5), .val (.int n), .val (.int x0), .val (.int x1), .val (.int x2), .val (.int x3), .val (.long (x0.toInt64)), .second, .val (.long (x1.toInt64)), .second, .val (.long (x2.toInt64)), .second, .val (.long (x3.toInt64)), .second, .val (.ref b), .val (.ref r), .val (.int (1 : Int32))] [(.ref r)])) _
  refine XS.iconst X0.here hx rfl (hb hby at_180) ?_
  show Steps p.tables e below (T0.setTop (mkF m 181 #[.val (.int p1), .val (.int p2), .val (.int p3), .val (.int p4), .val (.int p5), .val (.int n), .val (.int x0), .val (.int x1), .val (.int x2), .val (.int x3), .val (.long (x0.toInt64)), .second, .val (.long (x1.toInt64)), .second, .val (.long (x2.toInt64)), .second, .val (.long (x3.toInt64)), .second, .val (.ref b), .val (.ref r), .val (.int (1 : Int32))] [(.int (1 : Int32)), (.ref r)])) _
  refine X0.laload hx (j := (1 : Int32)) (v := (.long (own_s (own_g x0 x1 x2 x3) (1 + 1)))) (by rw [e0]; exact As.1) (State.isArrayOf_alike hZ.alike As.2.1) As.2.2 (own_in (k := 1) Ss (by decide) rfl hN) (Hs 1 hN) (g := (mkF m 181 #[.val (.int p1), .val (.int p2), .val (.int p3), .val (.int p4), .val (.int p5), .val (.int n), .val (.int x0), .val (.int x1), .val (.int x2), .val (.int x3), .val (.long (x0.toInt64)), .second, .val (.long (x1.toInt64)), .second, .val (.long (x2.toInt64)), .second, .val (.long (x3.toInt64)), .second, .val (.ref b), .val (.ref r), .val (.int (1 : Int32))] [(.int (1 : Int32)), (.ref r)])) rfl rfl (hb hby at_181) _ ?_
  show Steps p.tables e below (T0.setTop (mkF m 182 #[.val (.int p1), .val (.int p2), .val (.int p3), .val (.int p4), .val (.int p5), .val (.int n), .val (.int x0), .val (.int x1), .val (.int x2), .val (.int x3), .val (.long (x0.toInt64)), .second, .val (.long (x1.toInt64)), .second, .val (.long (x2.toInt64)), .second, .val (.long (x3.toInt64)), .second, .val (.ref b), .val (.ref r), .val (.int (1 : Int32))] [(.long (own_s (own_g x0 x1 x2 x3) (1 + 1)))])) _
  refine XS.lload X0.here hx rfl (hb hby at_182) rfl ?_
  show Steps p.tables e below (T0.setTop (mkF m 184 #[.val (.int p1), .val (.int p2), .val (.int p3), .val (.int p4), .val (.int p5), .val (.int n), .val (.int x0), .val (.int x1), .val (.int x2), .val (.int x3), .val (.long (x0.toInt64)), .second, .val (.long (x1.toInt64)), .second, .val (.long (x2.toInt64)), .second, .val (.long (x3.toInt64)), .second, .val (.ref b), .val (.ref r), .val (.int (1 : Int32))] [(.long (x0.toInt64)), (.long (own_s (own_g x0 x1 x2 x3) (1 + 1)))])) _
  refine XS.lload X0.here hx rfl (hb hby at_184) rfl ?_
  show Steps p.tables e below (T0.setTop (mkF m 186 #[.val (.int p1), .val (.int p2), .val (.int p3), .val (.int p4), .val (.int p5), .val (.int n), .val (.int x0), .val (.int x1), .val (.int x2), .val (.int x3), .val (.long (x0.toInt64)), .second, .val (.long (x1.toInt64)), .second, .val (.long (x2.toInt64)), .second, .val (.long (x3.toInt64)), .second, .val (.ref b), .val (.ref r), .val (.int (1 : Int32))] [(.long (x1.toInt64)), (.long (x0.toInt64)), (.long (own_s (own_g x0 x1 x2 x3) (1 + 1)))])) _
  refine XS.ladd X0.here hx rfl (hb hby at_186) rfl ?_
  show Steps p.tables e below (T0.setTop (mkF m 187 #[.val (.int p1), .val (.int p2), .val (.int p3), .val (.int p4), .val (.int p5), .val (.int n), .val (.int x0), .val (.int x1), .val (.int x2), .val (.int x3), .val (.long (x0.toInt64)), .second, .val (.long (x1.toInt64)), .second, .val (.long (x2.toInt64)), .second, .val (.long (x3.toInt64)), .second, .val (.ref b), .val (.ref r), .val (.int (1 : Int32))] [(.long ((x0.toInt64) + (x1.toInt64))), (.long (own_s (own_g x0 x1 x2 x3) (1 + 1)))])) _
  refine XS.lcmp X0.here hx rfl (hb hby at_187) rfl ?_
  show Steps p.tables e below (T0.setTop (mkF m 188 #[.val (.int p1), .val (.int p2), .val (.int p3), .val (.int p4), .val (.int p5), .val (.int n), .val (.int x0), .val (.int x1), .val (.int x2), .val (.int x3), .val (.long (x0.toInt64)), .second, .val (.long (x1.toInt64)), .second, .val (.long (x2.toInt64)), .second, .val (.long (x3.toInt64)), .second, .val (.ref b), .val (.ref r), .val (.int (1 : Int32))] [(.int (lcmpW (own_s (own_g x0 x1 x2 x3) (1 + 1)) ((x0.toInt64) + (x1.toInt64))))])) _
  refine XS.ifNo X0.here hx rfl (hb hby at_188) rfl ((if0 _ _).trans (teq ((lw_eq _ _).mpr (by show (((0 : Int64) + (x0.toInt64)) + (x1.toInt64)) = _; rw [Int64.zero_add]) : (lcmpW (own_s (own_g x0 x1 x2 x3) (1 + 1)) ((x0.toInt64) + (x1.toInt64))) = (0 : Int32))).2) ?_
  show Steps p.tables e below (T0.setTop (mkF m 191 #[.val (.int p1), .val (.int p2), .val (.int p3), .val (.int p4), .val (.int p5), .val (.int n), .val (.int x0), .val (.int x1), .val (.int x2), .val (.int x3), .val (.long (x0.toInt64)), .second, .val (.long (x1.toInt64)), .second, .val (.long (x2.toInt64)), .second, .val (.long (x3.toInt64)), .second, .val (.ref b), .val (.ref r), .val (.int (1 : Int32))] [])) _
  refine XS.aload X0.here hx rfl (hb hby at_191) rfl rfl ?_
  show Steps p.tables e below (T0.setTop (mkF m 193 #[.val (.int p1), .val (.int p2), .val (.int p3), .val (.int p4), .val (.int p5), .val (.int n), .val (.int x0), .val (.int x1), .val (.int x2), .val (.int x3), .val (.long (x0.toInt64)), .second, .val (.long (x1.toInt64)), .second, .val (.long (x2.toInt64)), .second, .val (.long (x3.toInt64)), .second, .val (.ref b), .val (.ref r), .val (.int (1 : Int32))] [(.ref b)])) _
  refine XS.iconst X0.here hx rfl (hb hby at_193) ?_
  show Steps p.tables e below (T0.setTop (mkF m 194 #[.val (.int p1), .val (.int p2), .val (.int p3), .val (.int p4), .val (.int p5), .val (.int n), .val (.int x0), .val (.int x1), .val (.int x2), .val (.int x3), .val (.long (x0.toInt64)), .second, .val (.long (x1.toInt64)), .second, .val (.long (x2.toInt64)), .second, .val (.long (x3.toInt64)), .second, .val (.ref b), .val (.ref r), .val (.int (1 : Int32))] [(.int (1 : Int32)), (.ref b)])) _
  refine X0.iaload hx (j := (1 : Int32)) (v := (.int x1)) (by rw [e0]; exact Aa.1) (State.isArrayOf_alike hZ.alike Aa.2.1) Aa.2.2 (own_in (k := 1) Sa (by decide) rfl hN) (Ha 1 hN) (g := (mkF m 194 #[.val (.int p1), .val (.int p2), .val (.int p3), .val (.int p4), .val (.int p5), .val (.int n), .val (.int x0), .val (.int x1), .val (.int x2), .val (.int x3), .val (.long (x0.toInt64)), .second, .val (.long (x1.toInt64)), .second, .val (.long (x2.toInt64)), .second, .val (.long (x3.toInt64)), .second, .val (.ref b), .val (.ref r), .val (.int (1 : Int32))] [(.int (1 : Int32)), (.ref b)])) rfl rfl (hb hby at_194) _ ?_
  show Steps p.tables e below (T0.setTop (mkF m 195 #[.val (.int p1), .val (.int p2), .val (.int p3), .val (.int p4), .val (.int p5), .val (.int n), .val (.int x0), .val (.int x1), .val (.int x2), .val (.int x3), .val (.long (x0.toInt64)), .second, .val (.long (x1.toInt64)), .second, .val (.long (x2.toInt64)), .second, .val (.long (x3.toInt64)), .second, .val (.ref b), .val (.ref r), .val (.int (1 : Int32))] [(.int x1)])) _
  refine XS.iload X0.here hx rfl (hb hby at_195) rfl ?_
  show Steps p.tables e below (T0.setTop (mkF m 197 #[.val (.int p1), .val (.int p2), .val (.int p3), .val (.int p4), .val (.int p5), .val (.int n), .val (.int x0), .val (.int x1), .val (.int x2), .val (.int x3), .val (.long (x0.toInt64)), .second, .val (.long (x1.toInt64)), .second, .val (.long (x2.toInt64)), .second, .val (.long (x3.toInt64)), .second, .val (.ref b), .val (.ref r), .val (.int (1 : Int32))] [(.int x1), (.int x1)])) _
  refine XS.icmpNo X0.here hx rfl (hb hby at_197) rfl (teq (rfl : x1 = x1)).2 ?_
  show Steps p.tables e below (T0.setTop (mkF m 200 #[.val (.int p1), .val (.int p2), .val (.int p3), .val (.int p4), .val (.int p5), .val (.int n), .val (.int x0), .val (.int x1), .val (.int x2), .val (.int x3), .val (.long (x0.toInt64)), .second, .val (.long (x1.toInt64)), .second, .val (.long (x2.toInt64)), .second, .val (.long (x3.toInt64)), .second, .val (.ref b), .val (.ref r), .val (.int (1 : Int32))] [])) _
  refine XS.iconst X0.here hx rfl (hb hby at_200) ?_
  show Steps p.tables e below (T0.setTop (mkF m 201 #[.val (.int p1), .val (.int p2), .val (.int p3), .val (.int p4), .val (.int p5), .val (.int n), .val (.int x0), .val (.int x1), .val (.int x2), .val (.int x3), .val (.long (x0.toInt64)), .second, .val (.long (x1.toInt64)), .second, .val (.long (x2.toInt64)), .second, .val (.long (x3.toInt64)), .second, .val (.ref b), .val (.ref r), .val (.int (1 : Int32))] [(.int (1 : Int32))])) _
  refine XS.goto X0.here hx rfl (pc0 := 201) (pc' := 205) rfl (hb hby at_201) (by decide) (by decide) ?_
  show Steps p.tables e below (T0.setTop (mkF m 205 #[.val (.int p1), .val (.int p2), .val (.int p3), .val (.int p4), .val (.int p5), .val (.int n), .val (.int x0), .val (.int x1), .val (.int x2), .val (.int x3), .val (.long (x0.toInt64)), .second, .val (.long (x1.toInt64)), .second, .val (.long (x2.toInt64)), .second, .val (.long (x3.toInt64)), .second, .val (.ref b), .val (.ref r), .val (.int (1 : Int32))] [(.int (1 : Int32))])) _
  refine XS.istore X0.here hx rfl (hb hby at_205) rfl (l' := #[.val (.int p1), .val (.int p2), .val (.int p3), .val (.int p4), .val (.int p5), .val (.int n), .val (.int x0), .val (.int x1), .val (.int x2), .val (.int x3), .val (.long (x0.toInt64)), .second, .val (.long (x1.toInt64)), .second, .val (.long (x2.toInt64)), .second, .val (.long (x3.toInt64)), .second, .val (.ref b), .val (.ref r), .val (.int (1 : Int32))]) rfl ?_
  show Steps p.tables e below (T0.setTop (mkF m 207 #[.val (.int p1), .val (.int p2), .val (.int p3), .val (.int p4), .val (.int p5), .val (.int n), .val (.int x0), .val (.int x1), .val (.int x2), .val (.int x3), .val (.long (x0.toInt64)), .second, .val (.long (x1.toInt64)), .second, .val (.long (x2.toInt64)), .second, .val (.long (x3.toInt64)), .second, .val (.ref b), .val (.ref r), .val (.int (1 : Int32))] [])) _
  exact kt
set_option maxRecDepth 65536 in
set_option maxHeartbeats 40000000 in
theorem sg_2 {p : Program} {l : Launch} {e : Env} {R : Room} {s : State} {m : MethodId} {args : Array Value} {below : List Frame} {meth : Method} {c : Code} {T0 : State} {locs : List Loc} {cells slots : Nat} {Z : State} {a0 : Array Value} {h0 : Heap} (p1 p2 p3 p4 p5 n x0 x1 x2 x3 : Int32) (b r : Addr) (N : Nat) (X0 : Stand p l e R s m args below meth c T0 locs cells slots) (hx : p.tables.exec = Jvm.exec) (hZ : Z.Warmed39 s.vm) (hw : ∀ d ∈ tables_1, d.before a0 Z = true) (hby : c.code = code) (hown : s.vm.findClass "com/example/redoubt/redoubt/WeightSumsPinLaw" = some m.cls) (e0 : T0.heap = h0) (Vs : own_A Z h0 r .long N (fun j => .long (own_s (own_g x0 x1 x2 x3) (j + 1)))) (Va : own_A Z h0 b .int N (fun j => .int (own_g x0 x1 x2 x3 j))) (hN : 2 < N) (hn : (2 : Int32) < n) :
    ∀ target, Steps p.tables e below (T0.setTop (mkF m 250 #[.val (.int p1), .val (.int p2), .val (.int p3), .val (.int p4), .val (.int p5), .val (.int n), .val (.int x0), .val (.int x1), .val (.int x2), .val (.int x3), .val (.long (x0.toInt64)), .second, .val (.long (x1.toInt64)), .second, .val (.long (x2.toInt64)), .second, .val (.long (x3.toInt64)), .second, .val (.ref b), .val (.ref r), .val (.int (1 : Int32))] [])) target → Steps p.tables e below (T0.setTop (mkF m 207 #[.val (.int p1), .val (.int p2), .val (.int p3), .val (.int p4), .val (.int p5), .val (.int n), .val (.int x0), .val (.int x1), .val (.int x2), .val (.int x3), .val (.long (x0.toInt64)), .second, .val (.long (x1.toInt64)), .second, .val (.long (x2.toInt64)), .second, .val (.long (x3.toInt64)), .second, .val (.ref b), .val (.ref r), .val (.int (1 : Int32))] [])) target := by
  intro target kt
  obtain ⟨cs, As, Ss, Hs⟩ := Vs
  obtain ⟨ca, Aa, Sa, Ha⟩ := Va
  show Steps p.tables e below (T0.setTop (mkF m 207 #[.val (.int p1), .val (.int p2), .val (.int p3), .val (.int p4), .val (.int p5), .val (.int n), .val (.int x0), .val (.int x1), .val (.int x2), .val (.int x3), .val (.long (x0.toInt64)), .second, .val (.long (x1.toInt64)), .second, .val (.long (x2.toInt64)), .second, .val (.long (x3.toInt64)), .second, .val (.ref b), .val (.ref r), .val (.int (1 : Int32))] [])) _
  refine XS.iload X0.here hx rfl (hb hby at_207) rfl ?_
  show Steps p.tables e below (T0.setTop (mkF m 209 #[.val (.int p1), .val (.int p2), .val (.int p3), .val (.int p4), .val (.int p5), .val (.int n), .val (.int x0), .val (.int x1), .val (.int x2), .val (.int x3), .val (.long (x0.toInt64)), .second, .val (.long (x1.toInt64)), .second, .val (.long (x2.toInt64)), .second, .val (.long (x3.toInt64)), .second, .val (.ref b), .val (.ref r), .val (.int (1 : Int32))] [(.int n)])) _
  refine XS.iconst X0.here hx rfl (hb hby at_209) ?_
  show Steps p.tables e below (T0.setTop (mkF m 210 #[.val (.int p1), .val (.int p2), .val (.int p3), .val (.int p4), .val (.int p5), .val (.int n), .val (.int x0), .val (.int x1), .val (.int x2), .val (.int x3), .val (.long (x0.toInt64)), .second, .val (.long (x1.toInt64)), .second, .val (.long (x2.toInt64)), .second, .val (.long (x3.toInt64)), .second, .val (.ref b), .val (.ref r), .val (.int (1 : Int32))] [(.int (2 : Int32)), (.int n)])) _
  refine XS.icmpNo X0.here hx rfl (hb hby at_210) rfl (tlt (hn : (2 : Int32) < n)).2.2.2 ?_
  show Steps p.tables e below (T0.setTop (mkF m 213 #[.val (.int p1), .val (.int p2), .val (.int p3), .val (.int p4), .val (.int p5), .val (.int n), .val (.int x0), .val (.int x1), .val (.int x2), .val (.int x3), .val (.long (x0.toInt64)), .second, .val (.long (x1.toInt64)), .second, .val (.long (x2.toInt64)), .second, .val (.long (x3.toInt64)), .second, .val (.ref b), .val (.ref r), .val (.int (1 : Int32))] [])) _
  refine XS.iload X0.here hx rfl (hb hby at_213) rfl ?_
  show Steps p.tables e below (T0.setTop (mkF m 215 #[.val (.int p1), .val (.int p2), .val (.int p3), .val (.int p4), .val (.int p5), .val (.int n), .val (.int x0), .val (.int x1), .val (.int x2), .val (.int x3), .val (.long (x0.toInt64)), .second, .val (.long (x1.toInt64)), .second, .val (.long (x2.toInt64)), .second, .val (.long (x3.toInt64)), .second, .val (.ref b), .val (.ref r), .val (.int (1 : Int32))] [(.int (1 : Int32))])) _
  refine XS.ifNo X0.here hx rfl (hb hby at_215) rfl ((if0 _ _).trans (feq (by decide : ¬ ((1 : Int32) = (0 : Int32)))).1) ?_
  show Steps p.tables e below (T0.setTop (mkF m 218 #[.val (.int p1), .val (.int p2), .val (.int p3), .val (.int p4), .val (.int p5), .val (.int n), .val (.int x0), .val (.int x1), .val (.int x2), .val (.int x3), .val (.long (x0.toInt64)), .second, .val (.long (x1.toInt64)), .second, .val (.long (x2.toInt64)), .second, .val (.long (x3.toInt64)), .second, .val (.ref b), .val (.ref r), .val (.int (1 : Int32))] [])) _
  refine XS.aload X0.here hx rfl (hb hby at_218) rfl rfl ?_
  show Steps p.tables e below (T0.setTop (mkF m 220 #[.val (.int p1), .val (.int p2), .val (.int p3), .val (.int p4), .val (.int p5), .val (.int n), .val (.int x0), .val (.int x1), .val (.int x2), .val (.int x3), .val (.long (x0.toInt64)), .second, .val (.long (x1.toInt64)), .second, .val (.long (x2.toInt64)), .second, .val (.long (x3.toInt64)), .second, .val (.ref b), .val (.ref r), .val (.int (1 : Int32))] [(.ref r)])) _
  refine XS.iconst X0.here hx rfl (hb hby at_220) ?_
  show Steps p.tables e below (T0.setTop (mkF m 221 #[.val (.int p1), .val (.int p2), .val (.int p3), .val (.int p4), .val (.int p5), .val (.int n), .val (.int x0), .val (.int x1), .val (.int x2), .val (.int x3), .val (.long (x0.toInt64)), .second, .val (.long (x1.toInt64)), .second, .val (.long (x2.toInt64)), .second, .val (.long (x3.toInt64)), .second, .val (.ref b), .val (.ref r), .val (.int (1 : Int32))] [(.int (2 : Int32)), (.ref r)])) _
  refine X0.laload hx (j := (2 : Int32)) (v := (.long (own_s (own_g x0 x1 x2 x3) (2 + 1)))) (by rw [e0]; exact As.1) (State.isArrayOf_alike hZ.alike As.2.1) As.2.2 (own_in (k := 2) Ss (by decide) rfl hN) (Hs 2 hN) (g := (mkF m 221 #[.val (.int p1), .val (.int p2), .val (.int p3), .val (.int p4), .val (.int p5), .val (.int n), .val (.int x0), .val (.int x1), .val (.int x2), .val (.int x3), .val (.long (x0.toInt64)), .second, .val (.long (x1.toInt64)), .second, .val (.long (x2.toInt64)), .second, .val (.long (x3.toInt64)), .second, .val (.ref b), .val (.ref r), .val (.int (1 : Int32))] [(.int (2 : Int32)), (.ref r)])) rfl rfl (hb hby at_221) _ ?_
  show Steps p.tables e below (T0.setTop (mkF m 222 #[.val (.int p1), .val (.int p2), .val (.int p3), .val (.int p4), .val (.int p5), .val (.int n), .val (.int x0), .val (.int x1), .val (.int x2), .val (.int x3), .val (.long (x0.toInt64)), .second, .val (.long (x1.toInt64)), .second, .val (.long (x2.toInt64)), .second, .val (.long (x3.toInt64)), .second, .val (.ref b), .val (.ref r), .val (.int (1 : Int32))] [(.long (own_s (own_g x0 x1 x2 x3) (2 + 1)))])) _
  refine XS.lload X0.here hx rfl (hb hby at_222) rfl ?_
  show Steps p.tables e below (T0.setTop (mkF m 224 #[.val (.int p1), .val (.int p2), .val (.int p3), .val (.int p4), .val (.int p5), .val (.int n), .val (.int x0), .val (.int x1), .val (.int x2), .val (.int x3), .val (.long (x0.toInt64)), .second, .val (.long (x1.toInt64)), .second, .val (.long (x2.toInt64)), .second, .val (.long (x3.toInt64)), .second, .val (.ref b), .val (.ref r), .val (.int (1 : Int32))] [(.long (x0.toInt64)), (.long (own_s (own_g x0 x1 x2 x3) (2 + 1)))])) _
  refine XS.lload X0.here hx rfl (hb hby at_224) rfl ?_
  show Steps p.tables e below (T0.setTop (mkF m 226 #[.val (.int p1), .val (.int p2), .val (.int p3), .val (.int p4), .val (.int p5), .val (.int n), .val (.int x0), .val (.int x1), .val (.int x2), .val (.int x3), .val (.long (x0.toInt64)), .second, .val (.long (x1.toInt64)), .second, .val (.long (x2.toInt64)), .second, .val (.long (x3.toInt64)), .second, .val (.ref b), .val (.ref r), .val (.int (1 : Int32))] [(.long (x1.toInt64)), (.long (x0.toInt64)), (.long (own_s (own_g x0 x1 x2 x3) (2 + 1)))])) _
  refine XS.ladd X0.here hx rfl (hb hby at_226) rfl ?_
  show Steps p.tables e below (T0.setTop (mkF m 227 #[.val (.int p1), .val (.int p2), .val (.int p3), .val (.int p4), .val (.int p5), .val (.int n), .val (.int x0), .val (.int x1), .val (.int x2), .val (.int x3), .val (.long (x0.toInt64)), .second, .val (.long (x1.toInt64)), .second, .val (.long (x2.toInt64)), .second, .val (.long (x3.toInt64)), .second, .val (.ref b), .val (.ref r), .val (.int (1 : Int32))] [(.long ((x0.toInt64) + (x1.toInt64))), (.long (own_s (own_g x0 x1 x2 x3) (2 + 1)))])) _
  refine XS.lload X0.here hx rfl (hb hby at_227) rfl ?_
  show Steps p.tables e below (T0.setTop (mkF m 229 #[.val (.int p1), .val (.int p2), .val (.int p3), .val (.int p4), .val (.int p5), .val (.int n), .val (.int x0), .val (.int x1), .val (.int x2), .val (.int x3), .val (.long (x0.toInt64)), .second, .val (.long (x1.toInt64)), .second, .val (.long (x2.toInt64)), .second, .val (.long (x3.toInt64)), .second, .val (.ref b), .val (.ref r), .val (.int (1 : Int32))] [(.long (x2.toInt64)), (.long ((x0.toInt64) + (x1.toInt64))), (.long (own_s (own_g x0 x1 x2 x3) (2 + 1)))])) _
  refine XS.ladd X0.here hx rfl (hb hby at_229) rfl ?_
  show Steps p.tables e below (T0.setTop (mkF m 230 #[.val (.int p1), .val (.int p2), .val (.int p3), .val (.int p4), .val (.int p5), .val (.int n), .val (.int x0), .val (.int x1), .val (.int x2), .val (.int x3), .val (.long (x0.toInt64)), .second, .val (.long (x1.toInt64)), .second, .val (.long (x2.toInt64)), .second, .val (.long (x3.toInt64)), .second, .val (.ref b), .val (.ref r), .val (.int (1 : Int32))] [(.long (((x0.toInt64) + (x1.toInt64)) + (x2.toInt64))), (.long (own_s (own_g x0 x1 x2 x3) (2 + 1)))])) _
  refine XS.lcmp X0.here hx rfl (hb hby at_230) rfl ?_
  show Steps p.tables e below (T0.setTop (mkF m 231 #[.val (.int p1), .val (.int p2), .val (.int p3), .val (.int p4), .val (.int p5), .val (.int n), .val (.int x0), .val (.int x1), .val (.int x2), .val (.int x3), .val (.long (x0.toInt64)), .second, .val (.long (x1.toInt64)), .second, .val (.long (x2.toInt64)), .second, .val (.long (x3.toInt64)), .second, .val (.ref b), .val (.ref r), .val (.int (1 : Int32))] [(.int (lcmpW (own_s (own_g x0 x1 x2 x3) (2 + 1)) (((x0.toInt64) + (x1.toInt64)) + (x2.toInt64))))])) _
  refine XS.ifNo X0.here hx rfl (hb hby at_231) rfl ((if0 _ _).trans (teq ((lw_eq _ _).mpr (by show ((((0 : Int64) + (x0.toInt64)) + (x1.toInt64)) + (x2.toInt64)) = _; rw [Int64.zero_add]) : (lcmpW (own_s (own_g x0 x1 x2 x3) (2 + 1)) (((x0.toInt64) + (x1.toInt64)) + (x2.toInt64))) = (0 : Int32))).2) ?_
  show Steps p.tables e below (T0.setTop (mkF m 234 #[.val (.int p1), .val (.int p2), .val (.int p3), .val (.int p4), .val (.int p5), .val (.int n), .val (.int x0), .val (.int x1), .val (.int x2), .val (.int x3), .val (.long (x0.toInt64)), .second, .val (.long (x1.toInt64)), .second, .val (.long (x2.toInt64)), .second, .val (.long (x3.toInt64)), .second, .val (.ref b), .val (.ref r), .val (.int (1 : Int32))] [])) _
  refine XS.aload X0.here hx rfl (hb hby at_234) rfl rfl ?_
  show Steps p.tables e below (T0.setTop (mkF m 236 #[.val (.int p1), .val (.int p2), .val (.int p3), .val (.int p4), .val (.int p5), .val (.int n), .val (.int x0), .val (.int x1), .val (.int x2), .val (.int x3), .val (.long (x0.toInt64)), .second, .val (.long (x1.toInt64)), .second, .val (.long (x2.toInt64)), .second, .val (.long (x3.toInt64)), .second, .val (.ref b), .val (.ref r), .val (.int (1 : Int32))] [(.ref b)])) _
  refine XS.iconst X0.here hx rfl (hb hby at_236) ?_
  show Steps p.tables e below (T0.setTop (mkF m 237 #[.val (.int p1), .val (.int p2), .val (.int p3), .val (.int p4), .val (.int p5), .val (.int n), .val (.int x0), .val (.int x1), .val (.int x2), .val (.int x3), .val (.long (x0.toInt64)), .second, .val (.long (x1.toInt64)), .second, .val (.long (x2.toInt64)), .second, .val (.long (x3.toInt64)), .second, .val (.ref b), .val (.ref r), .val (.int (1 : Int32))] [(.int (2 : Int32)), (.ref b)])) _
  refine X0.iaload hx (j := (2 : Int32)) (v := (.int x2)) (by rw [e0]; exact Aa.1) (State.isArrayOf_alike hZ.alike Aa.2.1) Aa.2.2 (own_in (k := 2) Sa (by decide) rfl hN) (Ha 2 hN) (g := (mkF m 237 #[.val (.int p1), .val (.int p2), .val (.int p3), .val (.int p4), .val (.int p5), .val (.int n), .val (.int x0), .val (.int x1), .val (.int x2), .val (.int x3), .val (.long (x0.toInt64)), .second, .val (.long (x1.toInt64)), .second, .val (.long (x2.toInt64)), .second, .val (.long (x3.toInt64)), .second, .val (.ref b), .val (.ref r), .val (.int (1 : Int32))] [(.int (2 : Int32)), (.ref b)])) rfl rfl (hb hby at_237) _ ?_
  show Steps p.tables e below (T0.setTop (mkF m 238 #[.val (.int p1), .val (.int p2), .val (.int p3), .val (.int p4), .val (.int p5), .val (.int n), .val (.int x0), .val (.int x1), .val (.int x2), .val (.int x3), .val (.long (x0.toInt64)), .second, .val (.long (x1.toInt64)), .second, .val (.long (x2.toInt64)), .second, .val (.long (x3.toInt64)), .second, .val (.ref b), .val (.ref r), .val (.int (1 : Int32))] [(.int x2)])) _
  refine XS.iload X0.here hx rfl (hb hby at_238) rfl ?_
  show Steps p.tables e below (T0.setTop (mkF m 240 #[.val (.int p1), .val (.int p2), .val (.int p3), .val (.int p4), .val (.int p5), .val (.int n), .val (.int x0), .val (.int x1), .val (.int x2), .val (.int x3), .val (.long (x0.toInt64)), .second, .val (.long (x1.toInt64)), .second, .val (.long (x2.toInt64)), .second, .val (.long (x3.toInt64)), .second, .val (.ref b), .val (.ref r), .val (.int (1 : Int32))] [(.int x2), (.int x2)])) _
  refine XS.icmpNo X0.here hx rfl (hb hby at_240) rfl (teq (rfl : x2 = x2)).2 ?_
  show Steps p.tables e below (T0.setTop (mkF m 243 #[.val (.int p1), .val (.int p2), .val (.int p3), .val (.int p4), .val (.int p5), .val (.int n), .val (.int x0), .val (.int x1), .val (.int x2), .val (.int x3), .val (.long (x0.toInt64)), .second, .val (.long (x1.toInt64)), .second, .val (.long (x2.toInt64)), .second, .val (.long (x3.toInt64)), .second, .val (.ref b), .val (.ref r), .val (.int (1 : Int32))] [])) _
  refine XS.iconst X0.here hx rfl (hb hby at_243) ?_
  show Steps p.tables e below (T0.setTop (mkF m 244 #[.val (.int p1), .val (.int p2), .val (.int p3), .val (.int p4), .val (.int p5), .val (.int n), .val (.int x0), .val (.int x1), .val (.int x2), .val (.int x3), .val (.long (x0.toInt64)), .second, .val (.long (x1.toInt64)), .second, .val (.long (x2.toInt64)), .second, .val (.long (x3.toInt64)), .second, .val (.ref b), .val (.ref r), .val (.int (1 : Int32))] [(.int (1 : Int32))])) _
  refine XS.goto X0.here hx rfl (pc0 := 244) (pc' := 248) rfl (hb hby at_244) (by decide) (by decide) ?_
  show Steps p.tables e below (T0.setTop (mkF m 248 #[.val (.int p1), .val (.int p2), .val (.int p3), .val (.int p4), .val (.int p5), .val (.int n), .val (.int x0), .val (.int x1), .val (.int x2), .val (.int x3), .val (.long (x0.toInt64)), .second, .val (.long (x1.toInt64)), .second, .val (.long (x2.toInt64)), .second, .val (.long (x3.toInt64)), .second, .val (.ref b), .val (.ref r), .val (.int (1 : Int32))] [(.int (1 : Int32))])) _
  refine XS.istore X0.here hx rfl (hb hby at_248) rfl (l' := #[.val (.int p1), .val (.int p2), .val (.int p3), .val (.int p4), .val (.int p5), .val (.int n), .val (.int x0), .val (.int x1), .val (.int x2), .val (.int x3), .val (.long (x0.toInt64)), .second, .val (.long (x1.toInt64)), .second, .val (.long (x2.toInt64)), .second, .val (.long (x3.toInt64)), .second, .val (.ref b), .val (.ref r), .val (.int (1 : Int32))]) rfl ?_
  show Steps p.tables e below (T0.setTop (mkF m 250 #[.val (.int p1), .val (.int p2), .val (.int p3), .val (.int p4), .val (.int p5), .val (.int n), .val (.int x0), .val (.int x1), .val (.int x2), .val (.int x3), .val (.long (x0.toInt64)), .second, .val (.long (x1.toInt64)), .second, .val (.long (x2.toInt64)), .second, .val (.long (x3.toInt64)), .second, .val (.ref b), .val (.ref r), .val (.int (1 : Int32))] [])) _
  exact kt
set_option maxRecDepth 65536 in
set_option maxHeartbeats 40000000 in
theorem sg_3 {p : Program} {l : Launch} {e : Env} {R : Room} {s : State} {m : MethodId} {args : Array Value} {below : List Frame} {meth : Method} {c : Code} {T0 : State} {locs : List Loc} {cells slots : Nat} {Z : State} {a0 : Array Value} {h0 : Heap} (p1 p2 p3 p4 p5 n x0 x1 x2 x3 : Int32) (b r : Addr) (N : Nat) (X0 : Stand p l e R s m args below meth c T0 locs cells slots) (hx : p.tables.exec = Jvm.exec) (hZ : Z.Warmed39 s.vm) (hw : ∀ d ∈ tables_1, d.before a0 Z = true) (hby : c.code = code) (hown : s.vm.findClass "com/example/redoubt/redoubt/WeightSumsPinLaw" = some m.cls) (e0 : T0.heap = h0) (Vs : own_A Z h0 r .long N (fun j => .long (own_s (own_g x0 x1 x2 x3) (j + 1)))) (Va : own_A Z h0 b .int N (fun j => .int (own_g x0 x1 x2 x3 j))) (hN : 3 < N) (hn : (3 : Int32) < n) :
    ∀ target, Steps p.tables e below (T0.setTop (mkF m 296 #[.val (.int p1), .val (.int p2), .val (.int p3), .val (.int p4), .val (.int p5), .val (.int n), .val (.int x0), .val (.int x1), .val (.int x2), .val (.int x3), .val (.long (x0.toInt64)), .second, .val (.long (x1.toInt64)), .second, .val (.long (x2.toInt64)), .second, .val (.long (x3.toInt64)), .second, .val (.ref b), .val (.ref r), .val (.int (1 : Int32))] [])) target → Steps p.tables e below (T0.setTop (mkF m 250 #[.val (.int p1), .val (.int p2), .val (.int p3), .val (.int p4), .val (.int p5), .val (.int n), .val (.int x0), .val (.int x1), .val (.int x2), .val (.int x3), .val (.long (x0.toInt64)), .second, .val (.long (x1.toInt64)), .second, .val (.long (x2.toInt64)), .second, .val (.long (x3.toInt64)), .second, .val (.ref b), .val (.ref r), .val (.int (1 : Int32))] [])) target := by
  intro target kt
  obtain ⟨cs, As, Ss, Hs⟩ := Vs
  obtain ⟨ca, Aa, Sa, Ha⟩ := Va
  show Steps p.tables e below (T0.setTop (mkF m 250 #[.val (.int p1), .val (.int p2), .val (.int p3), .val (.int p4), .val (.int p5), .val (.int n), .val (.int x0), .val (.int x1), .val (.int x2), .val (.int x3), .val (.long (x0.toInt64)), .second, .val (.long (x1.toInt64)), .second, .val (.long (x2.toInt64)), .second, .val (.long (x3.toInt64)), .second, .val (.ref b), .val (.ref r), .val (.int (1 : Int32))] [])) _
  refine XS.iload X0.here hx rfl (hb hby at_250) rfl ?_
  show Steps p.tables e below (T0.setTop (mkF m 252 #[.val (.int p1), .val (.int p2), .val (.int p3), .val (.int p4), .val (.int p5), .val (.int n), .val (.int x0), .val (.int x1), .val (.int x2), .val (.int x3), .val (.long (x0.toInt64)), .second, .val (.long (x1.toInt64)), .second, .val (.long (x2.toInt64)), .second, .val (.long (x3.toInt64)), .second, .val (.ref b), .val (.ref r), .val (.int (1 : Int32))] [(.int n)])) _
  refine XS.iconst X0.here hx rfl (hb hby at_252) ?_
  show Steps p.tables e below (T0.setTop (mkF m 253 #[.val (.int p1), .val (.int p2), .val (.int p3), .val (.int p4), .val (.int p5), .val (.int n), .val (.int x0), .val (.int x1), .val (.int x2), .val (.int x3), .val (.long (x0.toInt64)), .second, .val (.long (x1.toInt64)), .second, .val (.long (x2.toInt64)), .second, .val (.long (x3.toInt64)), .second, .val (.ref b), .val (.ref r), .val (.int (1 : Int32))] [(.int (3 : Int32)), (.int n)])) _
  refine XS.icmpNo X0.here hx rfl (hb hby at_253) rfl (tlt (hn : (3 : Int32) < n)).2.2.2 ?_
  show Steps p.tables e below (T0.setTop (mkF m 256 #[.val (.int p1), .val (.int p2), .val (.int p3), .val (.int p4), .val (.int p5), .val (.int n), .val (.int x0), .val (.int x1), .val (.int x2), .val (.int x3), .val (.long (x0.toInt64)), .second, .val (.long (x1.toInt64)), .second, .val (.long (x2.toInt64)), .second, .val (.long (x3.toInt64)), .second, .val (.ref b), .val (.ref r), .val (.int (1 : Int32))] [])) _
  refine XS.iload X0.here hx rfl (hb hby at_256) rfl ?_
  show Steps p.tables e below (T0.setTop (mkF m 258 #[.val (.int p1), .val (.int p2), .val (.int p3), .val (.int p4), .val (.int p5), .val (.int n), .val (.int x0), .val (.int x1), .val (.int x2), .val (.int x3), .val (.long (x0.toInt64)), .second, .val (.long (x1.toInt64)), .second, .val (.long (x2.toInt64)), .second, .val (.long (x3.toInt64)), .second, .val (.ref b), .val (.ref r), .val (.int (1 : Int32))] [(.int (1 : Int32))])) _
  refine XS.ifNo X0.here hx rfl (hb hby at_258) rfl ((if0 _ _).trans (feq (by decide : ¬ ((1 : Int32) = (0 : Int32)))).1) ?_
  show Steps p.tables e below (T0.setTop (mkF m 261 #[.val (.int p1), .val (.int p2), .val (.int p3), .val (.int p4), .val (.int p5), .val (.int n), .val (.int x0), .val (.int x1), .val (.int x2), .val (.int x3), .val (.long (x0.toInt64)), .second, .val (.long (x1.toInt64)), .second, .val (.long (x2.toInt64)), .second, .val (.long (x3.toInt64)), .second, .val (.ref b), .val (.ref r), .val (.int (1 : Int32))] [])) _
  refine XS.aload X0.here hx rfl (hb hby at_261) rfl rfl ?_
  show Steps p.tables e below (T0.setTop (mkF m 263 #[.val (.int p1), .val (.int p2), .val (.int p3), .val (.int p4), .val (.int p5), .val (.int n), .val (.int x0), .val (.int x1), .val (.int x2), .val (.int x3), .val (.long (x0.toInt64)), .second, .val (.long (x1.toInt64)), .second, .val (.long (x2.toInt64)), .second, .val (.long (x3.toInt64)), .second, .val (.ref b), .val (.ref r), .val (.int (1 : Int32))] [(.ref r)])) _
  refine XS.iconst X0.here hx rfl (hb hby at_263) ?_
  show Steps p.tables e below (T0.setTop (mkF m 264 #[.val (.int p1), .val (.int p2), .val (.int p3), .val (.int p4), .val (.int p5), .val (.int n), .val (.int x0), .val (.int x1), .val (.int x2), .val (.int x3), .val (.long (x0.toInt64)), .second, .val (.long (x1.toInt64)), .second, .val (.long (x2.toInt64)), .second, .val (.long (x3.toInt64)), .second, .val (.ref b), .val (.ref r), .val (.int (1 : Int32))] [(.int (3 : Int32)), (.ref r)])) _
  refine X0.laload hx (j := (3 : Int32)) (v := (.long (own_s (own_g x0 x1 x2 x3) (3 + 1)))) (by rw [e0]; exact As.1) (State.isArrayOf_alike hZ.alike As.2.1) As.2.2 (own_in (k := 3) Ss (by decide) rfl hN) (Hs 3 hN) (g := (mkF m 264 #[.val (.int p1), .val (.int p2), .val (.int p3), .val (.int p4), .val (.int p5), .val (.int n), .val (.int x0), .val (.int x1), .val (.int x2), .val (.int x3), .val (.long (x0.toInt64)), .second, .val (.long (x1.toInt64)), .second, .val (.long (x2.toInt64)), .second, .val (.long (x3.toInt64)), .second, .val (.ref b), .val (.ref r), .val (.int (1 : Int32))] [(.int (3 : Int32)), (.ref r)])) rfl rfl (hb hby at_264) _ ?_
  show Steps p.tables e below (T0.setTop (mkF m 265 #[.val (.int p1), .val (.int p2), .val (.int p3), .val (.int p4), .val (.int p5), .val (.int n), .val (.int x0), .val (.int x1), .val (.int x2), .val (.int x3), .val (.long (x0.toInt64)), .second, .val (.long (x1.toInt64)), .second, .val (.long (x2.toInt64)), .second, .val (.long (x3.toInt64)), .second, .val (.ref b), .val (.ref r), .val (.int (1 : Int32))] [(.long (own_s (own_g x0 x1 x2 x3) (3 + 1)))])) _
  refine XS.lload X0.here hx rfl (hb hby at_265) rfl ?_
  show Steps p.tables e below (T0.setTop (mkF m 267 #[.val (.int p1), .val (.int p2), .val (.int p3), .val (.int p4), .val (.int p5), .val (.int n), .val (.int x0), .val (.int x1), .val (.int x2), .val (.int x3), .val (.long (x0.toInt64)), .second, .val (.long (x1.toInt64)), .second, .val (.long (x2.toInt64)), .second, .val (.long (x3.toInt64)), .second, .val (.ref b), .val (.ref r), .val (.int (1 : Int32))] [(.long (x0.toInt64)), (.long (own_s (own_g x0 x1 x2 x3) (3 + 1)))])) _
  refine XS.lload X0.here hx rfl (hb hby at_267) rfl ?_
  show Steps p.tables e below (T0.setTop (mkF m 269 #[.val (.int p1), .val (.int p2), .val (.int p3), .val (.int p4), .val (.int p5), .val (.int n), .val (.int x0), .val (.int x1), .val (.int x2), .val (.int x3), .val (.long (x0.toInt64)), .second, .val (.long (x1.toInt64)), .second, .val (.long (x2.toInt64)), .second, .val (.long (x3.toInt64)), .second, .val (.ref b), .val (.ref r), .val (.int (1 : Int32))] [(.long (x1.toInt64)), (.long (x0.toInt64)), (.long (own_s (own_g x0 x1 x2 x3) (3 + 1)))])) _
  refine XS.ladd X0.here hx rfl (hb hby at_269) rfl ?_
  show Steps p.tables e below (T0.setTop (mkF m 270 #[.val (.int p1), .val (.int p2), .val (.int p3), .val (.int p4), .val (.int p5), .val (.int n), .val (.int x0), .val (.int x1), .val (.int x2), .val (.int x3), .val (.long (x0.toInt64)), .second, .val (.long (x1.toInt64)), .second, .val (.long (x2.toInt64)), .second, .val (.long (x3.toInt64)), .second, .val (.ref b), .val (.ref r), .val (.int (1 : Int32))] [(.long ((x0.toInt64) + (x1.toInt64))), (.long (own_s (own_g x0 x1 x2 x3) (3 + 1)))])) _
  refine XS.lload X0.here hx rfl (hb hby at_270) rfl ?_
  show Steps p.tables e below (T0.setTop (mkF m 272 #[.val (.int p1), .val (.int p2), .val (.int p3), .val (.int p4), .val (.int p5), .val (.int n), .val (.int x0), .val (.int x1), .val (.int x2), .val (.int x3), .val (.long (x0.toInt64)), .second, .val (.long (x1.toInt64)), .second, .val (.long (x2.toInt64)), .second, .val (.long (x3.toInt64)), .second, .val (.ref b), .val (.ref r), .val (.int (1 : Int32))] [(.long (x2.toInt64)), (.long ((x0.toInt64) + (x1.toInt64))), (.long (own_s (own_g x0 x1 x2 x3) (3 + 1)))])) _
  refine XS.ladd X0.here hx rfl (hb hby at_272) rfl ?_
  show Steps p.tables e below (T0.setTop (mkF m 273 #[.val (.int p1), .val (.int p2), .val (.int p3), .val (.int p4), .val (.int p5), .val (.int n), .val (.int x0), .val (.int x1), .val (.int x2), .val (.int x3), .val (.long (x0.toInt64)), .second, .val (.long (x1.toInt64)), .second, .val (.long (x2.toInt64)), .second, .val (.long (x3.toInt64)), .second, .val (.ref b), .val (.ref r), .val (.int (1 : Int32))] [(.long (((x0.toInt64) + (x1.toInt64)) + (x2.toInt64))), (.long (own_s (own_g x0 x1 x2 x3) (3 + 1)))])) _
  refine XS.lload X0.here hx rfl (hb hby at_273) rfl ?_
  show Steps p.tables e below (T0.setTop (mkF m 275 #[.val (.int p1), .val (.int p2), .val (.int p3), .val (.int p4), .val (.int p5), .val (.int n), .val (.int x0), .val (.int x1), .val (.int x2), .val (.int x3), .val (.long (x0.toInt64)), .second, .val (.long (x1.toInt64)), .second, .val (.long (x2.toInt64)), .second, .val (.long (x3.toInt64)), .second, .val (.ref b), .val (.ref r), .val (.int (1 : Int32))] [(.long (x3.toInt64)), (.long (((x0.toInt64) + (x1.toInt64)) + (x2.toInt64))), (.long (own_s (own_g x0 x1 x2 x3) (3 + 1)))])) _
  refine XS.ladd X0.here hx rfl (hb hby at_275) rfl ?_
  show Steps p.tables e below (T0.setTop (mkF m 276 #[.val (.int p1), .val (.int p2), .val (.int p3), .val (.int p4), .val (.int p5), .val (.int n), .val (.int x0), .val (.int x1), .val (.int x2), .val (.int x3), .val (.long (x0.toInt64)), .second, .val (.long (x1.toInt64)), .second, .val (.long (x2.toInt64)), .second, .val (.long (x3.toInt64)), .second, .val (.ref b), .val (.ref r), .val (.int (1 : Int32))] [(.long ((((x0.toInt64) + (x1.toInt64)) + (x2.toInt64)) + (x3.toInt64))), (.long (own_s (own_g x0 x1 x2 x3) (3 + 1)))])) _
  refine XS.lcmp X0.here hx rfl (hb hby at_276) rfl ?_
  show Steps p.tables e below (T0.setTop (mkF m 277 #[.val (.int p1), .val (.int p2), .val (.int p3), .val (.int p4), .val (.int p5), .val (.int n), .val (.int x0), .val (.int x1), .val (.int x2), .val (.int x3), .val (.long (x0.toInt64)), .second, .val (.long (x1.toInt64)), .second, .val (.long (x2.toInt64)), .second, .val (.long (x3.toInt64)), .second, .val (.ref b), .val (.ref r), .val (.int (1 : Int32))] [(.int (lcmpW (own_s (own_g x0 x1 x2 x3) (3 + 1)) ((((x0.toInt64) + (x1.toInt64)) + (x2.toInt64)) + (x3.toInt64))))])) _
  refine XS.ifNo X0.here hx rfl (hb hby at_277) rfl ((if0 _ _).trans (teq ((lw_eq _ _).mpr (by show (((((0 : Int64) + (x0.toInt64)) + (x1.toInt64)) + (x2.toInt64)) + (x3.toInt64)) = _; rw [Int64.zero_add]) : (lcmpW (own_s (own_g x0 x1 x2 x3) (3 + 1)) ((((x0.toInt64) + (x1.toInt64)) + (x2.toInt64)) + (x3.toInt64))) = (0 : Int32))).2) ?_
  show Steps p.tables e below (T0.setTop (mkF m 280 #[.val (.int p1), .val (.int p2), .val (.int p3), .val (.int p4), .val (.int p5), .val (.int n), .val (.int x0), .val (.int x1), .val (.int x2), .val (.int x3), .val (.long (x0.toInt64)), .second, .val (.long (x1.toInt64)), .second, .val (.long (x2.toInt64)), .second, .val (.long (x3.toInt64)), .second, .val (.ref b), .val (.ref r), .val (.int (1 : Int32))] [])) _
  refine XS.aload X0.here hx rfl (hb hby at_280) rfl rfl ?_
  show Steps p.tables e below (T0.setTop (mkF m 282 #[.val (.int p1), .val (.int p2), .val (.int p3), .val (.int p4), .val (.int p5), .val (.int n), .val (.int x0), .val (.int x1), .val (.int x2), .val (.int x3), .val (.long (x0.toInt64)), .second, .val (.long (x1.toInt64)), .second, .val (.long (x2.toInt64)), .second, .val (.long (x3.toInt64)), .second, .val (.ref b), .val (.ref r), .val (.int (1 : Int32))] [(.ref b)])) _
  refine XS.iconst X0.here hx rfl (hb hby at_282) ?_
  show Steps p.tables e below (T0.setTop (mkF m 283 #[.val (.int p1), .val (.int p2), .val (.int p3), .val (.int p4), .val (.int p5), .val (.int n), .val (.int x0), .val (.int x1), .val (.int x2), .val (.int x3), .val (.long (x0.toInt64)), .second, .val (.long (x1.toInt64)), .second, .val (.long (x2.toInt64)), .second, .val (.long (x3.toInt64)), .second, .val (.ref b), .val (.ref r), .val (.int (1 : Int32))] [(.int (3 : Int32)), (.ref b)])) _
  refine X0.iaload hx (j := (3 : Int32)) (v := (.int x3)) (by rw [e0]; exact Aa.1) (State.isArrayOf_alike hZ.alike Aa.2.1) Aa.2.2 (own_in (k := 3) Sa (by decide) rfl hN) (Ha 3 hN) (g := (mkF m 283 #[.val (.int p1), .val (.int p2), .val (.int p3), .val (.int p4), .val (.int p5), .val (.int n), .val (.int x0), .val (.int x1), .val (.int x2), .val (.int x3), .val (.long (x0.toInt64)), .second, .val (.long (x1.toInt64)), .second, .val (.long (x2.toInt64)), .second, .val (.long (x3.toInt64)), .second, .val (.ref b), .val (.ref r), .val (.int (1 : Int32))] [(.int (3 : Int32)), (.ref b)])) rfl rfl (hb hby at_283) _ ?_
  show Steps p.tables e below (T0.setTop (mkF m 284 #[.val (.int p1), .val (.int p2), .val (.int p3), .val (.int p4), .val (.int p5), .val (.int n), .val (.int x0), .val (.int x1), .val (.int x2), .val (.int x3), .val (.long (x0.toInt64)), .second, .val (.long (x1.toInt64)), .second, .val (.long (x2.toInt64)), .second, .val (.long (x3.toInt64)), .second, .val (.ref b), .val (.ref r), .val (.int (1 : Int32))] [(.int x3)])) _
  refine XS.iload X0.here hx rfl (hb hby at_284) rfl ?_
  show Steps p.tables e below (T0.setTop (mkF m 286 #[.val (.int p1), .val (.int p2), .val (.int p3), .val (.int p4), .val (.int p5), .val (.int n), .val (.int x0), .val (.int x1), .val (.int x2), .val (.int x3), .val (.long (x0.toInt64)), .second, .val (.long (x1.toInt64)), .second, .val (.long (x2.toInt64)), .second, .val (.long (x3.toInt64)), .second, .val (.ref b), .val (.ref r), .val (.int (1 : Int32))] [(.int x3), (.int x3)])) _
  refine XS.icmpNo X0.here hx rfl (hb hby at_286) rfl (teq (rfl : x3 = x3)).2 ?_
  show Steps p.tables e below (T0.setTop (mkF m 289 #[.val (.int p1), .val (.int p2), .val (.int p3), .val (.int p4), .val (.int p5), .val (.int n), .val (.int x0), .val (.int x1), .val (.int x2), .val (.int x3), .val (.long (x0.toInt64)), .second, .val (.long (x1.toInt64)), .second, .val (.long (x2.toInt64)), .second, .val (.long (x3.toInt64)), .second, .val (.ref b), .val (.ref r), .val (.int (1 : Int32))] [])) _
  refine XS.iconst X0.here hx rfl (hb hby at_289) ?_
  show Steps p.tables e below (T0.setTop (mkF m 290 #[.val (.int p1), .val (.int p2), .val (.int p3), .val (.int p4), .val (.int p5), .val (.int n), .val (.int x0), .val (.int x1), .val (.int x2), .val (.int x3), .val (.long (x0.toInt64)), .second, .val (.long (x1.toInt64)), .second, .val (.long (x2.toInt64)), .second, .val (.long (x3.toInt64)), .second, .val (.ref b), .val (.ref r), .val (.int (1 : Int32))] [(.int (1 : Int32))])) _
  refine XS.goto X0.here hx rfl (pc0 := 290) (pc' := 294) rfl (hb hby at_290) (by decide) (by decide) ?_
  show Steps p.tables e below (T0.setTop (mkF m 294 #[.val (.int p1), .val (.int p2), .val (.int p3), .val (.int p4), .val (.int p5), .val (.int n), .val (.int x0), .val (.int x1), .val (.int x2), .val (.int x3), .val (.long (x0.toInt64)), .second, .val (.long (x1.toInt64)), .second, .val (.long (x2.toInt64)), .second, .val (.long (x3.toInt64)), .second, .val (.ref b), .val (.ref r), .val (.int (1 : Int32))] [(.int (1 : Int32))])) _
  refine XS.istore X0.here hx rfl (hb hby at_294) rfl (l' := #[.val (.int p1), .val (.int p2), .val (.int p3), .val (.int p4), .val (.int p5), .val (.int n), .val (.int x0), .val (.int x1), .val (.int x2), .val (.int x3), .val (.long (x0.toInt64)), .second, .val (.long (x1.toInt64)), .second, .val (.long (x2.toInt64)), .second, .val (.long (x3.toInt64)), .second, .val (.ref b), .val (.ref r), .val (.int (1 : Int32))]) rfl ?_
  show Steps p.tables e below (T0.setTop (mkF m 296 #[.val (.int p1), .val (.int p2), .val (.int p3), .val (.int p4), .val (.int p5), .val (.int n), .val (.int x0), .val (.int x1), .val (.int x2), .val (.int x3), .val (.long (x0.toInt64)), .second, .val (.long (x1.toInt64)), .second, .val (.long (x2.toInt64)), .second, .val (.long (x3.toInt64)), .second, .val (.ref b), .val (.ref r), .val (.int (1 : Int32))] [])) _
  exact kt
theorem ef_0 (m : MethodId) (x0 : Int32) (x1 : Int32) (x2 : Int32) (x3 : Int32) (x4 : Int32) : entryFrame m #[(.int x0), (.int x1), (.int x2), (.int x3), (.int x4)] maxLocals = mkF m 0 #[.val (.int x0), .val (.int x1), .val (.int x2), .val (.int x3), .val (.int x4), .unset, .unset, .unset, .unset, .unset, .unset, .unset, .unset, .unset, .unset, .unset, .unset, .unset, .unset, .unset, .unset] [] := by first | (simp [entryFrame, mkF, argsToLocals, Value.category, maxLocals]; done) | rfl
theorem pn_0 : plainName "com/example/redoubt/redoubt/WeightSumsPinLaw" = true := by first | (simp [plainName, overriddenIn]; done) | decide +kernel
def Q0 (Z : State) (p1 : Int32) (p2 : Int32) (p3 : Int32) (p4 : Int32) (p5 : Int32) (h0 : Heap) (n0 : Nat) (rv : Option Value) (h : Heap) (Lq : List Loc) : Prop := rv = some (.int (1 : Int32)) ∧ Fr n0 Lq
set_option maxRecDepth 65536 in
set_option maxHeartbeats 40000000 in
theorem rm0 (l : Launch) (Z : State) (a0 : Array Value) (hw : ∀ d ∈ tables_1, d.before a0 Z = true) (ws : List Jvm.Cond) (p1 : Int32) (p2 : Int32) (p3 : Int32) (p4 : Int32) (p5 : Int32) (h0 : Heap) (n0 : Nat) (Z0 : n0 ≤ h0.size) :
    MetFree l x (head1 (Jvm.Cond.code x code maxLocals ret :: ws) room_1) (fun xx U => xx = #[(.int p1), (.int p2), (.int p3), (.int p4), (.int p5)] ∧ Z.Warmed39 U.vm ∧ U.heap = h0) (fun _ _ _ _ _ => True) (fun _ U o U' => ∃ rv Lq, o = .returned rv ∧ Q0 Z p1 p2 p3 p4 p5 h0 n0 rv U'.heap Lq ∧ FrameEnd U o U' Lq room_1.cells room_1.slots) := by
  refine MetFree.of_bodySF (plainFor_of_name pn_0) hisR ?_
  intro p e s m args below meth c s₁ Bd hml0 hP hK
  obtain ⟨rfl, hZ, hh⟩ := hP
  have hx := Bd.exec
  have hby := Bd.bytes
  have hml : c.maxLocals = 21 := hml0
  have hown : s.vm.findClass "com/example/redoubt/redoubt/WeightSumsPinLaw" = some m.cls := findClass_of_methodNamed Bd.named
  have hnm := (name_of_methodNamed Bd.named Bd.method).1
  have X0 : Stand p l e room_1 s m #[(.int p1), (.int p2), (.int p3), (.int p4), (.int p5)] below meth c s₁ [] 0 0 := Stand.of_body Bd
  have e0 : s₁.heap = h0 := by rw [← hh, Bd.state]; rfl
  have N0 := Fr.nil n0
  have pre0 : ∀ t, Steps p.tables e below (s₁.setTop (mkF m 0 #[.val (.int p1), .val (.int p2), .val (.int p3), .val (.int p4), .val (.int p5), .unset, .unset, .unset, .unset, .unset, .unset, .unset, .unset, .unset, .unset, .unset, .unset, .unset, .unset, .unset, .unset] [])) t → Steps p.tables e below (s₁.setTop (entryFrame m #[(.int p1), (.int p2), (.int p3), (.int p4), (.int p5)] maxLocals)) t := fun t k => castTop (ef_0 m p1 p2 p3 p4 p5) k
  obtain ⟨N, hN, hn⟩ := own_nx p1
  have sg0 : ∀ target, Steps p.tables e below (s₁.setTop (mkF m 53 #[.val (.int p1), .val (.int p2), .val (.int p3), .val (.int p4), .val (.int p5), .val (.int (own_n p1)), .val (.int (own_x p2)), .val (.int (own_x p3)), .val (.int (own_x p4)), .val (.int (own_x p5)), .val (.long ((own_x p2).toInt64)), .second, .val (.long ((own_x p3).toInt64)), .second, .val (.long ((own_x p4).toInt64)), .second, .val (.long ((own_x p5).toInt64)), .second, .unset, .unset, .unset] [])) target → Steps p.tables e below (s₁.setTop (mkF m 0 #[.val (.int p1), .val (.int p2), .val (.int p3), .val (.int p4), .val (.int p5), .unset, .unset, .unset, .unset, .unset, .unset, .unset, .unset, .unset, .unset, .unset, .unset, .unset, .unset, .unset, .unset] [])) target := by
    intro target kt
    show Steps p.tables e below (s₁.setTop (mkF m 0 #[.val (.int p1), .val (.int p2), .val (.int p3), .val (.int p4), .val (.int p5), .unset, .unset, .unset, .unset, .unset, .unset, .unset, .unset, .unset, .unset, .unset, .unset, .unset, .unset, .unset, .unset] [])) _
    refine XS.iloadN X0.here hx rfl (hb hby at_0) rfl ?_
    show Steps p.tables e below (s₁.setTop (mkF m 1 #[.val (.int p1), .val (.int p2), .val (.int p3), .val (.int p4), .val (.int p5), .unset, .unset, .unset, .unset, .unset, .unset, .unset, .unset, .unset, .unset, .unset, .unset, .unset, .unset, .unset, .unset] [(.int p1)])) _
    refine X0.ldcInt hx hown (mvT hZ (hw _ (List.mem_of_getElem? (i := 0) rfl))) (g := (mkF m 1 #[.val (.int p1), .val (.int p2), .val (.int p3), .val (.int p4), .val (.int p5), .unset, .unset, .unset, .unset, .unset, .unset, .unset, .unset, .unset, .unset, .unset, .unset, .unset, .unset, .unset, .unset] [(.int p1)])) rfl (hb hby at_1) _ ?_
    show Steps p.tables e below (s₁.setTop (mkF m 3 #[.val (.int p1), .val (.int p2), .val (.int p3), .val (.int p4), .val (.int p5), .unset, .unset, .unset, .unset, .unset, .unset, .unset, .unset, .unset, .unset, .unset, .unset, .unset, .unset, .unset, .unset] [(.int (2147483647 : Int32)), (.int p1)])) _
    refine XS.iand X0.here hx rfl (hb hby at_3) rfl ?_
    show Steps p.tables e below (s₁.setTop (mkF m 4 #[.val (.int p1), .val (.int p2), .val (.int p3), .val (.int p4), .val (.int p5), .unset, .unset, .unset, .unset, .unset, .unset, .unset, .unset, .unset, .unset, .unset, .unset, .unset, .unset, .unset, .unset] [(.int (p1 &&& (2147483647 : Int32)))])) _
    refine XS.iconst X0.here hx rfl (hb hby at_4) ?_
    show Steps p.tables e below (s₁.setTop (mkF m 5 #[.val (.int p1), .val (.int p2), .val (.int p3), .val (.int p4), .val (.int p5), .unset, .unset, .unset, .unset, .unset, .unset, .unset, .unset, .unset, .unset, .unset, .unset, .unset, .unset, .unset, .unset] [(.int (5 : Int32)), (.int (p1 &&& (2147483647 : Int32)))])) _
    refine iremM (g := (mkF m 5 #[.val (.int p1), .val (.int p2), .val (.int p3), .val (.int p4), .val (.int p5), .unset, .unset, .unset, .unset, .unset, .unset, .unset, .unset, .unset, .unset, .unset, .unset, .unset, .unset, .unset, .unset] [(.int (5 : Int32)), (.int (p1 &&& (2147483647 : Int32)))])) X0 hx rfl (hb hby at_5) rfl (by decide) ?_
    show Steps p.tables e below (s₁.setTop (mkF m 6 #[.val (.int p1), .val (.int p2), .val (.int p3), .val (.int p4), .val (.int p5), .unset, .unset, .unset, .unset, .unset, .unset, .unset, .unset, .unset, .unset, .unset, .unset, .unset, .unset, .unset, .unset] [(.int ((p1 &&& (2147483647 : Int32)) % (5 : Int32)))])) _
    show Steps p.tables e below (s₁.setTop (mkF m 6 #[.val (.int p1), .val (.int p2), .val (.int p3), .val (.int p4), .val (.int p5), .unset, .unset, .unset, .unset, .unset, .unset, .unset, .unset, .unset, .unset, .unset, .unset, .unset, .unset, .unset, .unset] [(.int (own_n p1))])) _
    refine XS.istore X0.here hx rfl (hb hby at_6) rfl (l' := #[.val (.int p1), .val (.int p2), .val (.int p3), .val (.int p4), .val (.int p5), .val (.int (own_n p1)), .unset, .unset, .unset, .unset, .unset, .unset, .unset, .unset, .unset, .unset, .unset, .unset, .unset, .unset, .unset]) rfl ?_
    show Steps p.tables e below (s₁.setTop (mkF m 8 #[.val (.int p1), .val (.int p2), .val (.int p3), .val (.int p4), .val (.int p5), .val (.int (own_n p1)), .unset, .unset, .unset, .unset, .unset, .unset, .unset, .unset, .unset, .unset, .unset, .unset, .unset, .unset, .unset] [])) _
    refine XS.iloadN X0.here hx rfl (hb hby at_8) rfl ?_
    show Steps p.tables e below (s₁.setTop (mkF m 9 #[.val (.int p1), .val (.int p2), .val (.int p3), .val (.int p4), .val (.int p5), .val (.int (own_n p1)), .unset, .unset, .unset, .unset, .unset, .unset, .unset, .unset, .unset, .unset, .unset, .unset, .unset, .unset, .unset] [(.int p2)])) _
    refine X0.ldcInt hx hown (mvT hZ (hw _ (List.mem_of_getElem? (i := 0) rfl))) (g := (mkF m 9 #[.val (.int p1), .val (.int p2), .val (.int p3), .val (.int p4), .val (.int p5), .val (.int (own_n p1)), .unset, .unset, .unset, .unset, .unset, .unset, .unset, .unset, .unset, .unset, .unset, .unset, .unset, .unset, .unset] [(.int p2)])) rfl (hb hby at_9) _ ?_
    show Steps p.tables e below (s₁.setTop (mkF m 11 #[.val (.int p1), .val (.int p2), .val (.int p3), .val (.int p4), .val (.int p5), .val (.int (own_n p1)), .unset, .unset, .unset, .unset, .unset, .unset, .unset, .unset, .unset, .unset, .unset, .unset, .unset, .unset, .unset] [(.int (2147483647 : Int32)), (.int p2)])) _
    refine XS.iand X0.here hx rfl (hb hby at_11) rfl ?_
    show Steps p.tables e below (s₁.setTop (mkF m 12 #[.val (.int p1), .val (.int p2), .val (.int p3), .val (.int p4), .val (.int p5), .val (.int (own_n p1)), .unset, .unset, .unset, .unset, .unset, .unset, .unset, .unset, .unset, .unset, .unset, .unset, .unset, .unset, .unset] [(.int (p2 &&& (2147483647 : Int32)))])) _
    show Steps p.tables e below (s₁.setTop (mkF m 12 #[.val (.int p1), .val (.int p2), .val (.int p3), .val (.int p4), .val (.int p5), .val (.int (own_n p1)), .unset, .unset, .unset, .unset, .unset, .unset, .unset, .unset, .unset, .unset, .unset, .unset, .unset, .unset, .unset] [(.int (own_x p2))])) _
    refine XS.istore X0.here hx rfl (hb hby at_12) rfl (l' := #[.val (.int p1), .val (.int p2), .val (.int p3), .val (.int p4), .val (.int p5), .val (.int (own_n p1)), .val (.int (own_x p2)), .unset, .unset, .unset, .unset, .unset, .unset, .unset, .unset, .unset, .unset, .unset, .unset, .unset, .unset]) rfl ?_
    show Steps p.tables e below (s₁.setTop (mkF m 14 #[.val (.int p1), .val (.int p2), .val (.int p3), .val (.int p4), .val (.int p5), .val (.int (own_n p1)), .val (.int (own_x p2)), .unset, .unset, .unset, .unset, .unset, .unset, .unset, .unset, .unset, .unset, .unset, .unset, .unset, .unset] [])) _
    refine XS.iloadN X0.here hx rfl (hb hby at_14) rfl ?_
    show Steps p.tables e below (s₁.setTop (mkF m 15 #[.val (.int p1), .val (.int p2), .val (.int p3), .val (.int p4), .val (.int p5), .val (.int (own_n p1)), .val (.int (own_x p2)), .unset, .unset, .unset, .unset, .unset, .unset, .unset, .unset, .unset, .unset, .unset, .unset, .unset, .unset] [(.int p3)])) _
    refine X0.ldcInt hx hown (mvT hZ (hw _ (List.mem_of_getElem? (i := 0) rfl))) (g := (mkF m 15 #[.val (.int p1), .val (.int p2), .val (.int p3), .val (.int p4), .val (.int p5), .val (.int (own_n p1)), .val (.int (own_x p2)), .unset, .unset, .unset, .unset, .unset, .unset, .unset, .unset, .unset, .unset, .unset, .unset, .unset, .unset] [(.int p3)])) rfl (hb hby at_15) _ ?_
    show Steps p.tables e below (s₁.setTop (mkF m 17 #[.val (.int p1), .val (.int p2), .val (.int p3), .val (.int p4), .val (.int p5), .val (.int (own_n p1)), .val (.int (own_x p2)), .unset, .unset, .unset, .unset, .unset, .unset, .unset, .unset, .unset, .unset, .unset, .unset, .unset, .unset] [(.int (2147483647 : Int32)), (.int p3)])) _
    refine XS.iand X0.here hx rfl (hb hby at_17) rfl ?_
    show Steps p.tables e below (s₁.setTop (mkF m 18 #[.val (.int p1), .val (.int p2), .val (.int p3), .val (.int p4), .val (.int p5), .val (.int (own_n p1)), .val (.int (own_x p2)), .unset, .unset, .unset, .unset, .unset, .unset, .unset, .unset, .unset, .unset, .unset, .unset, .unset, .unset] [(.int (p3 &&& (2147483647 : Int32)))])) _
    show Steps p.tables e below (s₁.setTop (mkF m 18 #[.val (.int p1), .val (.int p2), .val (.int p3), .val (.int p4), .val (.int p5), .val (.int (own_n p1)), .val (.int (own_x p2)), .unset, .unset, .unset, .unset, .unset, .unset, .unset, .unset, .unset, .unset, .unset, .unset, .unset, .unset] [(.int (own_x p3))])) _
    refine XS.istore X0.here hx rfl (hb hby at_18) rfl (l' := #[.val (.int p1), .val (.int p2), .val (.int p3), .val (.int p4), .val (.int p5), .val (.int (own_n p1)), .val (.int (own_x p2)), .val (.int (own_x p3)), .unset, .unset, .unset, .unset, .unset, .unset, .unset, .unset, .unset, .unset, .unset, .unset, .unset]) rfl ?_
    show Steps p.tables e below (s₁.setTop (mkF m 20 #[.val (.int p1), .val (.int p2), .val (.int p3), .val (.int p4), .val (.int p5), .val (.int (own_n p1)), .val (.int (own_x p2)), .val (.int (own_x p3)), .unset, .unset, .unset, .unset, .unset, .unset, .unset, .unset, .unset, .unset, .unset, .unset, .unset] [])) _
    refine XS.iloadN X0.here hx rfl (hb hby at_20) rfl ?_
    show Steps p.tables e below (s₁.setTop (mkF m 21 #[.val (.int p1), .val (.int p2), .val (.int p3), .val (.int p4), .val (.int p5), .val (.int (own_n p1)), .val (.int (own_x p2)), .val (.int (own_x p3)), .unset, .unset, .unset, .unset, .unset, .unset, .unset, .unset, .unset, .unset, .unset, .unset, .unset] [(.int p4)])) _
    refine X0.ldcInt hx hown (mvT hZ (hw _ (List.mem_of_getElem? (i := 0) rfl))) (g := (mkF m 21 #[.val (.int p1), .val (.int p2), .val (.int p3), .val (.int p4), .val (.int p5), .val (.int (own_n p1)), .val (.int (own_x p2)), .val (.int (own_x p3)), .unset, .unset, .unset, .unset, .unset, .unset, .unset, .unset, .unset, .unset, .unset, .unset, .unset] [(.int p4)])) rfl (hb hby at_21) _ ?_
    show Steps p.tables e below (s₁.setTop (mkF m 23 #[.val (.int p1), .val (.int p2), .val (.int p3), .val (.int p4), .val (.int p5), .val (.int (own_n p1)), .val (.int (own_x p2)), .val (.int (own_x p3)), .unset, .unset, .unset, .unset, .unset, .unset, .unset, .unset, .unset, .unset, .unset, .unset, .unset] [(.int (2147483647 : Int32)), (.int p4)])) _
    refine XS.iand X0.here hx rfl (hb hby at_23) rfl ?_
    show Steps p.tables e below (s₁.setTop (mkF m 24 #[.val (.int p1), .val (.int p2), .val (.int p3), .val (.int p4), .val (.int p5), .val (.int (own_n p1)), .val (.int (own_x p2)), .val (.int (own_x p3)), .unset, .unset, .unset, .unset, .unset, .unset, .unset, .unset, .unset, .unset, .unset, .unset, .unset] [(.int (p4 &&& (2147483647 : Int32)))])) _
    show Steps p.tables e below (s₁.setTop (mkF m 24 #[.val (.int p1), .val (.int p2), .val (.int p3), .val (.int p4), .val (.int p5), .val (.int (own_n p1)), .val (.int (own_x p2)), .val (.int (own_x p3)), .unset, .unset, .unset, .unset, .unset, .unset, .unset, .unset, .unset, .unset, .unset, .unset, .unset] [(.int (own_x p4))])) _
    refine XS.istore X0.here hx rfl (hb hby at_24) rfl (l' := #[.val (.int p1), .val (.int p2), .val (.int p3), .val (.int p4), .val (.int p5), .val (.int (own_n p1)), .val (.int (own_x p2)), .val (.int (own_x p3)), .val (.int (own_x p4)), .unset, .unset, .unset, .unset, .unset, .unset, .unset, .unset, .unset, .unset, .unset, .unset]) rfl ?_
    show Steps p.tables e below (s₁.setTop (mkF m 26 #[.val (.int p1), .val (.int p2), .val (.int p3), .val (.int p4), .val (.int p5), .val (.int (own_n p1)), .val (.int (own_x p2)), .val (.int (own_x p3)), .val (.int (own_x p4)), .unset, .unset, .unset, .unset, .unset, .unset, .unset, .unset, .unset, .unset, .unset, .unset] [])) _
    refine XS.iload X0.here hx rfl (hb hby at_26) rfl ?_
    show Steps p.tables e below (s₁.setTop (mkF m 28 #[.val (.int p1), .val (.int p2), .val (.int p3), .val (.int p4), .val (.int p5), .val (.int (own_n p1)), .val (.int (own_x p2)), .val (.int (own_x p3)), .val (.int (own_x p4)), .unset, .unset, .unset, .unset, .unset, .unset, .unset, .unset, .unset, .unset, .unset, .unset] [(.int p5)])) _
    refine X0.ldcInt hx hown (mvT hZ (hw _ (List.mem_of_getElem? (i := 0) rfl))) (g := (mkF m 28 #[.val (.int p1), .val (.int p2), .val (.int p3), .val (.int p4), .val (.int p5), .val (.int (own_n p1)), .val (.int (own_x p2)), .val (.int (own_x p3)), .val (.int (own_x p4)), .unset, .unset, .unset, .unset, .unset, .unset, .unset, .unset, .unset, .unset, .unset, .unset] [(.int p5)])) rfl (hb hby at_28) _ ?_
    show Steps p.tables e below (s₁.setTop (mkF m 30 #[.val (.int p1), .val (.int p2), .val (.int p3), .val (.int p4), .val (.int p5), .val (.int (own_n p1)), .val (.int (own_x p2)), .val (.int (own_x p3)), .val (.int (own_x p4)), .unset, .unset, .unset, .unset, .unset, .unset, .unset, .unset, .unset, .unset, .unset, .unset] [(.int (2147483647 : Int32)), (.int p5)])) _
    refine XS.iand X0.here hx rfl (hb hby at_30) rfl ?_
    show Steps p.tables e below (s₁.setTop (mkF m 31 #[.val (.int p1), .val (.int p2), .val (.int p3), .val (.int p4), .val (.int p5), .val (.int (own_n p1)), .val (.int (own_x p2)), .val (.int (own_x p3)), .val (.int (own_x p4)), .unset, .unset, .unset, .unset, .unset, .unset, .unset, .unset, .unset, .unset, .unset, .unset] [(.int (p5 &&& (2147483647 : Int32)))])) _
    show Steps p.tables e below (s₁.setTop (mkF m 31 #[.val (.int p1), .val (.int p2), .val (.int p3), .val (.int p4), .val (.int p5), .val (.int (own_n p1)), .val (.int (own_x p2)), .val (.int (own_x p3)), .val (.int (own_x p4)), .unset, .unset, .unset, .unset, .unset, .unset, .unset, .unset, .unset, .unset, .unset, .unset] [(.int (own_x p5))])) _
    refine XS.istore X0.here hx rfl (hb hby at_31) rfl (l' := #[.val (.int p1), .val (.int p2), .val (.int p3), .val (.int p4), .val (.int p5), .val (.int (own_n p1)), .val (.int (own_x p2)), .val (.int (own_x p3)), .val (.int (own_x p4)), .val (.int (own_x p5)), .unset, .unset, .unset, .unset, .unset, .unset, .unset, .unset, .unset, .unset, .unset]) rfl ?_
    show Steps p.tables e below (s₁.setTop (mkF m 33 #[.val (.int p1), .val (.int p2), .val (.int p3), .val (.int p4), .val (.int p5), .val (.int (own_n p1)), .val (.int (own_x p2)), .val (.int (own_x p3)), .val (.int (own_x p4)), .val (.int (own_x p5)), .unset, .unset, .unset, .unset, .unset, .unset, .unset, .unset, .unset, .unset, .unset] [])) _
    refine XS.iload X0.here hx rfl (hb hby at_33) rfl ?_
    show Steps p.tables e below (s₁.setTop (mkF m 35 #[.val (.int p1), .val (.int p2), .val (.int p3), .val (.int p4), .val (.int p5), .val (.int (own_n p1)), .val (.int (own_x p2)), .val (.int (own_x p3)), .val (.int (own_x p4)), .val (.int (own_x p5)), .unset, .unset, .unset, .unset, .unset, .unset, .unset, .unset, .unset, .unset, .unset] [(.int (own_x p2))])) _
    refine XS.i2l X0.here hx rfl (hb hby at_35) rfl ?_
    show Steps p.tables e below (s₁.setTop (mkF m 36 #[.val (.int p1), .val (.int p2), .val (.int p3), .val (.int p4), .val (.int p5), .val (.int (own_n p1)), .val (.int (own_x p2)), .val (.int (own_x p3)), .val (.int (own_x p4)), .val (.int (own_x p5)), .unset, .unset, .unset, .unset, .unset, .unset, .unset, .unset, .unset, .unset, .unset] [(.long ((own_x p2).toInt64))])) _
    refine XS.lstore X0.here hx rfl (hb hby at_36) rfl (l' := #[.val (.int p1), .val (.int p2), .val (.int p3), .val (.int p4), .val (.int p5), .val (.int (own_n p1)), .val (.int (own_x p2)), .val (.int (own_x p3)), .val (.int (own_x p4)), .val (.int (own_x p5)), .val (.long ((own_x p2).toInt64)), .second, .unset, .unset, .unset, .unset, .unset, .unset, .unset, .unset, .unset]) rfl ?_
    show Steps p.tables e below (s₁.setTop (mkF m 38 #[.val (.int p1), .val (.int p2), .val (.int p3), .val (.int p4), .val (.int p5), .val (.int (own_n p1)), .val (.int (own_x p2)), .val (.int (own_x p3)), .val (.int (own_x p4)), .val (.int (own_x p5)), .val (.long ((own_x p2).toInt64)), .second, .unset, .unset, .unset, .unset, .unset, .unset, .unset, .unset, .unset] [])) _
    refine XS.iload X0.here hx rfl (hb hby at_38) rfl ?_
    show Steps p.tables e below (s₁.setTop (mkF m 40 #[.val (.int p1), .val (.int p2), .val (.int p3), .val (.int p4), .val (.int p5), .val (.int (own_n p1)), .val (.int (own_x p2)), .val (.int (own_x p3)), .val (.int (own_x p4)), .val (.int (own_x p5)), .val (.long ((own_x p2).toInt64)), .second, .unset, .unset, .unset, .unset, .unset, .unset, .unset, .unset, .unset] [(.int (own_x p3))])) _
    refine XS.i2l X0.here hx rfl (hb hby at_40) rfl ?_
    show Steps p.tables e below (s₁.setTop (mkF m 41 #[.val (.int p1), .val (.int p2), .val (.int p3), .val (.int p4), .val (.int p5), .val (.int (own_n p1)), .val (.int (own_x p2)), .val (.int (own_x p3)), .val (.int (own_x p4)), .val (.int (own_x p5)), .val (.long ((own_x p2).toInt64)), .second, .unset, .unset, .unset, .unset, .unset, .unset, .unset, .unset, .unset] [(.long ((own_x p3).toInt64))])) _
    refine XS.lstore X0.here hx rfl (hb hby at_41) rfl (l' := #[.val (.int p1), .val (.int p2), .val (.int p3), .val (.int p4), .val (.int p5), .val (.int (own_n p1)), .val (.int (own_x p2)), .val (.int (own_x p3)), .val (.int (own_x p4)), .val (.int (own_x p5)), .val (.long ((own_x p2).toInt64)), .second, .val (.long ((own_x p3).toInt64)), .second, .unset, .unset, .unset, .unset, .unset, .unset, .unset]) rfl ?_
    show Steps p.tables e below (s₁.setTop (mkF m 43 #[.val (.int p1), .val (.int p2), .val (.int p3), .val (.int p4), .val (.int p5), .val (.int (own_n p1)), .val (.int (own_x p2)), .val (.int (own_x p3)), .val (.int (own_x p4)), .val (.int (own_x p5)), .val (.long ((own_x p2).toInt64)), .second, .val (.long ((own_x p3).toInt64)), .second, .unset, .unset, .unset, .unset, .unset, .unset, .unset] [])) _
    refine XS.iload X0.here hx rfl (hb hby at_43) rfl ?_
    show Steps p.tables e below (s₁.setTop (mkF m 45 #[.val (.int p1), .val (.int p2), .val (.int p3), .val (.int p4), .val (.int p5), .val (.int (own_n p1)), .val (.int (own_x p2)), .val (.int (own_x p3)), .val (.int (own_x p4)), .val (.int (own_x p5)), .val (.long ((own_x p2).toInt64)), .second, .val (.long ((own_x p3).toInt64)), .second, .unset, .unset, .unset, .unset, .unset, .unset, .unset] [(.int (own_x p4))])) _
    refine XS.i2l X0.here hx rfl (hb hby at_45) rfl ?_
    show Steps p.tables e below (s₁.setTop (mkF m 46 #[.val (.int p1), .val (.int p2), .val (.int p3), .val (.int p4), .val (.int p5), .val (.int (own_n p1)), .val (.int (own_x p2)), .val (.int (own_x p3)), .val (.int (own_x p4)), .val (.int (own_x p5)), .val (.long ((own_x p2).toInt64)), .second, .val (.long ((own_x p3).toInt64)), .second, .unset, .unset, .unset, .unset, .unset, .unset, .unset] [(.long ((own_x p4).toInt64))])) _
    refine XS.lstore X0.here hx rfl (hb hby at_46) rfl (l' := #[.val (.int p1), .val (.int p2), .val (.int p3), .val (.int p4), .val (.int p5), .val (.int (own_n p1)), .val (.int (own_x p2)), .val (.int (own_x p3)), .val (.int (own_x p4)), .val (.int (own_x p5)), .val (.long ((own_x p2).toInt64)), .second, .val (.long ((own_x p3).toInt64)), .second, .val (.long ((own_x p4).toInt64)), .second, .unset, .unset, .unset, .unset, .unset]) rfl ?_
    show Steps p.tables e below (s₁.setTop (mkF m 48 #[.val (.int p1), .val (.int p2), .val (.int p3), .val (.int p4), .val (.int p5), .val (.int (own_n p1)), .val (.int (own_x p2)), .val (.int (own_x p3)), .val (.int (own_x p4)), .val (.int (own_x p5)), .val (.long ((own_x p2).toInt64)), .second, .val (.long ((own_x p3).toInt64)), .second, .val (.long ((own_x p4).toInt64)), .second, .unset, .unset, .unset, .unset, .unset] [])) _
    refine XS.iload X0.here hx rfl (hb hby at_48) rfl ?_
    show Steps p.tables e below (s₁.setTop (mkF m 50 #[.val (.int p1), .val (.int p2), .val (.int p3), .val (.int p4), .val (.int p5), .val (.int (own_n p1)), .val (.int (own_x p2)), .val (.int (own_x p3)), .val (.int (own_x p4)), .val (.int (own_x p5)), .val (.long ((own_x p2).toInt64)), .second, .val (.long ((own_x p3).toInt64)), .second, .val (.long ((own_x p4).toInt64)), .second, .unset, .unset, .unset, .unset, .unset] [(.int (own_x p5))])) _
    refine XS.i2l X0.here hx rfl (hb hby at_50) rfl ?_
    show Steps p.tables e below (s₁.setTop (mkF m 51 #[.val (.int p1), .val (.int p2), .val (.int p3), .val (.int p4), .val (.int p5), .val (.int (own_n p1)), .val (.int (own_x p2)), .val (.int (own_x p3)), .val (.int (own_x p4)), .val (.int (own_x p5)), .val (.long ((own_x p2).toInt64)), .second, .val (.long ((own_x p3).toInt64)), .second, .val (.long ((own_x p4).toInt64)), .second, .unset, .unset, .unset, .unset, .unset] [(.long ((own_x p5).toInt64))])) _
    refine XS.lstore X0.here hx rfl (hb hby at_51) rfl (l' := #[.val (.int p1), .val (.int p2), .val (.int p3), .val (.int p4), .val (.int p5), .val (.int (own_n p1)), .val (.int (own_x p2)), .val (.int (own_x p3)), .val (.int (own_x p4)), .val (.int (own_x p5)), .val (.long ((own_x p2).toInt64)), .second, .val (.long ((own_x p3).toInt64)), .second, .val (.long ((own_x p4).toInt64)), .second, .val (.long ((own_x p5).toInt64)), .second, .unset, .unset, .unset]) rfl ?_
    show Steps p.tables e below (s₁.setTop (mkF m 53 #[.val (.int p1), .val (.int p2), .val (.int p3), .val (.int p4), .val (.int p5), .val (.int (own_n p1)), .val (.int (own_x p2)), .val (.int (own_x p3)), .val (.int (own_x p4)), .val (.int (own_x p5)), .val (.long ((own_x p2).toInt64)), .second, .val (.long ((own_x p3).toInt64)), .second, .val (.long ((own_x p4).toInt64)), .second, .val (.long ((own_x p5).toInt64)), .second, .unset, .unset, .unset] [])) _
    exact kt
  generalize own_x p2 = x0 at sg0
  generalize own_x p3 = x1 at sg0
  generalize own_x p4 = x2 at sg0
  generalize own_x p5 = x3 at sg0
  rw [hn] at sg0
  have hN5 : N = 0 ∨ N = 1 ∨ N = 2 ∨ N = 3 ∨ N = 4 := by omega
  rcases hN5 with rfl | rfl | rfl | rfl | rfl
  · obtain ⟨T1, h1, k1, X1, e1, E1, A1, st1⟩ := newP X0 hx hZ (hw _ (List.mem_of_getElem? (i := 1) rfl)) e0 (g := (mkF m 55 #[.val (.int p1), .val (.int p2), .val (.int p3), .val (.int p4), .val (.int p5), .val (.int (0 : Int32)), .val (.int x0), .val (.int x1), .val (.int x2), .val (.int x3), .val (.long (x0.toInt64)), .second, .val (.long (x1.toInt64)), .second, .val (.long (x2.toInt64)), .second, .val (.long (x3.toInt64)), .second, .unset, .unset, .unset] [(.int (0 : Int32))])) rfl (hb hby at_55) rfl (by decide) (cap := 0) (by decide) (by decide) (by decide) (by decide)
    obtain ⟨b, g1⟩ : ∃ z, z = h0.size := ⟨_, rfl⟩
    have g_b : n0 ≤ b := Nat.le_trans Z0 (Nat.le_of_eq g1.symm)
    rw [← g1] at A1 st1
    have V1 := own_A.new (n := 0) A1 (by decide)
    have VF : own_A Z h1 b .int 0 (fun j => .int (own_g x0 x1 x2 x3 j)) := V1.alike (fun j hj => by
      exact absurd hj (by omega))
    obtain ⟨_, _, ⟨T2, L2, k2, n2⟩, -, X2, ⟨Lc2, hQ2, l2, y2, z2⟩, st2⟩ := Jvm.LawKit.callS X1 hx (y := (⟨"com/example/redoubt/redoubt/Weight", "sums", "([I)[J"⟩ : MethodName)) hown (mvT hZ (hw _ (List.mem_of_getElem? (i := 2) rfl))) (mvT hZ (hw _ (List.mem_of_getElem? (i := 3) rfl))) (mvT hZ (hw _ (List.mem_of_getElem? (i := 4) rfl))) (mvT hZ (hw _ (List.mem_of_getElem? (i := 5) rfl))) (by decide) (backOf (W := 0) (rm1 l Z a0 hw [] b 0 (own_g x0 x1 x2 x3) h1 n0 (Nat.le_trans Z0 E1.1) (by decide) VF) hZ (hw _ (List.mem_of_getElem? (i := 5) rfl)) (hw _ (List.mem_of_getElem? (i := 4) rfl)) (by decide) (by decide)) (g := (mkF m 108 #[.val (.int p1), .val (.int p2), .val (.int p3), .val (.int p4), .val (.int p5), .val (.int (0 : Int32)), .val (.int x0), .val (.int x1), .val (.int x2), .val (.int x3), .val (.long (x0.toInt64)), .second, .val (.long (x1.toInt64)), .second, .val (.long (x2.toInt64)), .second, .val (.long (x3.toInt64)), .second, .val (.ref b), .unset, .unset] [(.ref b)])) rfl (by rw [hml]; rfl) (argsL := [(.ref b)]) (rest := []) (lenOf pdx_0 rfl) rfl (by show 2 * 0 + _ ≤ _; exact Nat.le_of_eq rfl) (hb hby at_108) (fun _ _ => ⟨rfl, e1, (by decide : 1 + 1 ≤ _), (by decide : 0 + 4 ≤ _)⟩)
    dsimp only [Pt.U, Pt.locs, Pt.cells, Pt.slots] at X2 l2 y2 z2 st2 hQ2
    subst l2 y2 z2
    obtain ⟨rfl, N2q, K2, x2v⟩ := hQ2
    have N2 := Fr.app N0 N2q
    obtain ⟨r, gr⟩ : ∃ z, z = h1.size := ⟨_, rfl⟩
    rw [← gr] at x2v st2
    have c2_V_b := VF.keep K2 nin0
    obtain ⟨cr, Arr_, Szr, Hsr⟩ := id x2v
    obtain ⟨fs, hr, hrun, hended, hW, hsame⟩ := X2.leave (v := some (.int (1 : Int32))) (fun h => by rw [Bd.returns] at h; cases h)
    refine ⟨_, _, pre0 _ ?_, hrun, hended, _, _, rfl, ?_, ⟨_, rfl⟩, hW, hsame.mono (by decide) (by decide)⟩
    · show Steps p.tables e below (s₁.setTop (mkF m 0 #[.val (.int p1), .val (.int p2), .val (.int p3), .val (.int p4), .val (.int p5), .unset, .unset, .unset, .unset, .unset, .unset, .unset, .unset, .unset, .unset, .unset, .unset, .unset, .unset, .unset, .unset] [])) _
      refine sg0 _ ?_
      show Steps p.tables e below (s₁.setTop (mkF m 53 #[.val (.int p1), .val (.int p2), .val (.int p3), .val (.int p4), .val (.int p5), .val (.int (0 : Int32)), .val (.int x0), .val (.int x1), .val (.int x2), .val (.int x3), .val (.long (x0.toInt64)), .second, .val (.long (x1.toInt64)), .second, .val (.long (x2.toInt64)), .second, .val (.long (x3.toInt64)), .second, .unset, .unset, .unset] [])) _
      refine XS.iload X0.here hx rfl (hb hby at_53) rfl ?_
      show Steps p.tables e below (s₁.setTop (mkF m 55 #[.val (.int p1), .val (.int p2), .val (.int p3), .val (.int p4), .val (.int p5), .val (.int (0 : Int32)), .val (.int x0), .val (.int x1), .val (.int x2), .val (.int x3), .val (.long (x0.toInt64)), .second, .val (.long (x1.toInt64)), .second, .val (.long (x2.toInt64)), .second, .val (.long (x3.toInt64)), .second, .unset, .unset, .unset] [(.int (0 : Int32))])) _
      refine st1 _ ?_
      show Steps p.tables e below (T1.setTop (mkF m 57 #[.val (.int p1), .val (.int p2), .val (.int p3), .val (.int p4), .val (.int p5), .val (.int (0 : Int32)), .val (.int x0), .val (.int x1), .val (.int x2), .val (.int x3), .val (.long (x0.toInt64)), .second, .val (.long (x1.toInt64)), .second, .val (.long (x2.toInt64)), .second, .val (.long (x3.toInt64)), .second, .unset, .unset, .unset] [(.ref b)])) _
      refine XS.astore X1.here hx rfl (hb hby at_57) rfl rfl (l' := #[.val (.int p1), .val (.int p2), .val (.int p3), .val (.int p4), .val (.int p5), .val (.int (0 : Int32)), .val (.int x0), .val (.int x1), .val (.int x2), .val (.int x3), .val (.long (x0.toInt64)), .second, .val (.long (x1.toInt64)), .second, .val (.long (x2.toInt64)), .second, .val (.long (x3.toInt64)), .second, .val (.ref b), .unset, .unset]) rfl ?_
      show Steps p.tables e below (T1.setTop (mkF m 59 #[.val (.int p1), .val (.int p2), .val (.int p3), .val (.int p4), .val (.int p5), .val (.int (0 : Int32)), .val (.int x0), .val (.int x1), .val (.int x2), .val (.int x3), .val (.long (x0.toInt64)), .second, .val (.long (x1.toInt64)), .second, .val (.long (x2.toInt64)), .second, .val (.long (x3.toInt64)), .second, .val (.ref b), .unset, .unset] [])) _
      refine XS.iload X1.here hx rfl (hb hby at_59) rfl ?_
      show Steps p.tables e below (T1.setTop (mkF m 61 #[.val (.int p1), .val (.int p2), .val (.int p3), .val (.int p4), .val (.int p5), .val (.int (0 : Int32)), .val (.int x0), .val (.int x1), .val (.int x2), .val (.int x3), .val (.long (x0.toInt64)), .second, .val (.long (x1.toInt64)), .second, .val (.long (x2.toInt64)), .second, .val (.long (x3.toInt64)), .second, .val (.ref b), .unset, .unset] [(.int (0 : Int32))])) _
      refine XS.ifYes X1.here hx rfl (pc0 := 61) (pc' := 70) rfl (hb hby at_61) rfl ((if0 _ _).trans (flt (by decide : ¬ ((0 : Int32) < (0 : Int32)))).2.2.2) (by decide) (by decide) ?_
      show Steps p.tables e below (T1.setTop (mkF m 70 #[.val (.int p1), .val (.int p2), .val (.int p3), .val (.int p4), .val (.int p5), .val (.int (0 : Int32)), .val (.int x0), .val (.int x1), .val (.int x2), .val (.int x3), .val (.long (x0.toInt64)), .second, .val (.long (x1.toInt64)), .second, .val (.long (x2.toInt64)), .second, .val (.long (x3.toInt64)), .second, .val (.ref b), .unset, .unset] [])) _
      refine XS.iload X1.here hx rfl (hb hby at_70) rfl ?_
      show Steps p.tables e below (T1.setTop (mkF m 72 #[.val (.int p1), .val (.int p2), .val (.int p3), .val (.int p4), .val (.int p5), .val (.int (0 : Int32)), .val (.int x0), .val (.int x1), .val (.int x2), .val (.int x3), .val (.long (x0.toInt64)), .second, .val (.long (x1.toInt64)), .second, .val (.long (x2.toInt64)), .second, .val (.long (x3.toInt64)), .second, .val (.ref b), .unset, .unset] [(.int (0 : Int32))])) _
      refine XS.iconst X1.here hx rfl (hb hby at_72) ?_
      show Steps p.tables e below (T1.setTop (mkF m 73 #[.val (.int p1), .val (.int p2), .val (.int p3), .val (.int p4), .val (.int p5), .val (.int (0 : Int32)), .val (.int x0), .val (.int x1), .val (.int x2), .val (.int x3), .val (.long (x0.toInt64)), .second, .val (.long (x1.toInt64)), .second, .val (.long (x2.toInt64)), .second, .val (.long (x3.toInt64)), .second, .val (.ref b), .unset, .unset] [(.int (1 : Int32)), (.int (0 : Int32))])) _
      refine XS.icmpYes X1.here hx rfl (pc0 := 73) (pc' := 82) rfl (hb hby at_73) rfl (flt (by decide : ¬ ((1 : Int32) < (0 : Int32)))).2.2.2 (by decide) (by decide) ?_
      show Steps p.tables e below (T1.setTop (mkF m 82 #[.val (.int p1), .val (.int p2), .val (.int p3), .val (.int p4), .val (.int p5), .val (.int (0 : Int32)), .val (.int x0), .val (.int x1), .val (.int x2), .val (.int x3), .val (.long (x0.toInt64)), .second, .val (.long (x1.toInt64)), .second, .val (.long (x2.toInt64)), .second, .val (.long (x3.toInt64)), .second, .val (.ref b), .unset, .unset] [])) _
      refine XS.iload X1.here hx rfl (hb hby at_82) rfl ?_
      show Steps p.tables e below (T1.setTop (mkF m 84 #[.val (.int p1), .val (.int p2), .val (.int p3), .val (.int p4), .val (.int p5), .val (.int (0 : Int32)), .val (.int x0), .val (.int x1), .val (.int x2), .val (.int x3), .val (.long (x0.toInt64)), .second, .val (.long (x1.toInt64)), .second, .val (.long (x2.toInt64)), .second, .val (.long (x3.toInt64)), .second, .val (.ref b), .unset, .unset] [(.int (0 : Int32))])) _
      refine XS.iconst X1.here hx rfl (hb hby at_84) ?_
      show Steps p.tables e below (T1.setTop (mkF m 85 #[.val (.int p1), .val (.int p2), .val (.int p3), .val (.int p4), .val (.int p5), .val (.int (0 : Int32)), .val (.int x0), .val (.int x1), .val (.int x2), .val (.int x3), .val (.long (x0.toInt64)), .second, .val (.long (x1.toInt64)), .second, .val (.long (x2.toInt64)), .second, .val (.long (x3.toInt64)), .second, .val (.ref b), .unset, .unset] [(.int (2 : Int32)), (.int (0 : Int32))])) _
      refine XS.icmpYes X1.here hx rfl (pc0 := 85) (pc' := 94) rfl (hb hby at_85) rfl (flt (by decide : ¬ ((2 : Int32) < (0 : Int32)))).2.2.2 (by decide) (by decide) ?_
      show Steps p.tables e below (T1.setTop (mkF m 94 #[.val (.int p1), .val (.int p2), .val (.int p3), .val (.int p4), .val (.int p5), .val (.int (0 : Int32)), .val (.int x0), .val (.int x1), .val (.int x2), .val (.int x3), .val (.long (x0.toInt64)), .second, .val (.long (x1.toInt64)), .second, .val (.long (x2.toInt64)), .second, .val (.long (x3.toInt64)), .second, .val (.ref b), .unset, .unset] [])) _
      refine XS.iload X1.here hx rfl (hb hby at_94) rfl ?_
      show Steps p.tables e below (T1.setTop (mkF m 96 #[.val (.int p1), .val (.int p2), .val (.int p3), .val (.int p4), .val (.int p5), .val (.int (0 : Int32)), .val (.int x0), .val (.int x1), .val (.int x2), .val (.int x3), .val (.long (x0.toInt64)), .second, .val (.long (x1.toInt64)), .second, .val (.long (x2.toInt64)), .second, .val (.long (x3.toInt64)), .second, .val (.ref b), .unset, .unset] [(.int (0 : Int32))])) _
      refine XS.iconst X1.here hx rfl (hb hby at_96) ?_
      show Steps p.tables e below (T1.setTop (mkF m 97 #[.val (.int p1), .val (.int p2), .val (.int p3), .val (.int p4), .val (.int p5), .val (.int (0 : Int32)), .val (.int x0), .val (.int x1), .val (.int x2), .val (.int x3), .val (.long (x0.toInt64)), .second, .val (.long (x1.toInt64)), .second, .val (.long (x2.toInt64)), .second, .val (.long (x3.toInt64)), .second, .val (.ref b), .unset, .unset] [(.int (3 : Int32)), (.int (0 : Int32))])) _
      refine XS.icmpYes X1.here hx rfl (pc0 := 97) (pc' := 106) rfl (hb hby at_97) rfl (flt (by decide : ¬ ((3 : Int32) < (0 : Int32)))).2.2.2 (by decide) (by decide) ?_
      show Steps p.tables e below (T1.setTop (mkF m 106 #[.val (.int p1), .val (.int p2), .val (.int p3), .val (.int p4), .val (.int p5), .val (.int (0 : Int32)), .val (.int x0), .val (.int x1), .val (.int x2), .val (.int x3), .val (.long (x0.toInt64)), .second, .val (.long (x1.toInt64)), .second, .val (.long (x2.toInt64)), .second, .val (.long (x3.toInt64)), .second, .val (.ref b), .unset, .unset] [])) _
      refine XS.aload X1.here hx rfl (hb hby at_106) rfl rfl ?_
      show Steps p.tables e below (T1.setTop (mkF m 108 #[.val (.int p1), .val (.int p2), .val (.int p3), .val (.int p4), .val (.int p5), .val (.int (0 : Int32)), .val (.int x0), .val (.int x1), .val (.int x2), .val (.int x3), .val (.long (x0.toInt64)), .second, .val (.long (x1.toInt64)), .second, .val (.long (x2.toInt64)), .second, .val (.long (x3.toInt64)), .second, .val (.ref b), .unset, .unset] [(.ref b)])) _
      refine st2 _ ?_
      show Steps p.tables e below (T2.setTop (mkF m 111 #[.val (.int p1), .val (.int p2), .val (.int p3), .val (.int p4), .val (.int p5), .val (.int (0 : Int32)), .val (.int x0), .val (.int x1), .val (.int x2), .val (.int x3), .val (.long (x0.toInt64)), .second, .val (.long (x1.toInt64)), .second, .val (.long (x2.toInt64)), .second, .val (.long (x3.toInt64)), .second, .val (.ref b), .unset, .unset] [(.ref r)])) _
      refine XS.astore X2.here hx rfl (hb hby at_111) rfl rfl (l' := #[.val (.int p1), .val (.int p2), .val (.int p3), .val (.int p4), .val (.int p5), .val (.int (0 : Int32)), .val (.int x0), .val (.int x1), .val (.int x2), .val (.int x3), .val (.long (x0.toInt64)), .second, .val (.long (x1.toInt64)), .second, .val (.long (x2.toInt64)), .second, .val (.long (x3.toInt64)), .second, .val (.ref b), .val (.ref r), .unset]) rfl ?_
      show Steps p.tables e below (T2.setTop (mkF m 113 #[.val (.int p1), .val (.int p2), .val (.int p3), .val (.int p4), .val (.int p5), .val (.int (0 : Int32)), .val (.int x0), .val (.int x1), .val (.int x2), .val (.int x3), .val (.long (x0.toInt64)), .second, .val (.long (x1.toInt64)), .second, .val (.long (x2.toInt64)), .second, .val (.long (x3.toInt64)), .second, .val (.ref b), .val (.ref r), .unset] [])) _
      refine XS.aload X2.here hx rfl (hb hby at_113) rfl rfl ?_
      show Steps p.tables e below (T2.setTop (mkF m 115 #[.val (.int p1), .val (.int p2), .val (.int p3), .val (.int p4), .val (.int p5), .val (.int (0 : Int32)), .val (.int x0), .val (.int x1), .val (.int x2), .val (.int x3), .val (.long (x0.toInt64)), .second, .val (.long (x1.toInt64)), .second, .val (.long (x2.toInt64)), .second, .val (.long (x3.toInt64)), .second, .val (.ref b), .val (.ref r), .unset] [(.ref r)])) _
      refine XS.ifnullNo X2.here hx rfl (hb hby at_115) rfl ?_
      show Steps p.tables e below (T2.setTop (mkF m 118 #[.val (.int p1), .val (.int p2), .val (.int p3), .val (.int p4), .val (.int p5), .val (.int (0 : Int32)), .val (.int x0), .val (.int x1), .val (.int x2), .val (.int x3), .val (.long (x0.toInt64)), .second, .val (.long (x1.toInt64)), .second, .val (.long (x2.toInt64)), .second, .val (.long (x3.toInt64)), .second, .val (.ref b), .val (.ref r), .unset] [])) _
      refine XS.aload X2.here hx rfl (hb hby at_118) rfl rfl ?_
      show Steps p.tables e below (T2.setTop (mkF m 120 #[.val (.int p1), .val (.int p2), .val (.int p3), .val (.int p4), .val (.int p5), .val (.int (0 : Int32)), .val (.int x0), .val (.int x1), .val (.int x2), .val (.int x3), .val (.long (x0.toInt64)), .second, .val (.long (x1.toInt64)), .second, .val (.long (x2.toInt64)), .second, .val (.long (x3.toInt64)), .second, .val (.ref b), .val (.ref r), .unset] [(.ref r)])) _
      refine X2.arraylength hx (cell := cr) Arr_.1 (State.isArrayOf_alike hZ.alike Arr_.2.1) (g := (mkF m 120 #[.val (.int p1), .val (.int p2), .val (.int p3), .val (.int p4), .val (.int p5), .val (.int (0 : Int32)), .val (.int x0), .val (.int x1), .val (.int x2), .val (.int x3), .val (.long (x0.toInt64)), .second, .val (.long (x1.toInt64)), .second, .val (.long (x2.toInt64)), .second, .val (.long (x3.toInt64)), .second, .val (.ref b), .val (.ref r), .unset] [(.ref r)])) rfl rfl (hb hby at_120) _ ?_
      rw [show cr.slots.size.toInt32 = (0 : Int32) from own_len Szr]
      show Steps p.tables e below (T2.setTop (mkF m 121 #[.val (.int p1), .val (.int p2), .val (.int p3), .val (.int p4), .val (.int p5), .val (.int (0 : Int32)), .val (.int x0), .val (.int x1), .val (.int x2), .val (.int x3), .val (.long (x0.toInt64)), .second, .val (.long (x1.toInt64)), .second, .val (.long (x2.toInt64)), .second, .val (.long (x3.toInt64)), .second, .val (.ref b), .val (.ref r), .unset] [(.int (0 : Int32))])) _
      refine XS.iload X2.here hx rfl (hb hby at_121) rfl ?_
      show Steps p.tables e below (T2.setTop (mkF m 123 #[.val (.int p1), .val (.int p2), .val (.int p3), .val (.int p4), .val (.int p5), .val (.int (0 : Int32)), .val (.int x0), .val (.int x1), .val (.int x2), .val (.int x3), .val (.long (x0.toInt64)), .second, .val (.long (x1.toInt64)), .second, .val (.long (x2.toInt64)), .second, .val (.long (x3.toInt64)), .second, .val (.ref b), .val (.ref r), .unset] [(.int (0 : Int32)), (.int (0 : Int32))])) _
      refine XS.icmpYes X2.here hx rfl (pc0 := 123) (pc' := 128) rfl (hb hby at_123) rfl (teq (rfl : (0 : Int32) = (0 : Int32))).1 (by decide) (by decide) ?_
      show Steps p.tables e below (T2.setTop (mkF m 128 #[.val (.int p1), .val (.int p2), .val (.int p3), .val (.int p4), .val (.int p5), .val (.int (0 : Int32)), .val (.int x0), .val (.int x1), .val (.int x2), .val (.int x3), .val (.long (x0.toInt64)), .second, .val (.long (x1.toInt64)), .second, .val (.long (x2.toInt64)), .second, .val (.long (x3.toInt64)), .second, .val (.ref b), .val (.ref r), .unset] [])) _
      refine XS.iconst X2.here hx rfl (hb hby at_128) ?_
      show Steps p.tables e below (T2.setTop (mkF m 129 #[.val (.int p1), .val (.int p2), .val (.int p3), .val (.int p4), .val (.int p5), .val (.int (0 : Int32)), .val (.int x0), .val (.int x1), .val (.int x2), .val (.int x3), .val (.long (x0.toInt64)), .second, .val (.long (x1.toInt64)), .second, .val (.long (x2.toInt64)), .second, .val (.long (x3.toInt64)), .second, .val (.ref b), .val (.ref r), .unset] [(.int (1 : Int32))])) _
      refine XS.istore X2.here hx rfl (hb hby at_129) rfl (l' := #[.val (.int p1), .val (.int p2), .val (.int p3), .val (.int p4), .val (.int p5), .val (.int (0 : Int32)), .val (.int x0), .val (.int x1), .val (.int x2), .val (.int x3), .val (.long (x0.toInt64)), .second, .val (.long (x1.toInt64)), .second, .val (.long (x2.toInt64)), .second, .val (.long (x3.toInt64)), .second, .val (.ref b), .val (.ref r), .val (.int (1 : Int32))]) rfl ?_
      show Steps p.tables e below (T2.setTop (mkF m 131 #[.val (.int p1), .val (.int p2), .val (.int p3), .val (.int p4), .val (.int p5), .val (.int (0 : Int32)), .val (.int x0), .val (.int x1), .val (.int x2), .val (.int x3), .val (.long (x0.toInt64)), .second, .val (.long (x1.toInt64)), .second, .val (.long (x2.toInt64)), .second, .val (.long (x3.toInt64)), .second, .val (.ref b), .val (.ref r), .val (.int (1 : Int32))] [])) _
      refine XS.iload X2.here hx rfl (hb hby at_131) rfl ?_
      show Steps p.tables e below (T2.setTop (mkF m 133 #[.val (.int p1), .val (.int p2), .val (.int p3), .val (.int p4), .val (.int p5), .val (.int (0 : Int32)), .val (.int x0), .val (.int x1), .val (.int x2), .val (.int x3), .val (.long (x0.toInt64)), .second, .val (.long (x1.toInt64)), .second, .val (.long (x2.toInt64)), .second, .val (.long (x3.toInt64)), .second, .val (.ref b), .val (.ref r), .val (.int (1 : Int32))] [(.int (0 : Int32))])) _
      refine XS.ifYes X2.here hx rfl (pc0 := 133) (pc' := 167) rfl (hb hby at_133) rfl ((if0 _ _).trans (flt (by decide : ¬ ((0 : Int32) < (0 : Int32)))).2.2.2) (by decide) (by decide) ?_
      show Steps p.tables e below (T2.setTop (mkF m 167 #[.val (.int p1), .val (.int p2), .val (.int p3), .val (.int p4), .val (.int p5), .val (.int (0 : Int32)), .val (.int x0), .val (.int x1), .val (.int x2), .val (.int x3), .val (.long (x0.toInt64)), .second, .val (.long (x1.toInt64)), .second, .val (.long (x2.toInt64)), .second, .val (.long (x3.toInt64)), .second, .val (.ref b), .val (.ref r), .val (.int (1 : Int32))] [])) _
      refine XS.iload X2.here hx rfl (hb hby at_167) rfl ?_
      show Steps p.tables e below (T2.setTop (mkF m 169 #[.val (.int p1), .val (.int p2), .val (.int p3), .val (.int p4), .val (.int p5), .val (.int (0 : Int32)), .val (.int x0), .val (.int x1), .val (.int x2), .val (.int x3), .val (.long (x0.toInt64)), .second, .val (.long (x1.toInt64)), .second, .val (.long (x2.toInt64)), .second, .val (.long (x3.toInt64)), .second, .val (.ref b), .val (.ref r), .val (.int (1 : Int32))] [(.int (0 : Int32))])) _
      refine XS.iconst X2.here hx rfl (hb hby at_169) ?_
      show Steps p.tables e below (T2.setTop (mkF m 170 #[.val (.int p1), .val (.int p2), .val (.int p3), .val (.int p4), .val (.int p5), .val (.int (0 : Int32)), .val (.int x0), .val (.int x1), .val (.int x2), .val (.int x3), .val (.long (x0.toInt64)), .second, .val (.long (x1.toInt64)), .second, .val (.long (x2.toInt64)), .second, .val (.long (x3.toInt64)), .second, .val (.ref b), .val (.ref r), .val (.int (1 : Int32))] [(.int (1 : Int32)), (.int (0 : Int32))])) _
      refine XS.icmpYes X2.here hx rfl (pc0 := 170) (pc' := 207) rfl (hb hby at_170) rfl (flt (by decide : ¬ ((1 : Int32) < (0 : Int32)))).2.2.2 (by decide) (by decide) ?_
      show Steps p.tables e below (T2.setTop (mkF m 207 #[.val (.int p1), .val (.int p2), .val (.int p3), .val (.int p4), .val (.int p5), .val (.int (0 : Int32)), .val (.int x0), .val (.int x1), .val (.int x2), .val (.int x3), .val (.long (x0.toInt64)), .second, .val (.long (x1.toInt64)), .second, .val (.long (x2.toInt64)), .second, .val (.long (x3.toInt64)), .second, .val (.ref b), .val (.ref r), .val (.int (1 : Int32))] [])) _
      refine XS.iload X2.here hx rfl (hb hby at_207) rfl ?_
      show Steps p.tables e below (T2.setTop (mkF m 209 #[.val (.int p1), .val (.int p2), .val (.int p3), .val (.int p4), .val (.int p5), .val (.int (0 : Int32)), .val (.int x0), .val (.int x1), .val (.int x2), .val (.int x3), .val (.long (x0.toInt64)), .second, .val (.long (x1.toInt64)), .second, .val (.long (x2.toInt64)), .second, .val (.long (x3.toInt64)), .second, .val (.ref b), .val (.ref r), .val (.int (1 : Int32))] [(.int (0 : Int32))])) _
      refine XS.iconst X2.here hx rfl (hb hby at_209) ?_
      show Steps p.tables e below (T2.setTop (mkF m 210 #[.val (.int p1), .val (.int p2), .val (.int p3), .val (.int p4), .val (.int p5), .val (.int (0 : Int32)), .val (.int x0), .val (.int x1), .val (.int x2), .val (.int x3), .val (.long (x0.toInt64)), .second, .val (.long (x1.toInt64)), .second, .val (.long (x2.toInt64)), .second, .val (.long (x3.toInt64)), .second, .val (.ref b), .val (.ref r), .val (.int (1 : Int32))] [(.int (2 : Int32)), (.int (0 : Int32))])) _
      refine XS.icmpYes X2.here hx rfl (pc0 := 210) (pc' := 250) rfl (hb hby at_210) rfl (flt (by decide : ¬ ((2 : Int32) < (0 : Int32)))).2.2.2 (by decide) (by decide) ?_
      show Steps p.tables e below (T2.setTop (mkF m 250 #[.val (.int p1), .val (.int p2), .val (.int p3), .val (.int p4), .val (.int p5), .val (.int (0 : Int32)), .val (.int x0), .val (.int x1), .val (.int x2), .val (.int x3), .val (.long (x0.toInt64)), .second, .val (.long (x1.toInt64)), .second, .val (.long (x2.toInt64)), .second, .val (.long (x3.toInt64)), .second, .val (.ref b), .val (.ref r), .val (.int (1 : Int32))] [])) _
      refine XS.iload X2.here hx rfl (hb hby at_250) rfl ?_
      show Steps p.tables e below (T2.setTop (mkF m 252 #[.val (.int p1), .val (.int p2), .val (.int p3), .val (.int p4), .val (.int p5), .val (.int (0 : Int32)), .val (.int x0), .val (.int x1), .val (.int x2), .val (.int x3), .val (.long (x0.toInt64)), .second, .val (.long (x1.toInt64)), .second, .val (.long (x2.toInt64)), .second, .val (.long (x3.toInt64)), .second, .val (.ref b), .val (.ref r), .val (.int (1 : Int32))] [(.int (0 : Int32))])) _
      refine XS.iconst X2.here hx rfl (hb hby at_252) ?_
      show Steps p.tables e below (T2.setTop (mkF m 253 #[.val (.int p1), .val (.int p2), .val (.int p3), .val (.int p4), .val (.int p5), .val (.int (0 : Int32)), .val (.int x0), .val (.int x1), .val (.int x2), .val (.int x3), .val (.long (x0.toInt64)), .second, .val (.long (x1.toInt64)), .second, .val (.long (x2.toInt64)), .second, .val (.long (x3.toInt64)), .second, .val (.ref b), .val (.ref r), .val (.int (1 : Int32))] [(.int (3 : Int32)), (.int (0 : Int32))])) _
      refine XS.icmpYes X2.here hx rfl (pc0 := 253) (pc' := 296) rfl (hb hby at_253) rfl (flt (by decide : ¬ ((3 : Int32) < (0 : Int32)))).2.2.2 (by decide) (by decide) ?_
      show Steps p.tables e below (T2.setTop (mkF m 296 #[.val (.int p1), .val (.int p2), .val (.int p3), .val (.int p4), .val (.int p5), .val (.int (0 : Int32)), .val (.int x0), .val (.int x1), .val (.int x2), .val (.int x3), .val (.long (x0.toInt64)), .second, .val (.long (x1.toInt64)), .second, .val (.long (x2.toInt64)), .second, .val (.long (x3.toInt64)), .second, .val (.ref b), .val (.ref r), .val (.int (1 : Int32))] [])) _
      refine XS.iload X2.here hx rfl (hb hby at_296) rfl ?_
      show Steps p.tables e below (T2.setTop (mkF m 298 #[.val (.int p1), .val (.int p2), .val (.int p3), .val (.int p4), .val (.int p5), .val (.int (0 : Int32)), .val (.int x0), .val (.int x1), .val (.int x2), .val (.int x3), .val (.long (x0.toInt64)), .second, .val (.long (x1.toInt64)), .second, .val (.long (x2.toInt64)), .second, .val (.long (x3.toInt64)), .second, .val (.ref b), .val (.ref r), .val (.int (1 : Int32))] [(.int (1 : Int32))])) _
      exact retN X2 hx (t := .boolean) Bd.returns (by simp) (hb hby at_298) hr
    · show Q0 Z p1 p2 p3 p4 p5 h0 n0 _ T2.heap _
      exact ⟨rfl, N2⟩
  · obtain ⟨T1, h1, k1, X1, e1, E1, A1, st1⟩ := newP X0 hx hZ (hw _ (List.mem_of_getElem? (i := 1) rfl)) e0 (g := (mkF m 55 #[.val (.int p1), .val (.int p2), .val (.int p3), .val (.int p4), .val (.int p5), .val (.int (1 : Int32)), .val (.int x0), .val (.int x1), .val (.int x2), .val (.int x3), .val (.long (x0.toInt64)), .second, .val (.long (x1.toInt64)), .second, .val (.long (x2.toInt64)), .second, .val (.long (x3.toInt64)), .second, .unset, .unset, .unset] [(.int (1 : Int32))])) rfl (hb hby at_55) rfl (by decide) (cap := 1) (by decide) (by decide) (by decide) (by decide)
    obtain ⟨b, g1⟩ : ∃ z, z = h0.size := ⟨_, rfl⟩
    have g_b : n0 ≤ b := Nat.le_trans Z0 (Nat.le_of_eq g1.symm)
    rw [← g1] at A1 st1
    have V1 := own_A.new (n := 1) A1 (by decide)
    obtain ⟨cl0, Ar0, Sz0, Hs0⟩ := id V1
    obtain ⟨T2, h2, X2, e2, W2, st2⟩ := stI X1 hx hZ e1 Ar0 (j := (0 : Int32)) (own_in (k := 0) Sz0 (by decide) rfl (by decide)) (g := (mkF m 69 #[.val (.int p1), .val (.int p2), .val (.int p3), .val (.int p4), .val (.int p5), .val (.int (1 : Int32)), .val (.int x0), .val (.int x1), .val (.int x2), .val (.int x3), .val (.long (x0.toInt64)), .second, .val (.long (x1.toInt64)), .second, .val (.long (x2.toInt64)), .second, .val (.long (x3.toInt64)), .second, .val (.ref b), .unset, .unset] [(.int x0), (.int (0 : Int32)), (.ref b)])) rfl rfl (hb hby at_69)
    have N2 := Fr.snoc X2 N0 g_b
    have V2 := V1.set (k := 0) (by decide) W2
    have VF : own_A Z h2 b .int 1 (fun j => .int (own_g x0 x1 x2 x3 j)) := V2.alike (fun j hj => by
      have hj7 : j = 0 := by omega
      subst hj7; rfl)
    obtain ⟨_, _, ⟨T3, L3, k3, n3⟩, -, X3, ⟨Lc3, hQ3, l3, y3, z3⟩, st3⟩ := Jvm.LawKit.callS X2 hx (y := (⟨"com/example/redoubt/redoubt/Weight", "sums", "([I)[J"⟩ : MethodName)) hown (mvT hZ (hw _ (List.mem_of_getElem? (i := 2) rfl))) (mvT hZ (hw _ (List.mem_of_getElem? (i := 3) rfl))) (mvT hZ (hw _ (List.mem_of_getElem? (i := 4) rfl))) (mvT hZ (hw _ (List.mem_of_getElem? (i := 5) rfl))) (by decide) (backOf (W := 0) (rm1 l Z a0 hw [] b 1 (own_g x0 x1 x2 x3) h2 n0 (Nat.le_trans (Nat.le_trans Z0 E1.1) (Keep.of_wr W2).1) (by decide) VF) hZ (hw _ (List.mem_of_getElem? (i := 5) rfl)) (hw _ (List.mem_of_getElem? (i := 4) rfl)) (by decide) (by decide)) (g := (mkF m 108 #[.val (.int p1), .val (.int p2), .val (.int p3), .val (.int p4), .val (.int p5), .val (.int (1 : Int32)), .val (.int x0), .val (.int x1), .val (.int x2), .val (.int x3), .val (.long (x0.toInt64)), .second, .val (.long (x1.toInt64)), .second, .val (.long (x2.toInt64)), .second, .val (.long (x3.toInt64)), .second, .val (.ref b), .unset, .unset] [(.ref b)])) rfl (by rw [hml]; rfl) (argsL := [(.ref b)]) (rest := []) (lenOf pdx_0 rfl) rfl (by show 2 * 0 + _ ≤ _; exact Nat.le_of_eq rfl) (hb hby at_108) (fun _ _ => ⟨rfl, e2, (by decide : 1 + 1 ≤ _), (by decide : 1 + 4 ≤ _)⟩)
    dsimp only [Pt.U, Pt.locs, Pt.cells, Pt.slots] at X3 l3 y3 z3 st3 hQ3
    subst l3 y3 z3
    obtain ⟨rfl, N3q, K3, x3v⟩ := hQ3
    have N3 := Fr.app N2 N3q
    obtain ⟨r, gr⟩ : ∃ z, z = h2.size := ⟨_, rfl⟩
    rw [← gr] at x3v st3
    have c3_V_b := VF.keep K3 nin0
    obtain ⟨cr, Arr_, Szr, Hsr⟩ := id x3v
    obtain ⟨fs, hr, hrun, hended, hW, hsame⟩ := X3.leave (v := some (.int (1 : Int32))) (fun h => by rw [Bd.returns] at h; cases h)
    refine ⟨_, _, pre0 _ ?_, hrun, hended, _, _, rfl, ?_, ⟨_, rfl⟩, hW, hsame.mono (by decide) (by decide)⟩
    · show Steps p.tables e below (s₁.setTop (mkF m 0 #[.val (.int p1), .val (.int p2), .val (.int p3), .val (.int p4), .val (.int p5), .unset, .unset, .unset, .unset, .unset, .unset, .unset, .unset, .unset, .unset, .unset, .unset, .unset, .unset, .unset, .unset] [])) _
      refine sg0 _ ?_
      show Steps p.tables e below (s₁.setTop (mkF m 53 #[.val (.int p1), .val (.int p2), .val (.int p3), .val (.int p4), .val (.int p5), .val (.int (1 : Int32)), .val (.int x0), .val (.int x1), .val (.int x2), .val (.int x3), .val (.long (x0.toInt64)), .second, .val (.long (x1.toInt64)), .second, .val (.long (x2.toInt64)), .second, .val (.long (x3.toInt64)), .second, .unset, .unset, .unset] [])) _
      refine XS.iload X0.here hx rfl (hb hby at_53) rfl ?_
      show Steps p.tables e below (s₁.setTop (mkF m 55 #[.val (.int p1), .val (.int p2), .val (.int p3), .val (.int p4), .val (.int p5), .val (.int (1 : Int32)), .val (.int x0), .val (.int x1), .val (.int x2), .val (.int x3), .val (.long (x0.toInt64)), .second, .val (.long (x1.toInt64)), .second, .val (.long (x2.toInt64)), .second, .val (.long (x3.toInt64)), .second, .unset, .unset, .unset] [(.int (1 : Int32))])) _
      refine st1 _ ?_
      show Steps p.tables e below (T1.setTop (mkF m 57 #[.val (.int p1), .val (.int p2), .val (.int p3), .val (.int p4), .val (.int p5), .val (.int (1 : Int32)), .val (.int x0), .val (.int x1), .val (.int x2), .val (.int x3), .val (.long (x0.toInt64)), .second, .val (.long (x1.toInt64)), .second, .val (.long (x2.toInt64)), .second, .val (.long (x3.toInt64)), .second, .unset, .unset, .unset] [(.ref b)])) _
      refine XS.astore X1.here hx rfl (hb hby at_57) rfl rfl (l' := #[.val (.int p1), .val (.int p2), .val (.int p3), .val (.int p4), .val (.int p5), .val (.int (1 : Int32)), .val (.int x0), .val (.int x1), .val (.int x2), .val (.int x3), .val (.long (x0.toInt64)), .second, .val (.long (x1.toInt64)), .second, .val (.long (x2.toInt64)), .second, .val (.long (x3.toInt64)), .second, .val (.ref b), .unset, .unset]) rfl ?_
      show Steps p.tables e below (T1.setTop (mkF m 59 #[.val (.int p1), .val (.int p2), .val (.int p3), .val (.int p4), .val (.int p5), .val (.int (1 : Int32)), .val (.int x0), .val (.int x1), .val (.int x2), .val (.int x3), .val (.long (x0.toInt64)), .second, .val (.long (x1.toInt64)), .second, .val (.long (x2.toInt64)), .second, .val (.long (x3.toInt64)), .second, .val (.ref b), .unset, .unset] [])) _
      refine XS.iload X1.here hx rfl (hb hby at_59) rfl ?_
      show Steps p.tables e below (T1.setTop (mkF m 61 #[.val (.int p1), .val (.int p2), .val (.int p3), .val (.int p4), .val (.int p5), .val (.int (1 : Int32)), .val (.int x0), .val (.int x1), .val (.int x2), .val (.int x3), .val (.long (x0.toInt64)), .second, .val (.long (x1.toInt64)), .second, .val (.long (x2.toInt64)), .second, .val (.long (x3.toInt64)), .second, .val (.ref b), .unset, .unset] [(.int (1 : Int32))])) _
      refine XS.ifNo X1.here hx rfl (hb hby at_61) rfl ((if0 _ _).trans (tlt (by decide : (0 : Int32) < (1 : Int32))).2.2.2) ?_
      show Steps p.tables e below (T1.setTop (mkF m 64 #[.val (.int p1), .val (.int p2), .val (.int p3), .val (.int p4), .val (.int p5), .val (.int (1 : Int32)), .val (.int x0), .val (.int x1), .val (.int x2), .val (.int x3), .val (.long (x0.toInt64)), .second, .val (.long (x1.toInt64)), .second, .val (.long (x2.toInt64)), .second, .val (.long (x3.toInt64)), .second, .val (.ref b), .unset, .unset] [])) _
      refine XS.aload X1.here hx rfl (hb hby at_64) rfl rfl ?_
      show Steps p.tables e below (T1.setTop (mkF m 66 #[.val (.int p1), .val (.int p2), .val (.int p3), .val (.int p4), .val (.int p5), .val (.int (1 : Int32)), .val (.int x0), .val (.int x1), .val (.int x2), .val (.int x3), .val (.long (x0.toInt64)), .second, .val (.long (x1.toInt64)), .second, .val (.long (x2.toInt64)), .second, .val (.long (x3.toInt64)), .second, .val (.ref b), .unset, .unset] [(.ref b)])) _
      refine XS.iconst X1.here hx rfl (hb hby at_66) ?_
      show Steps p.tables e below (T1.setTop (mkF m 67 #[.val (.int p1), .val (.int p2), .val (.int p3), .val (.int p4), .val (.int p5), .val (.int (1 : Int32)), .val (.int x0), .val (.int x1), .val (.int x2), .val (.int x3), .val (.long (x0.toInt64)), .second, .val (.long (x1.toInt64)), .second, .val (.long (x2.toInt64)), .second, .val (.long (x3.toInt64)), .second, .val (.ref b), .unset, .unset] [(.int (0 : Int32)), (.ref b)])) _
      refine XS.iload X1.here hx rfl (hb hby at_67) rfl ?_
      show Steps p.tables e below (T1.setTop (mkF m 69 #[.val (.int p1), .val (.int p2), .val (.int p3), .val (.int p4), .val (.int p5), .val (.int (1 : Int32)), .val (.int x0), .val (.int x1), .val (.int x2), .val (.int x3), .val (.long (x0.toInt64)), .second, .val (.long (x1.toInt64)), .second, .val (.long (x2.toInt64)), .second, .val (.long (x3.toInt64)), .second, .val (.ref b), .unset, .unset] [(.int x0), (.int (0 : Int32)), (.ref b)])) _
      refine st2 _ ?_
      show Steps p.tables e below (T2.setTop (mkF m 70 #[.val (.int p1), .val (.int p2), .val (.int p3), .val (.int p4), .val (.int p5), .val (.int (1 : Int32)), .val (.int x0), .val (.int x1), .val (.int x2), .val (.int x3), .val (.long (x0.toInt64)), .second, .val (.long (x1.toInt64)), .second, .val (.long (x2.toInt64)), .second, .val (.long (x3.toInt64)), .second, .val (.ref b), .unset, .unset] [])) _
      refine XS.iload X2.here hx rfl (hb hby at_70) rfl ?_
      show Steps p.tables e below (T2.setTop (mkF m 72 #[.val (.int p1), .val (.int p2), .val (.int p3), .val (.int p4), .val (.int p5), .val (.int (1 : Int32)), .val (.int x0), .val (.int x1), .val (.int x2), .val (.int x3), .val (.long (x0.toInt64)), .second, .val (.long (x1.toInt64)), .second, .val (.long (x2.toInt64)), .second, .val (.long (x3.toInt64)), .second, .val (.ref b), .unset, .unset] [(.int (1 : Int32))])) _
      refine XS.iconst X2.here hx rfl (hb hby at_72) ?_
      show Steps p.tables e below (T2.setTop (mkF m 73 #[.val (.int p1), .val (.int p2), .val (.int p3), .val (.int p4), .val (.int p5), .val (.int (1 : Int32)), .val (.int x0), .val (.int x1), .val (.int x2), .val (.int x3), .val (.long (x0.toInt64)), .second, .val (.long (x1.toInt64)), .second, .val (.long (x2.toInt64)), .second, .val (.long (x3.toInt64)), .second, .val (.ref b), .unset, .unset] [(.int (1 : Int32)), (.int (1 : Int32))])) _
      refine XS.icmpYes X2.here hx rfl (pc0 := 73) (pc' := 82) rfl (hb hby at_73) rfl (flt (by decide : ¬ ((1 : Int32) < (1 : Int32)))).2.2.2 (by decide) (by decide) ?_
      show Steps p.tables e below (T2.setTop (mkF m 82 #[.val (.int p1), .val (.int p2), .val (.int p3), .val (.int p4), .val (.int p5), .val (.int (1 : Int32)), .val (.int x0), .val (.int x1), .val (.int x2), .val (.int x3), .val (.long (x0.toInt64)), .second, .val (.long (x1.toInt64)), .second, .val (.long (x2.toInt64)), .second, .val (.long (x3.toInt64)), .second, .val (.ref b), .unset, .unset] [])) _
      refine XS.iload X2.here hx rfl (hb hby at_82) rfl ?_
      show Steps p.tables e below (T2.setTop (mkF m 84 #[.val (.int p1), .val (.int p2), .val (.int p3), .val (.int p4), .val (.int p5), .val (.int (1 : Int32)), .val (.int x0), .val (.int x1), .val (.int x2), .val (.int x3), .val (.long (x0.toInt64)), .second, .val (.long (x1.toInt64)), .second, .val (.long (x2.toInt64)), .second, .val (.long (x3.toInt64)), .second, .val (.ref b), .unset, .unset] [(.int (1 : Int32))])) _
      refine XS.iconst X2.here hx rfl (hb hby at_84) ?_
      show Steps p.tables e below (T2.setTop (mkF m 85 #[.val (.int p1), .val (.int p2), .val (.int p3), .val (.int p4), .val (.int p5), .val (.int (1 : Int32)), .val (.int x0), .val (.int x1), .val (.int x2), .val (.int x3), .val (.long (x0.toInt64)), .second, .val (.long (x1.toInt64)), .second, .val (.long (x2.toInt64)), .second, .val (.long (x3.toInt64)), .second, .val (.ref b), .unset, .unset] [(.int (2 : Int32)), (.int (1 : Int32))])) _
      refine XS.icmpYes X2.here hx rfl (pc0 := 85) (pc' := 94) rfl (hb hby at_85) rfl (flt (by decide : ¬ ((2 : Int32) < (1 : Int32)))).2.2.2 (by decide) (by decide) ?_
      show Steps p.tables e below (T2.setTop (mkF m 94 #[.val (.int p1), .val (.int p2), .val (.int p3), .val (.int p4), .val (.int p5), .val (.int (1 : Int32)), .val (.int x0), .val (.int x1), .val (.int x2), .val (.int x3), .val (.long (x0.toInt64)), .second, .val (.long (x1.toInt64)), .second, .val (.long (x2.toInt64)), .second, .val (.long (x3.toInt64)), .second, .val (.ref b), .unset, .unset] [])) _
      refine XS.iload X2.here hx rfl (hb hby at_94) rfl ?_
      show Steps p.tables e below (T2.setTop (mkF m 96 #[.val (.int p1), .val (.int p2), .val (.int p3), .val (.int p4), .val (.int p5), .val (.int (1 : Int32)), .val (.int x0), .val (.int x1), .val (.int x2), .val (.int x3), .val (.long (x0.toInt64)), .second, .val (.long (x1.toInt64)), .second, .val (.long (x2.toInt64)), .second, .val (.long (x3.toInt64)), .second, .val (.ref b), .unset, .unset] [(.int (1 : Int32))])) _
      refine XS.iconst X2.here hx rfl (hb hby at_96) ?_
      show Steps p.tables e below (T2.setTop (mkF m 97 #[.val (.int p1), .val (.int p2), .val (.int p3), .val (.int p4), .val (.int p5), .val (.int (1 : Int32)), .val (.int x0), .val (.int x1), .val (.int x2), .val (.int x3), .val (.long (x0.toInt64)), .second, .val (.long (x1.toInt64)), .second, .val (.long (x2.toInt64)), .second, .val (.long (x3.toInt64)), .second, .val (.ref b), .unset, .unset] [(.int (3 : Int32)), (.int (1 : Int32))])) _
      refine XS.icmpYes X2.here hx rfl (pc0 := 97) (pc' := 106) rfl (hb hby at_97) rfl (flt (by decide : ¬ ((3 : Int32) < (1 : Int32)))).2.2.2 (by decide) (by decide) ?_
      show Steps p.tables e below (T2.setTop (mkF m 106 #[.val (.int p1), .val (.int p2), .val (.int p3), .val (.int p4), .val (.int p5), .val (.int (1 : Int32)), .val (.int x0), .val (.int x1), .val (.int x2), .val (.int x3), .val (.long (x0.toInt64)), .second, .val (.long (x1.toInt64)), .second, .val (.long (x2.toInt64)), .second, .val (.long (x3.toInt64)), .second, .val (.ref b), .unset, .unset] [])) _
      refine XS.aload X2.here hx rfl (hb hby at_106) rfl rfl ?_
      show Steps p.tables e below (T2.setTop (mkF m 108 #[.val (.int p1), .val (.int p2), .val (.int p3), .val (.int p4), .val (.int p5), .val (.int (1 : Int32)), .val (.int x0), .val (.int x1), .val (.int x2), .val (.int x3), .val (.long (x0.toInt64)), .second, .val (.long (x1.toInt64)), .second, .val (.long (x2.toInt64)), .second, .val (.long (x3.toInt64)), .second, .val (.ref b), .unset, .unset] [(.ref b)])) _
      refine st3 _ ?_
      show Steps p.tables e below (T3.setTop (mkF m 111 #[.val (.int p1), .val (.int p2), .val (.int p3), .val (.int p4), .val (.int p5), .val (.int (1 : Int32)), .val (.int x0), .val (.int x1), .val (.int x2), .val (.int x3), .val (.long (x0.toInt64)), .second, .val (.long (x1.toInt64)), .second, .val (.long (x2.toInt64)), .second, .val (.long (x3.toInt64)), .second, .val (.ref b), .unset, .unset] [(.ref r)])) _
      refine XS.astore X3.here hx rfl (hb hby at_111) rfl rfl (l' := #[.val (.int p1), .val (.int p2), .val (.int p3), .val (.int p4), .val (.int p5), .val (.int (1 : Int32)), .val (.int x0), .val (.int x1), .val (.int x2), .val (.int x3), .val (.long (x0.toInt64)), .second, .val (.long (x1.toInt64)), .second, .val (.long (x2.toInt64)), .second, .val (.long (x3.toInt64)), .second, .val (.ref b), .val (.ref r), .unset]) rfl ?_
      show Steps p.tables e below (T3.setTop (mkF m 113 #[.val (.int p1), .val (.int p2), .val (.int p3), .val (.int p4), .val (.int p5), .val (.int (1 : Int32)), .val (.int x0), .val (.int x1), .val (.int x2), .val (.int x3), .val (.long (x0.toInt64)), .second, .val (.long (x1.toInt64)), .second, .val (.long (x2.toInt64)), .second, .val (.long (x3.toInt64)), .second, .val (.ref b), .val (.ref r), .unset] [])) _
      refine XS.aload X3.here hx rfl (hb hby at_113) rfl rfl ?_
      show Steps p.tables e below (T3.setTop (mkF m 115 #[.val (.int p1), .val (.int p2), .val (.int p3), .val (.int p4), .val (.int p5), .val (.int (1 : Int32)), .val (.int x0), .val (.int x1), .val (.int x2), .val (.int x3), .val (.long (x0.toInt64)), .second, .val (.long (x1.toInt64)), .second, .val (.long (x2.toInt64)), .second, .val (.long (x3.toInt64)), .second, .val (.ref b), .val (.ref r), .unset] [(.ref r)])) _
      refine XS.ifnullNo X3.here hx rfl (hb hby at_115) rfl ?_
      show Steps p.tables e below (T3.setTop (mkF m 118 #[.val (.int p1), .val (.int p2), .val (.int p3), .val (.int p4), .val (.int p5), .val (.int (1 : Int32)), .val (.int x0), .val (.int x1), .val (.int x2), .val (.int x3), .val (.long (x0.toInt64)), .second, .val (.long (x1.toInt64)), .second, .val (.long (x2.toInt64)), .second, .val (.long (x3.toInt64)), .second, .val (.ref b), .val (.ref r), .unset] [])) _
      refine XS.aload X3.here hx rfl (hb hby at_118) rfl rfl ?_
      show Steps p.tables e below (T3.setTop (mkF m 120 #[.val (.int p1), .val (.int p2), .val (.int p3), .val (.int p4), .val (.int p5), .val (.int (1 : Int32)), .val (.int x0), .val (.int x1), .val (.int x2), .val (.int x3), .val (.long (x0.toInt64)), .second, .val (.long (x1.toInt64)), .second, .val (.long (x2.toInt64)), .second, .val (.long (x3.toInt64)), .second, .val (.ref b), .val (.ref r), .unset] [(.ref r)])) _
      refine X3.arraylength hx (cell := cr) Arr_.1 (State.isArrayOf_alike hZ.alike Arr_.2.1) (g := (mkF m 120 #[.val (.int p1), .val (.int p2), .val (.int p3), .val (.int p4), .val (.int p5), .val (.int (1 : Int32)), .val (.int x0), .val (.int x1), .val (.int x2), .val (.int x3), .val (.long (x0.toInt64)), .second, .val (.long (x1.toInt64)), .second, .val (.long (x2.toInt64)), .second, .val (.long (x3.toInt64)), .second, .val (.ref b), .val (.ref r), .unset] [(.ref r)])) rfl rfl (hb hby at_120) _ ?_
      rw [show cr.slots.size.toInt32 = (1 : Int32) from own_len Szr]
      show Steps p.tables e below (T3.setTop (mkF m 121 #[.val (.int p1), .val (.int p2), .val (.int p3), .val (.int p4), .val (.int p5), .val (.int (1 : Int32)), .val (.int x0), .val (.int x1), .val (.int x2), .val (.int x3), .val (.long (x0.toInt64)), .second, .val (.long (x1.toInt64)), .second, .val (.long (x2.toInt64)), .second, .val (.long (x3.toInt64)), .second, .val (.ref b), .val (.ref r), .unset] [(.int (1 : Int32))])) _
      refine XS.iload X3.here hx rfl (hb hby at_121) rfl ?_
      show Steps p.tables e below (T3.setTop (mkF m 123 #[.val (.int p1), .val (.int p2), .val (.int p3), .val (.int p4), .val (.int p5), .val (.int (1 : Int32)), .val (.int x0), .val (.int x1), .val (.int x2), .val (.int x3), .val (.long (x0.toInt64)), .second, .val (.long (x1.toInt64)), .second, .val (.long (x2.toInt64)), .second, .val (.long (x3.toInt64)), .second, .val (.ref b), .val (.ref r), .unset] [(.int (1 : Int32)), (.int (1 : Int32))])) _
      refine XS.icmpYes X3.here hx rfl (pc0 := 123) (pc' := 128) rfl (hb hby at_123) rfl (teq (rfl : (1 : Int32) = (1 : Int32))).1 (by decide) (by decide) ?_
      show Steps p.tables e below (T3.setTop (mkF m 128 #[.val (.int p1), .val (.int p2), .val (.int p3), .val (.int p4), .val (.int p5), .val (.int (1 : Int32)), .val (.int x0), .val (.int x1), .val (.int x2), .val (.int x3), .val (.long (x0.toInt64)), .second, .val (.long (x1.toInt64)), .second, .val (.long (x2.toInt64)), .second, .val (.long (x3.toInt64)), .second, .val (.ref b), .val (.ref r), .unset] [])) _
      refine XS.iconst X3.here hx rfl (hb hby at_128) ?_
      show Steps p.tables e below (T3.setTop (mkF m 129 #[.val (.int p1), .val (.int p2), .val (.int p3), .val (.int p4), .val (.int p5), .val (.int (1 : Int32)), .val (.int x0), .val (.int x1), .val (.int x2), .val (.int x3), .val (.long (x0.toInt64)), .second, .val (.long (x1.toInt64)), .second, .val (.long (x2.toInt64)), .second, .val (.long (x3.toInt64)), .second, .val (.ref b), .val (.ref r), .unset] [(.int (1 : Int32))])) _
      refine XS.istore X3.here hx rfl (hb hby at_129) rfl (l' := #[.val (.int p1), .val (.int p2), .val (.int p3), .val (.int p4), .val (.int p5), .val (.int (1 : Int32)), .val (.int x0), .val (.int x1), .val (.int x2), .val (.int x3), .val (.long (x0.toInt64)), .second, .val (.long (x1.toInt64)), .second, .val (.long (x2.toInt64)), .second, .val (.long (x3.toInt64)), .second, .val (.ref b), .val (.ref r), .val (.int (1 : Int32))]) rfl ?_
      show Steps p.tables e below (T3.setTop (mkF m 131 #[.val (.int p1), .val (.int p2), .val (.int p3), .val (.int p4), .val (.int p5), .val (.int (1 : Int32)), .val (.int x0), .val (.int x1), .val (.int x2), .val (.int x3), .val (.long (x0.toInt64)), .second, .val (.long (x1.toInt64)), .second, .val (.long (x2.toInt64)), .second, .val (.long (x3.toInt64)), .second, .val (.ref b), .val (.ref r), .val (.int (1 : Int32))] [])) _
      refine sg_0 p1 p2 p3 p4 p5 (1 : Int32) x0 x1 x2 x3 b r 1 X3 hx hZ hw hby hown rfl x3v c3_V_b (by decide) (by decide) _ ?_
      show Steps p.tables e below (T3.setTop (mkF m 167 #[.val (.int p1), .val (.int p2), .val (.int p3), .val (.int p4), .val (.int p5), .val (.int (1 : Int32)), .val (.int x0), .val (.int x1), .val (.int x2), .val (.int x3), .val (.long (x0.toInt64)), .second, .val (.long (x1.toInt64)), .second, .val (.long (x2.toInt64)), .second, .val (.long (x3.toInt64)), .second, .val (.ref b), .val (.ref r), .val (.int (1 : Int32))] [])) _
      refine XS.iload X3.here hx rfl (hb hby at_167) rfl ?_
      show Steps p.tables e below (T3.setTop (mkF m 169 #[.val (.int p1), .val (.int p2), .val (.int p3), .val (.int p4), .val (.int p5), .val (.int (1 : Int32)), .val (.int x0), .val (.int x1), .val (.int x2), .val (.int x3), .val (.long (x0.toInt64)), .second, .val (.long (x1.toInt64)), .second, .val (.long (x2.toInt64)), .second, .val (.long (x3.toInt64)), .second, .val (.ref b), .val (.ref r), .val (.int (1 : Int32))] [(.int (1 : Int32))])) _
      refine XS.iconst X3.here hx rfl (hb hby at_169) ?_
      show Steps p.tables e below (T3.setTop (mkF m 170 #[.val (.int p1), .val (.int p2), .val (.int p3), .val (.int p4), .val (.int p5), .val (.int (1 : Int32)), .val (.int x0), .val (.int x1), .val (.int x2), .val (.int x3), .val (.long (x0.toInt64)), .second, .val (.long (x1.toInt64)), .second, .val (.long (x2.toInt64)), .second, .val (.long (x3.toInt64)), .second, .val (.ref b), .val (.ref r), .val (.int (1 : Int32))] [(.int (1 : Int32)), (.int (1 : Int32))])) _
      refine XS.icmpYes X3.here hx rfl (pc0 := 170) (pc' := 207) rfl (hb hby at_170) rfl (flt (by decide : ¬ ((1 : Int32) < (1 : Int32)))).2.2.2 (by decide) (by decide) ?_
      show Steps p.tables e below (T3.setTop (mkF m 207 #[.val (.int p1), .val (.int p2), .val (.int p3), .val (.int p4), .val (.int p5), .val (.int (1 : Int32)), .val (.int x0), .val (.int x1), .val (.int x2), .val (.int x3), .val (.long (x0.toInt64)), .second, .val (.long (x1.toInt64)), .second, .val (.long (x2.toInt64)), .second, .val (.long (x3.toInt64)), .second, .val (.ref b), .val (.ref r), .val (.int (1 : Int32))] [])) _
      refine XS.iload X3.here hx rfl (hb hby at_207) rfl ?_
      show Steps p.tables e below (T3.setTop (mkF m 209 #[.val (.int p1), .val (.int p2), .val (.int p3), .val (.int p4), .val (.int p5), .val (.int (1 : Int32)), .val (.int x0), .val (.int x1), .val (.int x2), .val (.int x3), .val (.long (x0.toInt64)), .second, .val (.long (x1.toInt64)), .second, .val (.long (x2.toInt64)), .second, .val (.long (x3.toInt64)), .second, .val (.ref b), .val (.ref r), .val (.int (1 : Int32))] [(.int (1 : Int32))])) _
      refine XS.iconst X3.here hx rfl (hb hby at_209) ?_
      show Steps p.tables e below (T3.setTop (mkF m 210 #[.val (.int p1), .val (.int p2), .val (.int p3), .val (.int p4), .val (.int p5), .val (.int (1 : Int32)), .val (.int x0), .val (.int x1), .val (.int x2), .val (.int x3), .val (.long (x0.toInt64)), .second, .val (.long (x1.toInt64)), .second, .val (.long (x2.toInt64)), .second, .val (.long (x3.toInt64)), .second, .val (.ref b), .val (.ref r), .val (.int (1 : Int32))] [(.int (2 : Int32)), (.int (1 : Int32))])) _
      refine XS.icmpYes X3.here hx rfl (pc0 := 210) (pc' := 250) rfl (hb hby at_210) rfl (flt (by decide : ¬ ((2 : Int32) < (1 : Int32)))).2.2.2 (by decide) (by decide) ?_
      show Steps p.tables e below (T3.setTop (mkF m 250 #[.val (.int p1), .val (.int p2), .val (.int p3), .val (.int p4), .val (.int p5), .val (.int (1 : Int32)), .val (.int x0), .val (.int x1), .val (.int x2), .val (.int x3), .val (.long (x0.toInt64)), .second, .val (.long (x1.toInt64)), .second, .val (.long (x2.toInt64)), .second, .val (.long (x3.toInt64)), .second, .val (.ref b), .val (.ref r), .val (.int (1 : Int32))] [])) _
      refine XS.iload X3.here hx rfl (hb hby at_250) rfl ?_
      show Steps p.tables e below (T3.setTop (mkF m 252 #[.val (.int p1), .val (.int p2), .val (.int p3), .val (.int p4), .val (.int p5), .val (.int (1 : Int32)), .val (.int x0), .val (.int x1), .val (.int x2), .val (.int x3), .val (.long (x0.toInt64)), .second, .val (.long (x1.toInt64)), .second, .val (.long (x2.toInt64)), .second, .val (.long (x3.toInt64)), .second, .val (.ref b), .val (.ref r), .val (.int (1 : Int32))] [(.int (1 : Int32))])) _
      refine XS.iconst X3.here hx rfl (hb hby at_252) ?_
      show Steps p.tables e below (T3.setTop (mkF m 253 #[.val (.int p1), .val (.int p2), .val (.int p3), .val (.int p4), .val (.int p5), .val (.int (1 : Int32)), .val (.int x0), .val (.int x1), .val (.int x2), .val (.int x3), .val (.long (x0.toInt64)), .second, .val (.long (x1.toInt64)), .second, .val (.long (x2.toInt64)), .second, .val (.long (x3.toInt64)), .second, .val (.ref b), .val (.ref r), .val (.int (1 : Int32))] [(.int (3 : Int32)), (.int (1 : Int32))])) _
      refine XS.icmpYes X3.here hx rfl (pc0 := 253) (pc' := 296) rfl (hb hby at_253) rfl (flt (by decide : ¬ ((3 : Int32) < (1 : Int32)))).2.2.2 (by decide) (by decide) ?_
      show Steps p.tables e below (T3.setTop (mkF m 296 #[.val (.int p1), .val (.int p2), .val (.int p3), .val (.int p4), .val (.int p5), .val (.int (1 : Int32)), .val (.int x0), .val (.int x1), .val (.int x2), .val (.int x3), .val (.long (x0.toInt64)), .second, .val (.long (x1.toInt64)), .second, .val (.long (x2.toInt64)), .second, .val (.long (x3.toInt64)), .second, .val (.ref b), .val (.ref r), .val (.int (1 : Int32))] [])) _
      refine XS.iload X3.here hx rfl (hb hby at_296) rfl ?_
      show Steps p.tables e below (T3.setTop (mkF m 298 #[.val (.int p1), .val (.int p2), .val (.int p3), .val (.int p4), .val (.int p5), .val (.int (1 : Int32)), .val (.int x0), .val (.int x1), .val (.int x2), .val (.int x3), .val (.long (x0.toInt64)), .second, .val (.long (x1.toInt64)), .second, .val (.long (x2.toInt64)), .second, .val (.long (x3.toInt64)), .second, .val (.ref b), .val (.ref r), .val (.int (1 : Int32))] [(.int (1 : Int32))])) _
      exact retN X3 hx (t := .boolean) Bd.returns (by simp) (hb hby at_298) hr
    · show Q0 Z p1 p2 p3 p4 p5 h0 n0 _ T3.heap _
      exact ⟨rfl, N3⟩
  · obtain ⟨T1, h1, k1, X1, e1, E1, A1, st1⟩ := newP X0 hx hZ (hw _ (List.mem_of_getElem? (i := 1) rfl)) e0 (g := (mkF m 55 #[.val (.int p1), .val (.int p2), .val (.int p3), .val (.int p4), .val (.int p5), .val (.int (2 : Int32)), .val (.int x0), .val (.int x1), .val (.int x2), .val (.int x3), .val (.long (x0.toInt64)), .second, .val (.long (x1.toInt64)), .second, .val (.long (x2.toInt64)), .second, .val (.long (x3.toInt64)), .second, .unset, .unset, .unset] [(.int (2 : Int32))])) rfl (hb hby at_55) rfl (by decide) (cap := 2) (by decide) (by decide) (by decide) (by decide)
    obtain ⟨b, g1⟩ : ∃ z, z = h0.size := ⟨_, rfl⟩
    have g_b : n0 ≤ b := Nat.le_trans Z0 (Nat.le_of_eq g1.symm)
    rw [← g1] at A1 st1
    have V1 := own_A.new (n := 2) A1 (by decide)
    obtain ⟨cl0, Ar0, Sz0, Hs0⟩ := id V1
    obtain ⟨T2, h2, X2, e2, W2, st2⟩ := stI X1 hx hZ e1 Ar0 (j := (0 : Int32)) (own_in (k := 0) Sz0 (by decide) rfl (by decide)) (g := (mkF m 69 #[.val (.int p1), .val (.int p2), .val (.int p3), .val (.int p4), .val (.int p5), .val (.int (2 : Int32)), .val (.int x0), .val (.int x1), .val (.int x2), .val (.int x3), .val (.long (x0.toInt64)), .second, .val (.long (x1.toInt64)), .second, .val (.long (x2.toInt64)), .second, .val (.long (x3.toInt64)), .second, .val (.ref b), .unset, .unset] [(.int x0), (.int (0 : Int32)), (.ref b)])) rfl rfl (hb hby at_69)
    have N2 := Fr.snoc X2 N0 g_b
    have V2 := V1.set (k := 0) (by decide) W2
    obtain ⟨cl1, Ar1, Sz1, Hs1⟩ := id V2
    obtain ⟨T3, h3, X3, e3, W3, st3⟩ := stI X2 hx hZ e2 Ar1 (j := (1 : Int32)) (own_in (k := 1) Sz1 (by decide) rfl (by decide)) (g := (mkF m 81 #[.val (.int p1), .val (.int p2), .val (.int p3), .val (.int p4), .val (.int p5), .val (.int (2 : Int32)), .val (.int x0), .val (.int x1), .val (.int x2), .val (.int x3), .val (.long (x0.toInt64)), .second, .val (.long (x1.toInt64)), .second, .val (.long (x2.toInt64)), .second, .val (.long (x3.toInt64)), .second, .val (.ref b), .unset, .unset] [(.int x1), (.int (1 : Int32)), (.ref b)])) rfl rfl (hb hby at_81)
    have N3 := Fr.snoc X3 N2 g_b
    have V3 := V2.set (k := 1) (by decide) W3
    have VF : own_A Z h3 b .int 2 (fun j => .int (own_g x0 x1 x2 x3 j)) := V3.alike (fun j hj => by
      have hj7 : j = 0 ∨ j = 1 := by omega
      rcases hj7 with rfl | rfl <;> rfl)
    obtain ⟨_, _, ⟨T4, L4, k4, n4⟩, -, X4, ⟨Lc4, hQ4, l4, y4, z4⟩, st4⟩ := Jvm.LawKit.callS X3 hx (y := (⟨"com/example/redoubt/redoubt/Weight", "sums", "([I)[J"⟩ : MethodName)) hown (mvT hZ (hw _ (List.mem_of_getElem? (i := 2) rfl))) (mvT hZ (hw _ (List.mem_of_getElem? (i := 3) rfl))) (mvT hZ (hw _ (List.mem_of_getElem? (i := 4) rfl))) (mvT hZ (hw _ (List.mem_of_getElem? (i := 5) rfl))) (by decide) (backOf (W := 0) (rm1 l Z a0 hw [] b 2 (own_g x0 x1 x2 x3) h3 n0 (Nat.le_trans (Nat.le_trans (Nat.le_trans Z0 E1.1) (Keep.of_wr W2).1) (Keep.of_wr W3).1) (by decide) VF) hZ (hw _ (List.mem_of_getElem? (i := 5) rfl)) (hw _ (List.mem_of_getElem? (i := 4) rfl)) (by decide) (by decide)) (g := (mkF m 108 #[.val (.int p1), .val (.int p2), .val (.int p3), .val (.int p4), .val (.int p5), .val (.int (2 : Int32)), .val (.int x0), .val (.int x1), .val (.int x2), .val (.int x3), .val (.long (x0.toInt64)), .second, .val (.long (x1.toInt64)), .second, .val (.long (x2.toInt64)), .second, .val (.long (x3.toInt64)), .second, .val (.ref b), .unset, .unset] [(.ref b)])) rfl (by rw [hml]; rfl) (argsL := [(.ref b)]) (rest := []) (lenOf pdx_0 rfl) rfl (by show 2 * 0 + _ ≤ _; exact Nat.le_of_eq rfl) (hb hby at_108) (fun _ _ => ⟨rfl, e3, (by decide : 1 + 1 ≤ _), (by decide : 2 + 4 ≤ _)⟩)
    dsimp only [Pt.U, Pt.locs, Pt.cells, Pt.slots] at X4 l4 y4 z4 st4 hQ4
    subst l4 y4 z4
    obtain ⟨rfl, N4q, K4, x4v⟩ := hQ4
    have N4 := Fr.app N3 N4q
    obtain ⟨r, gr⟩ : ∃ z, z = h3.size := ⟨_, rfl⟩
    rw [← gr] at x4v st4
    have c4_V_b := VF.keep K4 nin0
    obtain ⟨cr, Arr_, Szr, Hsr⟩ := id x4v
    obtain ⟨fs, hr, hrun, hended, hW, hsame⟩ := X4.leave (v := some (.int (1 : Int32))) (fun h => by rw [Bd.returns] at h; cases h)
    refine ⟨_, _, pre0 _ ?_, hrun, hended, _, _, rfl, ?_, ⟨_, rfl⟩, hW, hsame.mono (by decide) (by decide)⟩
    · show Steps p.tables e below (s₁.setTop (mkF m 0 #[.val (.int p1), .val (.int p2), .val (.int p3), .val (.int p4), .val (.int p5), .unset, .unset, .unset, .unset, .unset, .unset, .unset, .unset, .unset, .unset, .unset, .unset, .unset, .unset, .unset, .unset] [])) _
      refine sg0 _ ?_
      show Steps p.tables e below (s₁.setTop (mkF m 53 #[.val (.int p1), .val (.int p2), .val (.int p3), .val (.int p4), .val (.int p5), .val (.int (2 : Int32)), .val (.int x0), .val (.int x1), .val (.int x2), .val (.int x3), .val (.long (x0.toInt64)), .second, .val (.long (x1.toInt64)), .second, .val (.long (x2.toInt64)), .second, .val (.long (x3.toInt64)), .second, .unset, .unset, .unset] [])) _
      refine XS.iload X0.here hx rfl (hb hby at_53) rfl ?_
      show Steps p.tables e below (s₁.setTop (mkF m 55 #[.val (.int p1), .val (.int p2), .val (.int p3), .val (.int p4), .val (.int p5), .val (.int (2 : Int32)), .val (.int x0), .val (.int x1), .val (.int x2), .val (.int x3), .val (.long (x0.toInt64)), .second, .val (.long (x1.toInt64)), .second, .val (.long (x2.toInt64)), .second, .val (.long (x3.toInt64)), .second, .unset, .unset, .unset] [(.int (2 : Int32))])) _
      refine st1 _ ?_
      show Steps p.tables e below (T1.setTop (mkF m 57 #[.val (.int p1), .val (.int p2), .val (.int p3), .val (.int p4), .val (.int p5), .val (.int (2 : Int32)), .val (.int x0), .val (.int x1), .val (.int x2), .val (.int x3), .val (.long (x0.toInt64)), .second, .val (.long (x1.toInt64)), .second, .val (.long (x2.toInt64)), .second, .val (.long (x3.toInt64)), .second, .unset, .unset, .unset] [(.ref b)])) _
      refine XS.astore X1.here hx rfl (hb hby at_57) rfl rfl (l' := #[.val (.int p1), .val (.int p2), .val (.int p3), .val (.int p4), .val (.int p5), .val (.int (2 : Int32)), .val (.int x0), .val (.int x1), .val (.int x2), .val (.int x3), .val (.long (x0.toInt64)), .second, .val (.long (x1.toInt64)), .second, .val (.long (x2.toInt64)), .second, .val (.long (x3.toInt64)), .second, .val (.ref b), .unset, .unset]) rfl ?_
      show Steps p.tables e below (T1.setTop (mkF m 59 #[.val (.int p1), .val (.int p2), .val (.int p3), .val (.int p4), .val (.int p5), .val (.int (2 : Int32)), .val (.int x0), .val (.int x1), .val (.int x2), .val (.int x3), .val (.long (x0.toInt64)), .second, .val (.long (x1.toInt64)), .second, .val (.long (x2.toInt64)), .second, .val (.long (x3.toInt64)), .second, .val (.ref b), .unset, .unset] [])) _
      refine XS.iload X1.here hx rfl (hb hby at_59) rfl ?_
      show Steps p.tables e below (T1.setTop (mkF m 61 #[.val (.int p1), .val (.int p2), .val (.int p3), .val (.int p4), .val (.int p5), .val (.int (2 : Int32)), .val (.int x0), .val (.int x1), .val (.int x2), .val (.int x3), .val (.long (x0.toInt64)), .second, .val (.long (x1.toInt64)), .second, .val (.long (x2.toInt64)), .second, .val (.long (x3.toInt64)), .second, .val (.ref b), .unset, .unset] [(.int (2 : Int32))])) _
      refine XS.ifNo X1.here hx rfl (hb hby at_61) rfl ((if0 _ _).trans (tlt (by decide : (0 : Int32) < (2 : Int32))).2.2.2) ?_
      show Steps p.tables e below (T1.setTop (mkF m 64 #[.val (.int p1), .val (.int p2), .val (.int p3), .val (.int p4), .val (.int p5), .val (.int (2 : Int32)), .val (.int x0), .val (.int x1), .val (.int x2), .val (.int x3), .val (.long (x0.toInt64)), .second, .val (.long (x1.toInt64)), .second, .val (.long (x2.toInt64)), .second, .val (.long (x3.toInt64)), .second, .val (.ref b), .unset, .unset] [])) _
      refine XS.aload X1.here hx rfl (hb hby at_64) rfl rfl ?_
      show Steps p.tables e below (T1.setTop (mkF m 66 #[.val (.int p1), .val (.int p2), .val (.int p3), .val (.int p4), .val (.int p5), .val (.int (2 : Int32)), .val (.int x0), .val (.int x1), .val (.int x2), .val (.int x3), .val (.long (x0.toInt64)), .second, .val (.long (x1.toInt64)), .second, .val (.long (x2.toInt64)), .second, .val (.long (x3.toInt64)), .second, .val (.ref b), .unset, .unset] [(.ref b)])) _
      refine XS.iconst X1.here hx rfl (hb hby at_66) ?_
      show Steps p.tables e below (T1.setTop (mkF m 67 #[.val (.int p1), .val (.int p2), .val (.int p3), .val (.int p4), .val (.int p5), .val (.int (2 : Int32)), .val (.int x0), .val (.int x1), .val (.int x2), .val (.int x3), .val (.long (x0.toInt64)), .second, .val (.long (x1.toInt64)), .second, .val (.long (x2.toInt64)), .second, .val (.long (x3.toInt64)), .second, .val (.ref b), .unset, .unset] [(.int (0 : Int32)), (.ref b)])) _
      refine XS.iload X1.here hx rfl (hb hby at_67) rfl ?_
      show Steps p.tables e below (T1.setTop (mkF m 69 #[.val (.int p1), .val (.int p2), .val (.int p3), .val (.int p4), .val (.int p5), .val (.int (2 : Int32)), .val (.int x0), .val (.int x1), .val (.int x2), .val (.int x3), .val (.long (x0.toInt64)), .second, .val (.long (x1.toInt64)), .second, .val (.long (x2.toInt64)), .second, .val (.long (x3.toInt64)), .second, .val (.ref b), .unset, .unset] [(.int x0), (.int (0 : Int32)), (.ref b)])) _
      refine st2 _ ?_
      show Steps p.tables e below (T2.setTop (mkF m 70 #[.val (.int p1), .val (.int p2), .val (.int p3), .val (.int p4), .val (.int p5), .val (.int (2 : Int32)), .val (.int x0), .val (.int x1), .val (.int x2), .val (.int x3), .val (.long (x0.toInt64)), .second, .val (.long (x1.toInt64)), .second, .val (.long (x2.toInt64)), .second, .val (.long (x3.toInt64)), .second, .val (.ref b), .unset, .unset] [])) _
      refine XS.iload X2.here hx rfl (hb hby at_70) rfl ?_
      show Steps p.tables e below (T2.setTop (mkF m 72 #[.val (.int p1), .val (.int p2), .val (.int p3), .val (.int p4), .val (.int p5), .val (.int (2 : Int32)), .val (.int x0), .val (.int x1), .val (.int x2), .val (.int x3), .val (.long (x0.toInt64)), .second, .val (.long (x1.toInt64)), .second, .val (.long (x2.toInt64)), .second, .val (.long (x3.toInt64)), .second, .val (.ref b), .unset, .unset] [(.int (2 : Int32))])) _
      refine XS.iconst X2.here hx rfl (hb hby at_72) ?_
      show Steps p.tables e below (T2.setTop (mkF m 73 #[.val (.int p1), .val (.int p2), .val (.int p3), .val (.int p4), .val (.int p5), .val (.int (2 : Int32)), .val (.int x0), .val (.int x1), .val (.int x2), .val (.int x3), .val (.long (x0.toInt64)), .second, .val (.long (x1.toInt64)), .second, .val (.long (x2.toInt64)), .second, .val (.long (x3.toInt64)), .second, .val (.ref b), .unset, .unset] [(.int (1 : Int32)), (.int (2 : Int32))])) _
      refine XS.icmpNo X2.here hx rfl (hb hby at_73) rfl (tlt (by decide : (1 : Int32) < (2 : Int32))).2.2.2 ?_
      show Steps p.tables e below (T2.setTop (mkF m 76 #[.val (.int p1), .val (.int p2), .val (.int p3), .val (.int p4), .val (.int p5), .val (.int (2 : Int32)), .val (.int x0), .val (.int x1), .val (.int x2), .val (.int x3), .val (.long (x0.toInt64)), .second, .val (.long (x1.toInt64)), .second, .val (.long (x2.toInt64)), .second, .val (.long (x3.toInt64)), .second, .val (.ref b), .unset, .unset] [])) _
      refine XS.aload X2.here hx rfl (hb hby at_76) rfl rfl ?_
      show Steps p.tables e below (T2.setTop (mkF m 78 #[.val (.int p1), .val (.int p2), .val (.int p3), .val (.int p4), .val (.int p5), .val (.int (2 : Int32)), .val (.int x0), .val (.int x1), .val (.int x2), .val (.int x3), .val (.long (x0.toInt64)), .second, .val (.long (x1.toInt64)), .second, .val (.long (x2.toInt64)), .second, .val (.long (x3.toInt64)), .second, .val (.ref b), .unset, .unset] [(.ref b)])) _
      refine XS.iconst X2.here hx rfl (hb hby at_78) ?_
      show Steps p.tables e below (T2.setTop (mkF m 79 #[.val (.int p1), .val (.int p2), .val (.int p3), .val (.int p4), .val (.int p5), .val (.int (2 : Int32)), .val (.int x0), .val (.int x1), .val (.int x2), .val (.int x3), .val (.long (x0.toInt64)), .second, .val (.long (x1.toInt64)), .second, .val (.long (x2.toInt64)), .second, .val (.long (x3.toInt64)), .second, .val (.ref b), .unset, .unset] [(.int (1 : Int32)), (.ref b)])) _
      refine XS.iload X2.here hx rfl (hb hby at_79) rfl ?_
      show Steps p.tables e below (T2.setTop (mkF m 81 #[.val (.int p1), .val (.int p2), .val (.int p3), .val (.int p4), .val (.int p5), .val (.int (2 : Int32)), .val (.int x0), .val (.int x1), .val (.int x2), .val (.int x3), .val (.long (x0.toInt64)), .second, .val (.long (x1.toInt64)), .second, .val (.long (x2.toInt64)), .second, .val (.long (x3.toInt64)), .second, .val (.ref b), .unset, .unset] [(.int x1), (.int (1 : Int32)), (.ref b)])) _
      refine st3 _ ?_
      show Steps p.tables e below (T3.setTop (mkF m 82 #[.val (.int p1), .val (.int p2), .val (.int p3), .val (.int p4), .val (.int p5), .val (.int (2 : Int32)), .val (.int x0), .val (.int x1), .val (.int x2), .val (.int x3), .val (.long (x0.toInt64)), .second, .val (.long (x1.toInt64)), .second, .val (.long (x2.toInt64)), .second, .val (.long (x3.toInt64)), .second, .val (.ref b), .unset, .unset] [])) _
      refine XS.iload X3.here hx rfl (hb hby at_82) rfl ?_
      show Steps p.tables e below (T3.setTop (mkF m 84 #[.val (.int p1), .val (.int p2), .val (.int p3), .val (.int p4), .val (.int p5), .val (.int (2 : Int32)), .val (.int x0), .val (.int x1), .val (.int x2), .val (.int x3), .val (.long (x0.toInt64)), .second, .val (.long (x1.toInt64)), .second, .val (.long (x2.toInt64)), .second, .val (.long (x3.toInt64)), .second, .val (.ref b), .unset, .unset] [(.int (2 : Int32))])) _
      refine XS.iconst X3.here hx rfl (hb hby at_84) ?_
      show Steps p.tables e below (T3.setTop (mkF m 85 #[.val (.int p1), .val (.int p2), .val (.int p3), .val (.int p4), .val (.int p5), .val (.int (2 : Int32)), .val (.int x0), .val (.int x1), .val (.int x2), .val (.int x3), .val (.long (x0.toInt64)), .second, .val (.long (x1.toInt64)), .second, .val (.long (x2.toInt64)), .second, .val (.long (x3.toInt64)), .second, .val (.ref b), .unset, .unset] [(.int (2 : Int32)), (.int (2 : Int32))])) _
      refine XS.icmpYes X3.here hx rfl (pc0 := 85) (pc' := 94) rfl (hb hby at_85) rfl (flt (by decide : ¬ ((2 : Int32) < (2 : Int32)))).2.2.2 (by decide) (by decide) ?_
      show Steps p.tables e below (T3.setTop (mkF m 94 #[.val (.int p1), .val (.int p2), .val (.int p3), .val (.int p4), .val (.int p5), .val (.int (2 : Int32)), .val (.int x0), .val (.int x1), .val (.int x2), .val (.int x3), .val (.long (x0.toInt64)), .second, .val (.long (x1.toInt64)), .second, .val (.long (x2.toInt64)), .second, .val (.long (x3.toInt64)), .second, .val (.ref b), .unset, .unset] [])) _
      refine XS.iload X3.here hx rfl (hb hby at_94) rfl ?_
      show Steps p.tables e below (T3.setTop (mkF m 96 #[.val (.int p1), .val (.int p2), .val (.int p3), .val (.int p4), .val (.int p5), .val (.int (2 : Int32)), .val (.int x0), .val (.int x1), .val (.int x2), .val (.int x3), .val (.long (x0.toInt64)), .second, .val (.long (x1.toInt64)), .second, .val (.long (x2.toInt64)), .second, .val (.long (x3.toInt64)), .second, .val (.ref b), .unset, .unset] [(.int (2 : Int32))])) _
      refine XS.iconst X3.here hx rfl (hb hby at_96) ?_
      show Steps p.tables e below (T3.setTop (mkF m 97 #[.val (.int p1), .val (.int p2), .val (.int p3), .val (.int p4), .val (.int p5), .val (.int (2 : Int32)), .val (.int x0), .val (.int x1), .val (.int x2), .val (.int x3), .val (.long (x0.toInt64)), .second, .val (.long (x1.toInt64)), .second, .val (.long (x2.toInt64)), .second, .val (.long (x3.toInt64)), .second, .val (.ref b), .unset, .unset] [(.int (3 : Int32)), (.int (2 : Int32))])) _
      refine XS.icmpYes X3.here hx rfl (pc0 := 97) (pc' := 106) rfl (hb hby at_97) rfl (flt (by decide : ¬ ((3 : Int32) < (2 : Int32)))).2.2.2 (by decide) (by decide) ?_
      show Steps p.tables e below (T3.setTop (mkF m 106 #[.val (.int p1), .val (.int p2), .val (.int p3), .val (.int p4), .val (.int p5), .val (.int (2 : Int32)), .val (.int x0), .val (.int x1), .val (.int x2), .val (.int x3), .val (.long (x0.toInt64)), .second, .val (.long (x1.toInt64)), .second, .val (.long (x2.toInt64)), .second, .val (.long (x3.toInt64)), .second, .val (.ref b), .unset, .unset] [])) _
      refine XS.aload X3.here hx rfl (hb hby at_106) rfl rfl ?_
      show Steps p.tables e below (T3.setTop (mkF m 108 #[.val (.int p1), .val (.int p2), .val (.int p3), .val (.int p4), .val (.int p5), .val (.int (2 : Int32)), .val (.int x0), .val (.int x1), .val (.int x2), .val (.int x3), .val (.long (x0.toInt64)), .second, .val (.long (x1.toInt64)), .second, .val (.long (x2.toInt64)), .second, .val (.long (x3.toInt64)), .second, .val (.ref b), .unset, .unset] [(.ref b)])) _
      refine st4 _ ?_
      show Steps p.tables e below (T4.setTop (mkF m 111 #[.val (.int p1), .val (.int p2), .val (.int p3), .val (.int p4), .val (.int p5), .val (.int (2 : Int32)), .val (.int x0), .val (.int x1), .val (.int x2), .val (.int x3), .val (.long (x0.toInt64)), .second, .val (.long (x1.toInt64)), .second, .val (.long (x2.toInt64)), .second, .val (.long (x3.toInt64)), .second, .val (.ref b), .unset, .unset] [(.ref r)])) _
      refine XS.astore X4.here hx rfl (hb hby at_111) rfl rfl (l' := #[.val (.int p1), .val (.int p2), .val (.int p3), .val (.int p4), .val (.int p5), .val (.int (2 : Int32)), .val (.int x0), .val (.int x1), .val (.int x2), .val (.int x3), .val (.long (x0.toInt64)), .second, .val (.long (x1.toInt64)), .second, .val (.long (x2.toInt64)), .second, .val (.long (x3.toInt64)), .second, .val (.ref b), .val (.ref r), .unset]) rfl ?_
      show Steps p.tables e below (T4.setTop (mkF m 113 #[.val (.int p1), .val (.int p2), .val (.int p3), .val (.int p4), .val (.int p5), .val (.int (2 : Int32)), .val (.int x0), .val (.int x1), .val (.int x2), .val (.int x3), .val (.long (x0.toInt64)), .second, .val (.long (x1.toInt64)), .second, .val (.long (x2.toInt64)), .second, .val (.long (x3.toInt64)), .second, .val (.ref b), .val (.ref r), .unset] [])) _
      refine XS.aload X4.here hx rfl (hb hby at_113) rfl rfl ?_
      show Steps p.tables e below (T4.setTop (mkF m 115 #[.val (.int p1), .val (.int p2), .val (.int p3), .val (.int p4), .val (.int p5), .val (.int (2 : Int32)), .val (.int x0), .val (.int x1), .val (.int x2), .val (.int x3), .val (.long (x0.toInt64)), .second, .val (.long (x1.toInt64)), .second, .val (.long (x2.toInt64)), .second, .val (.long (x3.toInt64)), .second, .val (.ref b), .val (.ref r), .unset] [(.ref r)])) _
      refine XS.ifnullNo X4.here hx rfl (hb hby at_115) rfl ?_
      show Steps p.tables e below (T4.setTop (mkF m 118 #[.val (.int p1), .val (.int p2), .val (.int p3), .val (.int p4), .val (.int p5), .val (.int (2 : Int32)), .val (.int x0), .val (.int x1), .val (.int x2), .val (.int x3), .val (.long (x0.toInt64)), .second, .val (.long (x1.toInt64)), .second, .val (.long (x2.toInt64)), .second, .val (.long (x3.toInt64)), .second, .val (.ref b), .val (.ref r), .unset] [])) _
      refine XS.aload X4.here hx rfl (hb hby at_118) rfl rfl ?_
      show Steps p.tables e below (T4.setTop (mkF m 120 #[.val (.int p1), .val (.int p2), .val (.int p3), .val (.int p4), .val (.int p5), .val (.int (2 : Int32)), .val (.int x0), .val (.int x1), .val (.int x2), .val (.int x3), .val (.long (x0.toInt64)), .second, .val (.long (x1.toInt64)), .second, .val (.long (x2.toInt64)), .second, .val (.long (x3.toInt64)), .second, .val (.ref b), .val (.ref r), .unset] [(.ref r)])) _
      refine X4.arraylength hx (cell := cr) Arr_.1 (State.isArrayOf_alike hZ.alike Arr_.2.1) (g := (mkF m 120 #[.val (.int p1), .val (.int p2), .val (.int p3), .val (.int p4), .val (.int p5), .val (.int (2 : Int32)), .val (.int x0), .val (.int x1), .val (.int x2), .val (.int x3), .val (.long (x0.toInt64)), .second, .val (.long (x1.toInt64)), .second, .val (.long (x2.toInt64)), .second, .val (.long (x3.toInt64)), .second, .val (.ref b), .val (.ref r), .unset] [(.ref r)])) rfl rfl (hb hby at_120) _ ?_
      rw [show cr.slots.size.toInt32 = (2 : Int32) from own_len Szr]
      show Steps p.tables e below (T4.setTop (mkF m 121 #[.val (.int p1), .val (.int p2), .val (.int p3), .val (.int p4), .val (.int p5), .val (.int (2 : Int32)), .val (.int x0), .val (.int x1), .val (.int x2), .val (.int x3), .val (.long (x0.toInt64)), .second, .val (.long (x1.toInt64)), .second, .val (.long (x2.toInt64)), .second, .val (.long (x3.toInt64)), .second, .val (.ref b), .val (.ref r), .unset] [(.int (2 : Int32))])) _
      refine XS.iload X4.here hx rfl (hb hby at_121) rfl ?_
      show Steps p.tables e below (T4.setTop (mkF m 123 #[.val (.int p1), .val (.int p2), .val (.int p3), .val (.int p4), .val (.int p5), .val (.int (2 : Int32)), .val (.int x0), .val (.int x1), .val (.int x2), .val (.int x3), .val (.long (x0.toInt64)), .second, .val (.long (x1.toInt64)), .second, .val (.long (x2.toInt64)), .second, .val (.long (x3.toInt64)), .second, .val (.ref b), .val (.ref r), .unset] [(.int (2 : Int32)), (.int (2 : Int32))])) _
      refine XS.icmpYes X4.here hx rfl (pc0 := 123) (pc' := 128) rfl (hb hby at_123) rfl (teq (rfl : (2 : Int32) = (2 : Int32))).1 (by decide) (by decide) ?_
      show Steps p.tables e below (T4.setTop (mkF m 128 #[.val (.int p1), .val (.int p2), .val (.int p3), .val (.int p4), .val (.int p5), .val (.int (2 : Int32)), .val (.int x0), .val (.int x1), .val (.int x2), .val (.int x3), .val (.long (x0.toInt64)), .second, .val (.long (x1.toInt64)), .second, .val (.long (x2.toInt64)), .second, .val (.long (x3.toInt64)), .second, .val (.ref b), .val (.ref r), .unset] [])) _
      refine XS.iconst X4.here hx rfl (hb hby at_128) ?_
      show Steps p.tables e below (T4.setTop (mkF m 129 #[.val (.int p1), .val (.int p2), .val (.int p3), .val (.int p4), .val (.int p5), .val (.int (2 : Int32)), .val (.int x0), .val (.int x1), .val (.int x2), .val (.int x3), .val (.long (x0.toInt64)), .second, .val (.long (x1.toInt64)), .second, .val (.long (x2.toInt64)), .second, .val (.long (x3.toInt64)), .second, .val (.ref b), .val (.ref r), .unset] [(.int (1 : Int32))])) _
      refine XS.istore X4.here hx rfl (hb hby at_129) rfl (l' := #[.val (.int p1), .val (.int p2), .val (.int p3), .val (.int p4), .val (.int p5), .val (.int (2 : Int32)), .val (.int x0), .val (.int x1), .val (.int x2), .val (.int x3), .val (.long (x0.toInt64)), .second, .val (.long (x1.toInt64)), .second, .val (.long (x2.toInt64)), .second, .val (.long (x3.toInt64)), .second, .val (.ref b), .val (.ref r), .val (.int (1 : Int32))]) rfl ?_
      show Steps p.tables e below (T4.setTop (mkF m 131 #[.val (.int p1), .val (.int p2), .val (.int p3), .val (.int p4), .val (.int p5), .val (.int (2 : Int32)), .val (.int x0), .val (.int x1), .val (.int x2), .val (.int x3), .val (.long (x0.toInt64)), .second, .val (.long (x1.toInt64)), .second, .val (.long (x2.toInt64)), .second, .val (.long (x3.toInt64)), .second, .val (.ref b), .val (.ref r), .val (.int (1 : Int32))] [])) _
      refine sg_0 p1 p2 p3 p4 p5 (2 : Int32) x0 x1 x2 x3 b r 2 X4 hx hZ hw hby hown rfl x4v c4_V_b (by decide) (by decide) _ ?_
      show Steps p.tables e below (T4.setTop (mkF m 167 #[.val (.int p1), .val (.int p2), .val (.int p3), .val (.int p4), .val (.int p5), .val (.int (2 : Int32)), .val (.int x0), .val (.int x1), .val (.int x2), .val (.int x3), .val (.long (x0.toInt64)), .second, .val (.long (x1.toInt64)), .second, .val (.long (x2.toInt64)), .second, .val (.long (x3.toInt64)), .second, .val (.ref b), .val (.ref r), .val (.int (1 : Int32))] [])) _
      refine sg_1 p1 p2 p3 p4 p5 (2 : Int32) x0 x1 x2 x3 b r 2 X4 hx hZ hw hby hown rfl x4v c4_V_b (by decide) (by decide) _ ?_
      show Steps p.tables e below (T4.setTop (mkF m 207 #[.val (.int p1), .val (.int p2), .val (.int p3), .val (.int p4), .val (.int p5), .val (.int (2 : Int32)), .val (.int x0), .val (.int x1), .val (.int x2), .val (.int x3), .val (.long (x0.toInt64)), .second, .val (.long (x1.toInt64)), .second, .val (.long (x2.toInt64)), .second, .val (.long (x3.toInt64)), .second, .val (.ref b), .val (.ref r), .val (.int (1 : Int32))] [])) _
      refine XS.iload X4.here hx rfl (hb hby at_207) rfl ?_
      show Steps p.tables e below (T4.setTop (mkF m 209 #[.val (.int p1), .val (.int p2), .val (.int p3), .val (.int p4), .val (.int p5), .val (.int (2 : Int32)), .val (.int x0), .val (.int x1), .val (.int x2), .val (.int x3), .val (.long (x0.toInt64)), .second, .val (.long (x1.toInt64)), .second, .val (.long (x2.toInt64)), .second, .val (.long (x3.toInt64)), .second, .val (.ref b), .val (.ref r), .val (.int (1 : Int32))] [(.int (2 : Int32))])) _
      refine XS.iconst X4.here hx rfl (hb hby at_209) ?_
      show Steps p.tables e below (T4.setTop (mkF m 210 #[.val (.int p1), .val (.int p2), .val (.int p3), .val (.int p4), .val (.int p5), .val (.int (2 : Int32)), .val (.int x0), .val (.int x1), .val (.int x2), .val (.int x3), .val (.long (x0.toInt64)), .second, .val (.long (x1.toInt64)), .second, .val (.long (x2.toInt64)), .second, .val (.long (x3.toInt64)), .second, .val (.ref b), .val (.ref r), .val (.int (1 : Int32))] [(.int (2 : Int32)), (.int (2 : Int32))])) _
      refine XS.icmpYes X4.here hx rfl (pc0 := 210) (pc' := 250) rfl (hb hby at_210) rfl (flt (by decide : ¬ ((2 : Int32) < (2 : Int32)))).2.2.2 (by decide) (by decide) ?_
      show Steps p.tables e below (T4.setTop (mkF m 250 #[.val (.int p1), .val (.int p2), .val (.int p3), .val (.int p4), .val (.int p5), .val (.int (2 : Int32)), .val (.int x0), .val (.int x1), .val (.int x2), .val (.int x3), .val (.long (x0.toInt64)), .second, .val (.long (x1.toInt64)), .second, .val (.long (x2.toInt64)), .second, .val (.long (x3.toInt64)), .second, .val (.ref b), .val (.ref r), .val (.int (1 : Int32))] [])) _
      refine XS.iload X4.here hx rfl (hb hby at_250) rfl ?_
      show Steps p.tables e below (T4.setTop (mkF m 252 #[.val (.int p1), .val (.int p2), .val (.int p3), .val (.int p4), .val (.int p5), .val (.int (2 : Int32)), .val (.int x0), .val (.int x1), .val (.int x2), .val (.int x3), .val (.long (x0.toInt64)), .second, .val (.long (x1.toInt64)), .second, .val (.long (x2.toInt64)), .second, .val (.long (x3.toInt64)), .second, .val (.ref b), .val (.ref r), .val (.int (1 : Int32))] [(.int (2 : Int32))])) _
      refine XS.iconst X4.here hx rfl (hb hby at_252) ?_
      show Steps p.tables e below (T4.setTop (mkF m 253 #[.val (.int p1), .val (.int p2), .val (.int p3), .val (.int p4), .val (.int p5), .val (.int (2 : Int32)), .val (.int x0), .val (.int x1), .val (.int x2), .val (.int x3), .val (.long (x0.toInt64)), .second, .val (.long (x1.toInt64)), .second, .val (.long (x2.toInt64)), .second, .val (.long (x3.toInt64)), .second, .val (.ref b), .val (.ref r), .val (.int (1 : Int32))] [(.int (3 : Int32)), (.int (2 : Int32))])) _
      refine XS.icmpYes X4.here hx rfl (pc0 := 253) (pc' := 296) rfl (hb hby at_253) rfl (flt (by decide : ¬ ((3 : Int32) < (2 : Int32)))).2.2.2 (by decide) (by decide) ?_
      show Steps p.tables e below (T4.setTop (mkF m 296 #[.val (.int p1), .val (.int p2), .val (.int p3), .val (.int p4), .val (.int p5), .val (.int (2 : Int32)), .val (.int x0), .val (.int x1), .val (.int x2), .val (.int x3), .val (.long (x0.toInt64)), .second, .val (.long (x1.toInt64)), .second, .val (.long (x2.toInt64)), .second, .val (.long (x3.toInt64)), .second, .val (.ref b), .val (.ref r), .val (.int (1 : Int32))] [])) _
      refine XS.iload X4.here hx rfl (hb hby at_296) rfl ?_
      show Steps p.tables e below (T4.setTop (mkF m 298 #[.val (.int p1), .val (.int p2), .val (.int p3), .val (.int p4), .val (.int p5), .val (.int (2 : Int32)), .val (.int x0), .val (.int x1), .val (.int x2), .val (.int x3), .val (.long (x0.toInt64)), .second, .val (.long (x1.toInt64)), .second, .val (.long (x2.toInt64)), .second, .val (.long (x3.toInt64)), .second, .val (.ref b), .val (.ref r), .val (.int (1 : Int32))] [(.int (1 : Int32))])) _
      exact retN X4 hx (t := .boolean) Bd.returns (by simp) (hb hby at_298) hr
    · show Q0 Z p1 p2 p3 p4 p5 h0 n0 _ T4.heap _
      exact ⟨rfl, N4⟩
  · obtain ⟨T1, h1, k1, X1, e1, E1, A1, st1⟩ := newP X0 hx hZ (hw _ (List.mem_of_getElem? (i := 1) rfl)) e0 (g := (mkF m 55 #[.val (.int p1), .val (.int p2), .val (.int p3), .val (.int p4), .val (.int p5), .val (.int (3 : Int32)), .val (.int x0), .val (.int x1), .val (.int x2), .val (.int x3), .val (.long (x0.toInt64)), .second, .val (.long (x1.toInt64)), .second, .val (.long (x2.toInt64)), .second, .val (.long (x3.toInt64)), .second, .unset, .unset, .unset] [(.int (3 : Int32))])) rfl (hb hby at_55) rfl (by decide) (cap := 3) (by decide) (by decide) (by decide) (by decide)
    obtain ⟨b, g1⟩ : ∃ z, z = h0.size := ⟨_, rfl⟩
    have g_b : n0 ≤ b := Nat.le_trans Z0 (Nat.le_of_eq g1.symm)
    rw [← g1] at A1 st1
    have V1 := own_A.new (n := 3) A1 (by decide)
    obtain ⟨cl0, Ar0, Sz0, Hs0⟩ := id V1
    obtain ⟨T2, h2, X2, e2, W2, st2⟩ := stI X1 hx hZ e1 Ar0 (j := (0 : Int32)) (own_in (k := 0) Sz0 (by decide) rfl (by decide)) (g := (mkF m 69 #[.val (.int p1), .val (.int p2), .val (.int p3), .val (.int p4), .val (.int p5), .val (.int (3 : Int32)), .val (.int x0), .val (.int x1), .val (.int x2), .val (.int x3), .val (.long (x0.toInt64)), .second, .val (.long (x1.toInt64)), .second, .val (.long (x2.toInt64)), .second, .val (.long (x3.toInt64)), .second, .val (.ref b), .unset, .unset] [(.int x0), (.int (0 : Int32)), (.ref b)])) rfl rfl (hb hby at_69)
    have N2 := Fr.snoc X2 N0 g_b
    have V2 := V1.set (k := 0) (by decide) W2
    obtain ⟨cl1, Ar1, Sz1, Hs1⟩ := id V2
    obtain ⟨T3, h3, X3, e3, W3, st3⟩ := stI X2 hx hZ e2 Ar1 (j := (1 : Int32)) (own_in (k := 1) Sz1 (by decide) rfl (by decide)) (g := (mkF m 81 #[.val (.int p1), .val (.int p2), .val (.int p3), .val (.int p4), .val (.int p5), .val (.int (3 : Int32)), .val (.int x0), .val (.int x1), .val (.int x2), .val (.int x3), .val (.long (x0.toInt64)), .second, .val (.long (x1.toInt64)), .second, .val (.long (x2.toInt64)), .second, .val (.long (x3.toInt64)), .second, .val (.ref b), .unset, .unset] [(.int x1), (.int (1 : Int32)), (.ref b)])) rfl rfl (hb hby at_81)
    have N3 := Fr.snoc X3 N2 g_b
    have V3 := V2.set (k := 1) (by decide) W3
    obtain ⟨cl2, Ar2, Sz2, Hs2⟩ := id V3
    obtain ⟨T4, h4, X4, e4, W4, st4⟩ := stI X3 hx hZ e3 Ar2 (j := (2 : Int32)) (own_in (k := 2) Sz2 (by decide) rfl (by decide)) (g := (mkF m 93 #[.val (.int p1), .val (.int p2), .val (.int p3), .val (.int p4), .val (.int p5), .val (.int (3 : Int32)), .val (.int x0), .val (.int x1), .val (.int x2), .val (.int x3), .val (.long (x0.toInt64)), .second, .val (.long (x1.toInt64)), .second, .val (.long (x2.toInt64)), .second, .val (.long (x3.toInt64)), .second, .val (.ref b), .unset, .unset] [(.int x2), (.int (2 : Int32)), (.ref b)])) rfl rfl (hb hby at_93)
    have N4 := Fr.snoc X4 N3 g_b
    have V4 := V3.set (k := 2) (by decide) W4
    have VF : own_A Z h4 b .int 3 (fun j => .int (own_g x0 x1 x2 x3 j)) := V4.alike (fun j hj => by
      have hj7 : j = 0 ∨ j = 1 ∨ j = 2 := by omega
      rcases hj7 with rfl | rfl | rfl <;> rfl)
    obtain ⟨_, _, ⟨T5, L5, k5, n5⟩, -, X5, ⟨Lc5, hQ5, l5, y5, z5⟩, st5⟩ := Jvm.LawKit.callS X4 hx (y := (⟨"com/example/redoubt/redoubt/Weight", "sums", "([I)[J"⟩ : MethodName)) hown (mvT hZ (hw _ (List.mem_of_getElem? (i := 2) rfl))) (mvT hZ (hw _ (List.mem_of_getElem? (i := 3) rfl))) (mvT hZ (hw _ (List.mem_of_getElem? (i := 4) rfl))) (mvT hZ (hw _ (List.mem_of_getElem? (i := 5) rfl))) (by decide) (backOf (W := 0) (rm1 l Z a0 hw [] b 3 (own_g x0 x1 x2 x3) h4 n0 (Nat.le_trans (Nat.le_trans (Nat.le_trans (Nat.le_trans Z0 E1.1) (Keep.of_wr W2).1) (Keep.of_wr W3).1) (Keep.of_wr W4).1) (by decide) VF) hZ (hw _ (List.mem_of_getElem? (i := 5) rfl)) (hw _ (List.mem_of_getElem? (i := 4) rfl)) (by decide) (by decide)) (g := (mkF m 108 #[.val (.int p1), .val (.int p2), .val (.int p3), .val (.int p4), .val (.int p5), .val (.int (3 : Int32)), .val (.int x0), .val (.int x1), .val (.int x2), .val (.int x3), .val (.long (x0.toInt64)), .second, .val (.long (x1.toInt64)), .second, .val (.long (x2.toInt64)), .second, .val (.long (x3.toInt64)), .second, .val (.ref b), .unset, .unset] [(.ref b)])) rfl (by rw [hml]; rfl) (argsL := [(.ref b)]) (rest := []) (lenOf pdx_0 rfl) rfl (by show 2 * 0 + _ ≤ _; exact Nat.le_of_eq rfl) (hb hby at_108) (fun _ _ => ⟨rfl, e4, (by decide : 1 + 1 ≤ _), (by decide : 3 + 4 ≤ _)⟩)
    dsimp only [Pt.U, Pt.locs, Pt.cells, Pt.slots] at X5 l5 y5 z5 st5 hQ5
    subst l5 y5 z5
    obtain ⟨rfl, N5q, K5, x5v⟩ := hQ5
    have N5 := Fr.app N4 N5q
    obtain ⟨r, gr⟩ : ∃ z, z = h4.size := ⟨_, rfl⟩
    rw [← gr] at x5v st5
    have c5_V_b := VF.keep K5 nin0
    obtain ⟨cr, Arr_, Szr, Hsr⟩ := id x5v
    obtain ⟨fs, hr, hrun, hended, hW, hsame⟩ := X5.leave (v := some (.int (1 : Int32))) (fun h => by rw [Bd.returns] at h; cases h)
    refine ⟨_, _, pre0 _ ?_, hrun, hended, _, _, rfl, ?_, ⟨_, rfl⟩, hW, hsame.mono (by decide) (by decide)⟩
    · show Steps p.tables e below (s₁.setTop (mkF m 0 #[.val (.int p1), .val (.int p2), .val (.int p3), .val (.int p4), .val (.int p5), .unset, .unset, .unset, .unset, .unset, .unset, .unset, .unset, .unset, .unset, .unset, .unset, .unset, .unset, .unset, .unset] [])) _
      refine sg0 _ ?_
      show Steps p.tables e below (s₁.setTop (mkF m 53 #[.val (.int p1), .val (.int p2), .val (.int p3), .val (.int p4), .val (.int p5), .val (.int (3 : Int32)), .val (.int x0), .val (.int x1), .val (.int x2), .val (.int x3), .val (.long (x0.toInt64)), .second, .val (.long (x1.toInt64)), .second, .val (.long (x2.toInt64)), .second, .val (.long (x3.toInt64)), .second, .unset, .unset, .unset] [])) _
      refine XS.iload X0.here hx rfl (hb hby at_53) rfl ?_
      show Steps p.tables e below (s₁.setTop (mkF m 55 #[.val (.int p1), .val (.int p2), .val (.int p3), .val (.int p4), .val (.int p5), .val (.int (3 : Int32)), .val (.int x0), .val (.int x1), .val (.int x2), .val (.int x3), .val (.long (x0.toInt64)), .second, .val (.long (x1.toInt64)), .second, .val (.long (x2.toInt64)), .second, .val (.long (x3.toInt64)), .second, .unset, .unset, .unset] [(.int (3 : Int32))])) _
      refine st1 _ ?_
      show Steps p.tables e below (T1.setTop (mkF m 57 #[.val (.int p1), .val (.int p2), .val (.int p3), .val (.int p4), .val (.int p5), .val (.int (3 : Int32)), .val (.int x0), .val (.int x1), .val (.int x2), .val (.int x3), .val (.long (x0.toInt64)), .second, .val (.long (x1.toInt64)), .second, .val (.long (x2.toInt64)), .second, .val (.long (x3.toInt64)), .second, .unset, .unset, .unset] [(.ref b)])) _
      refine XS.astore X1.here hx rfl (hb hby at_57) rfl rfl (l' := #[.val (.int p1), .val (.int p2), .val (.int p3), .val (.int p4), .val (.int p5), .val (.int (3 : Int32)), .val (.int x0), .val (.int x1), .val (.int x2), .val (.int x3), .val (.long (x0.toInt64)), .second, .val (.long (x1.toInt64)), .second, .val (.long (x2.toInt64)), .second, .val (.long (x3.toInt64)), .second, .val (.ref b), .unset, .unset]) rfl ?_
      show Steps p.tables e below (T1.setTop (mkF m 59 #[.val (.int p1), .val (.int p2), .val (.int p3), .val (.int p4), .val (.int p5), .val (.int (3 : Int32)), .val (.int x0), .val (.int x1), .val (.int x2), .val (.int x3), .val (.long (x0.toInt64)), .second, .val (.long (x1.toInt64)), .second, .val (.long (x2.toInt64)), .second, .val (.long (x3.toInt64)), .second, .val (.ref b), .unset, .unset] [])) _
      refine XS.iload X1.here hx rfl (hb hby at_59) rfl ?_
      show Steps p.tables e below (T1.setTop (mkF m 61 #[.val (.int p1), .val (.int p2), .val (.int p3), .val (.int p4), .val (.int p5), .val (.int (3 : Int32)), .val (.int x0), .val (.int x1), .val (.int x2), .val (.int x3), .val (.long (x0.toInt64)), .second, .val (.long (x1.toInt64)), .second, .val (.long (x2.toInt64)), .second, .val (.long (x3.toInt64)), .second, .val (.ref b), .unset, .unset] [(.int (3 : Int32))])) _
      refine XS.ifNo X1.here hx rfl (hb hby at_61) rfl ((if0 _ _).trans (tlt (by decide : (0 : Int32) < (3 : Int32))).2.2.2) ?_
      show Steps p.tables e below (T1.setTop (mkF m 64 #[.val (.int p1), .val (.int p2), .val (.int p3), .val (.int p4), .val (.int p5), .val (.int (3 : Int32)), .val (.int x0), .val (.int x1), .val (.int x2), .val (.int x3), .val (.long (x0.toInt64)), .second, .val (.long (x1.toInt64)), .second, .val (.long (x2.toInt64)), .second, .val (.long (x3.toInt64)), .second, .val (.ref b), .unset, .unset] [])) _
      refine XS.aload X1.here hx rfl (hb hby at_64) rfl rfl ?_
      show Steps p.tables e below (T1.setTop (mkF m 66 #[.val (.int p1), .val (.int p2), .val (.int p3), .val (.int p4), .val (.int p5), .val (.int (3 : Int32)), .val (.int x0), .val (.int x1), .val (.int x2), .val (.int x3), .val (.long (x0.toInt64)), .second, .val (.long (x1.toInt64)), .second, .val (.long (x2.toInt64)), .second, .val (.long (x3.toInt64)), .second, .val (.ref b), .unset, .unset] [(.ref b)])) _
      refine XS.iconst X1.here hx rfl (hb hby at_66) ?_
      show Steps p.tables e below (T1.setTop (mkF m 67 #[.val (.int p1), .val (.int p2), .val (.int p3), .val (.int p4), .val (.int p5), .val (.int (3 : Int32)), .val (.int x0), .val (.int x1), .val (.int x2), .val (.int x3), .val (.long (x0.toInt64)), .second, .val (.long (x1.toInt64)), .second, .val (.long (x2.toInt64)), .second, .val (.long (x3.toInt64)), .second, .val (.ref b), .unset, .unset] [(.int (0 : Int32)), (.ref b)])) _
      refine XS.iload X1.here hx rfl (hb hby at_67) rfl ?_
      show Steps p.tables e below (T1.setTop (mkF m 69 #[.val (.int p1), .val (.int p2), .val (.int p3), .val (.int p4), .val (.int p5), .val (.int (3 : Int32)), .val (.int x0), .val (.int x1), .val (.int x2), .val (.int x3), .val (.long (x0.toInt64)), .second, .val (.long (x1.toInt64)), .second, .val (.long (x2.toInt64)), .second, .val (.long (x3.toInt64)), .second, .val (.ref b), .unset, .unset] [(.int x0), (.int (0 : Int32)), (.ref b)])) _
      refine st2 _ ?_
      show Steps p.tables e below (T2.setTop (mkF m 70 #[.val (.int p1), .val (.int p2), .val (.int p3), .val (.int p4), .val (.int p5), .val (.int (3 : Int32)), .val (.int x0), .val (.int x1), .val (.int x2), .val (.int x3), .val (.long (x0.toInt64)), .second, .val (.long (x1.toInt64)), .second, .val (.long (x2.toInt64)), .second, .val (.long (x3.toInt64)), .second, .val (.ref b), .unset, .unset] [])) _
      refine XS.iload X2.here hx rfl (hb hby at_70) rfl ?_
      show Steps p.tables e below (T2.setTop (mkF m 72 #[.val (.int p1), .val (.int p2), .val (.int p3), .val (.int p4), .val (.int p5), .val (.int (3 : Int32)), .val (.int x0), .val (.int x1), .val (.int x2), .val (.int x3), .val (.long (x0.toInt64)), .second, .val (.long (x1.toInt64)), .second, .val (.long (x2.toInt64)), .second, .val (.long (x3.toInt64)), .second, .val (.ref b), .unset, .unset] [(.int (3 : Int32))])) _
      refine XS.iconst X2.here hx rfl (hb hby at_72) ?_
      show Steps p.tables e below (T2.setTop (mkF m 73 #[.val (.int p1), .val (.int p2), .val (.int p3), .val (.int p4), .val (.int p5), .val (.int (3 : Int32)), .val (.int x0), .val (.int x1), .val (.int x2), .val (.int x3), .val (.long (x0.toInt64)), .second, .val (.long (x1.toInt64)), .second, .val (.long (x2.toInt64)), .second, .val (.long (x3.toInt64)), .second, .val (.ref b), .unset, .unset] [(.int (1 : Int32)), (.int (3 : Int32))])) _
      refine XS.icmpNo X2.here hx rfl (hb hby at_73) rfl (tlt (by decide : (1 : Int32) < (3 : Int32))).2.2.2 ?_
      show Steps p.tables e below (T2.setTop (mkF m 76 #[.val (.int p1), .val (.int p2), .val (.int p3), .val (.int p4), .val (.int p5), .val (.int (3 : Int32)), .val (.int x0), .val (.int x1), .val (.int x2), .val (.int x3), .val (.long (x0.toInt64)), .second, .val (.long (x1.toInt64)), .second, .val (.long (x2.toInt64)), .second, .val (.long (x3.toInt64)), .second, .val (.ref b), .unset, .unset] [])) _
      refine XS.aload X2.here hx rfl (hb hby at_76) rfl rfl ?_
      show Steps p.tables e below (T2.setTop (mkF m 78 #[.val (.int p1), .val (.int p2), .val (.int p3), .val (.int p4), .val (.int p5), .val (.int (3 : Int32)), .val (.int x0), .val (.int x1), .val (.int x2), .val (.int x3), .val (.long (x0.toInt64)), .second, .val (.long (x1.toInt64)), .second, .val (.long (x2.toInt64)), .second, .val (.long (x3.toInt64)), .second, .val (.ref b), .unset, .unset] [(.ref b)])) _
      refine XS.iconst X2.here hx rfl (hb hby at_78) ?_
      show Steps p.tables e below (T2.setTop (mkF m 79 #[.val (.int p1), .val (.int p2), .val (.int p3), .val (.int p4), .val (.int p5), .val (.int (3 : Int32)), .val (.int x0), .val (.int x1), .val (.int x2), .val (.int x3), .val (.long (x0.toInt64)), .second, .val (.long (x1.toInt64)), .second, .val (.long (x2.toInt64)), .second, .val (.long (x3.toInt64)), .second, .val (.ref b), .unset, .unset] [(.int (1 : Int32)), (.ref b)])) _
      refine XS.iload X2.here hx rfl (hb hby at_79) rfl ?_
      show Steps p.tables e below (T2.setTop (mkF m 81 #[.val (.int p1), .val (.int p2), .val (.int p3), .val (.int p4), .val (.int p5), .val (.int (3 : Int32)), .val (.int x0), .val (.int x1), .val (.int x2), .val (.int x3), .val (.long (x0.toInt64)), .second, .val (.long (x1.toInt64)), .second, .val (.long (x2.toInt64)), .second, .val (.long (x3.toInt64)), .second, .val (.ref b), .unset, .unset] [(.int x1), (.int (1 : Int32)), (.ref b)])) _
      refine st3 _ ?_
      show Steps p.tables e below (T3.setTop (mkF m 82 #[.val (.int p1), .val (.int p2), .val (.int p3), .val (.int p4), .val (.int p5), .val (.int (3 : Int32)), .val (.int x0), .val (.int x1), .val (.int x2), .val (.int x3), .val (.long (x0.toInt64)), .second, .val (.long (x1.toInt64)), .second, .val (.long (x2.toInt64)), .second, .val (.long (x3.toInt64)), .second, .val (.ref b), .unset, .unset] [])) _
      refine XS.iload X3.here hx rfl (hb hby at_82) rfl ?_
      show Steps p.tables e below (T3.setTop (mkF m 84 #[.val (.int p1), .val (.int p2), .val (.int p3), .val (.int p4), .val (.int p5), .val (.int (3 : Int32)), .val (.int x0), .val (.int x1), .val (.int x2), .val (.int x3), .val (.long (x0.toInt64)), .second, .val (.long (x1.toInt64)), .second, .val (.long (x2.toInt64)), .second, .val (.long (x3.toInt64)), .second, .val (.ref b), .unset, .unset] [(.int (3 : Int32))])) _
      refine XS.iconst X3.here hx rfl (hb hby at_84) ?_
      show Steps p.tables e below (T3.setTop (mkF m 85 #[.val (.int p1), .val (.int p2), .val (.int p3), .val (.int p4), .val (.int p5), .val (.int (3 : Int32)), .val (.int x0), .val (.int x1), .val (.int x2), .val (.int x3), .val (.long (x0.toInt64)), .second, .val (.long (x1.toInt64)), .second, .val (.long (x2.toInt64)), .second, .val (.long (x3.toInt64)), .second, .val (.ref b), .unset, .unset] [(.int (2 : Int32)), (.int (3 : Int32))])) _
      refine XS.icmpNo X3.here hx rfl (hb hby at_85) rfl (tlt (by decide : (2 : Int32) < (3 : Int32))).2.2.2 ?_
      show Steps p.tables e below (T3.setTop (mkF m 88 #[.val (.int p1), .val (.int p2), .val (.int p3), .val (.int p4), .val (.int p5), .val (.int (3 : Int32)), .val (.int x0), .val (.int x1), .val (.int x2), .val (.int x3), .val (.long (x0.toInt64)), .second, .val (.long (x1.toInt64)), .second, .val (.long (x2.toInt64)), .second, .val (.long (x3.toInt64)), .second, .val (.ref b), .unset, .unset] [])) _
      refine XS.aload X3.here hx rfl (hb hby at_88) rfl rfl ?_
      show Steps p.tables e below (T3.setTop (mkF m 90 #[.val (.int p1), .val (.int p2), .val (.int p3), .val (.int p4), .val (.int p5), .val (.int (3 : Int32)), .val (.int x0), .val (.int x1), .val (.int x2), .val (.int x3), .val (.long (x0.toInt64)), .second, .val (.long (x1.toInt64)), .second, .val (.long (x2.toInt64)), .second, .val (.long (x3.toInt64)), .second, .val (.ref b), .unset, .unset] [(.ref b)])) _
      refine XS.iconst X3.here hx rfl (hb hby at_90) ?_
      show Steps p.tables e below (T3.setTop (mkF m 91 #[.val (.int p1), .val (.int p2), .val (.int p3), .val (.int p4), .val (.int p5), .val (.int (3 : Int32)), .val (.int x0), .val (.int x1), .val (.int x2), .val (.int x3), .val (.long (x0.toInt64)), .second, .val (.long (x1.toInt64)), .second, .val (.long (x2.toInt64)), .second, .val (.long (x3.toInt64)), .second, .val (.ref b), .unset, .unset] [(.int (2 : Int32)), (.ref b)])) _
      refine XS.iload X3.here hx rfl (hb hby at_91) rfl ?_
      show Steps p.tables e below (T3.setTop (mkF m 93 #[.val (.int p1), .val (.int p2), .val (.int p3), .val (.int p4), .val (.int p5), .val (.int (3 : Int32)), .val (.int x0), .val (.int x1), .val (.int x2), .val (.int x3), .val (.long (x0.toInt64)), .second, .val (.long (x1.toInt64)), .second, .val (.long (x2.toInt64)), .second, .val (.long (x3.toInt64)), .second, .val (.ref b), .unset, .unset] [(.int x2), (.int (2 : Int32)), (.ref b)])) _
      refine st4 _ ?_
      show Steps p.tables e below (T4.setTop (mkF m 94 #[.val (.int p1), .val (.int p2), .val (.int p3), .val (.int p4), .val (.int p5), .val (.int (3 : Int32)), .val (.int x0), .val (.int x1), .val (.int x2), .val (.int x3), .val (.long (x0.toInt64)), .second, .val (.long (x1.toInt64)), .second, .val (.long (x2.toInt64)), .second, .val (.long (x3.toInt64)), .second, .val (.ref b), .unset, .unset] [])) _
      refine XS.iload X4.here hx rfl (hb hby at_94) rfl ?_
      show Steps p.tables e below (T4.setTop (mkF m 96 #[.val (.int p1), .val (.int p2), .val (.int p3), .val (.int p4), .val (.int p5), .val (.int (3 : Int32)), .val (.int x0), .val (.int x1), .val (.int x2), .val (.int x3), .val (.long (x0.toInt64)), .second, .val (.long (x1.toInt64)), .second, .val (.long (x2.toInt64)), .second, .val (.long (x3.toInt64)), .second, .val (.ref b), .unset, .unset] [(.int (3 : Int32))])) _
      refine XS.iconst X4.here hx rfl (hb hby at_96) ?_
      show Steps p.tables e below (T4.setTop (mkF m 97 #[.val (.int p1), .val (.int p2), .val (.int p3), .val (.int p4), .val (.int p5), .val (.int (3 : Int32)), .val (.int x0), .val (.int x1), .val (.int x2), .val (.int x3), .val (.long (x0.toInt64)), .second, .val (.long (x1.toInt64)), .second, .val (.long (x2.toInt64)), .second, .val (.long (x3.toInt64)), .second, .val (.ref b), .unset, .unset] [(.int (3 : Int32)), (.int (3 : Int32))])) _
      refine XS.icmpYes X4.here hx rfl (pc0 := 97) (pc' := 106) rfl (hb hby at_97) rfl (flt (by decide : ¬ ((3 : Int32) < (3 : Int32)))).2.2.2 (by decide) (by decide) ?_
      show Steps p.tables e below (T4.setTop (mkF m 106 #[.val (.int p1), .val (.int p2), .val (.int p3), .val (.int p4), .val (.int p5), .val (.int (3 : Int32)), .val (.int x0), .val (.int x1), .val (.int x2), .val (.int x3), .val (.long (x0.toInt64)), .second, .val (.long (x1.toInt64)), .second, .val (.long (x2.toInt64)), .second, .val (.long (x3.toInt64)), .second, .val (.ref b), .unset, .unset] [])) _
      refine XS.aload X4.here hx rfl (hb hby at_106) rfl rfl ?_
      show Steps p.tables e below (T4.setTop (mkF m 108 #[.val (.int p1), .val (.int p2), .val (.int p3), .val (.int p4), .val (.int p5), .val (.int (3 : Int32)), .val (.int x0), .val (.int x1), .val (.int x2), .val (.int x3), .val (.long (x0.toInt64)), .second, .val (.long (x1.toInt64)), .second, .val (.long (x2.toInt64)), .second, .val (.long (x3.toInt64)), .second, .val (.ref b), .unset, .unset] [(.ref b)])) _
      refine st5 _ ?_
      show Steps p.tables e below (T5.setTop (mkF m 111 #[.val (.int p1), .val (.int p2), .val (.int p3), .val (.int p4), .val (.int p5), .val (.int (3 : Int32)), .val (.int x0), .val (.int x1), .val (.int x2), .val (.int x3), .val (.long (x0.toInt64)), .second, .val (.long (x1.toInt64)), .second, .val (.long (x2.toInt64)), .second, .val (.long (x3.toInt64)), .second, .val (.ref b), .unset, .unset] [(.ref r)])) _
      refine XS.astore X5.here hx rfl (hb hby at_111) rfl rfl (l' := #[.val (.int p1), .val (.int p2), .val (.int p3), .val (.int p4), .val (.int p5), .val (.int (3 : Int32)), .val (.int x0), .val (.int x1), .val (.int x2), .val (.int x3), .val (.long (x0.toInt64)), .second, .val (.long (x1.toInt64)), .second, .val (.long (x2.toInt64)), .second, .val (.long (x3.toInt64)), .second, .val (.ref b), .val (.ref r), .unset]) rfl ?_
      show Steps p.tables e below (T5.setTop (mkF m 113 #[.val (.int p1), .val (.int p2), .val (.int p3), .val (.int p4), .val (.int p5), .val (.int (3 : Int32)), .val (.int x0), .val (.int x1), .val (.int x2), .val (.int x3), .val (.long (x0.toInt64)), .second, .val (.long (x1.toInt64)), .second, .val (.long (x2.toInt64)), .second, .val (.long (x3.toInt64)), .second, .val (.ref b), .val (.ref r), .unset] [])) _
      refine XS.aload X5.here hx rfl (hb hby at_113) rfl rfl ?_
      show Steps p.tables e below (T5.setTop (mkF m 115 #[.val (.int p1), .val (.int p2), .val (.int p3), .val (.int p4), .val (.int p5), .val (.int (3 : Int32)), .val (.int x0), .val (.int x1), .val (.int x2), .val (.int x3), .val (.long (x0.toInt64)), .second, .val (.long (x1.toInt64)), .second, .val (.long (x2.toInt64)), .second, .val (.long (x3.toInt64)), .second, .val (.ref b), .val (.ref r), .unset] [(.ref r)])) _
      refine XS.ifnullNo X5.here hx rfl (hb hby at_115) rfl ?_
      show Steps p.tables e below (T5.setTop (mkF m 118 #[.val (.int p1), .val (.int p2), .val (.int p3), .val (.int p4), .val (.int p5), .val (.int (3 : Int32)), .val (.int x0), .val (.int x1), .val (.int x2), .val (.int x3), .val (.long (x0.toInt64)), .second, .val (.long (x1.toInt64)), .second, .val (.long (x2.toInt64)), .second, .val (.long (x3.toInt64)), .second, .val (.ref b), .val (.ref r), .unset] [])) _
      refine XS.aload X5.here hx rfl (hb hby at_118) rfl rfl ?_
      show Steps p.tables e below (T5.setTop (mkF m 120 #[.val (.int p1), .val (.int p2), .val (.int p3), .val (.int p4), .val (.int p5), .val (.int (3 : Int32)), .val (.int x0), .val (.int x1), .val (.int x2), .val (.int x3), .val (.long (x0.toInt64)), .second, .val (.long (x1.toInt64)), .second, .val (.long (x2.toInt64)), .second, .val (.long (x3.toInt64)), .second, .val (.ref b), .val (.ref r), .unset] [(.ref r)])) _
      refine X5.arraylength hx (cell := cr) Arr_.1 (State.isArrayOf_alike hZ.alike Arr_.2.1) (g := (mkF m 120 #[.val (.int p1), .val (.int p2), .val (.int p3), .val (.int p4), .val (.int p5), .val (.int (3 : Int32)), .val (.int x0), .val (.int x1), .val (.int x2), .val (.int x3), .val (.long (x0.toInt64)), .second, .val (.long (x1.toInt64)), .second, .val (.long (x2.toInt64)), .second, .val (.long (x3.toInt64)), .second, .val (.ref b), .val (.ref r), .unset] [(.ref r)])) rfl rfl (hb hby at_120) _ ?_
      rw [show cr.slots.size.toInt32 = (3 : Int32) from own_len Szr]
      show Steps p.tables e below (T5.setTop (mkF m 121 #[.val (.int p1), .val (.int p2), .val (.int p3), .val (.int p4), .val (.int p5), .val (.int (3 : Int32)), .val (.int x0), .val (.int x1), .val (.int x2), .val (.int x3), .val (.long (x0.toInt64)), .second, .val (.long (x1.toInt64)), .second, .val (.long (x2.toInt64)), .second, .val (.long (x3.toInt64)), .second, .val (.ref b), .val (.ref r), .unset] [(.int (3 : Int32))])) _
      refine XS.iload X5.here hx rfl (hb hby at_121) rfl ?_
      show Steps p.tables e below (T5.setTop (mkF m 123 #[.val (.int p1), .val (.int p2), .val (.int p3), .val (.int p4), .val (.int p5), .val (.int (3 : Int32)), .val (.int x0), .val (.int x1), .val (.int x2), .val (.int x3), .val (.long (x0.toInt64)), .second, .val (.long (x1.toInt64)), .second, .val (.long (x2.toInt64)), .second, .val (.long (x3.toInt64)), .second, .val (.ref b), .val (.ref r), .unset] [(.int (3 : Int32)), (.int (3 : Int32))])) _
      refine XS.icmpYes X5.here hx rfl (pc0 := 123) (pc' := 128) rfl (hb hby at_123) rfl (teq (rfl : (3 : Int32) = (3 : Int32))).1 (by decide) (by decide) ?_
      show Steps p.tables e below (T5.setTop (mkF m 128 #[.val (.int p1), .val (.int p2), .val (.int p3), .val (.int p4), .val (.int p5), .val (.int (3 : Int32)), .val (.int x0), .val (.int x1), .val (.int x2), .val (.int x3), .val (.long (x0.toInt64)), .second, .val (.long (x1.toInt64)), .second, .val (.long (x2.toInt64)), .second, .val (.long (x3.toInt64)), .second, .val (.ref b), .val (.ref r), .unset] [])) _
      refine XS.iconst X5.here hx rfl (hb hby at_128) ?_
      show Steps p.tables e below (T5.setTop (mkF m 129 #[.val (.int p1), .val (.int p2), .val (.int p3), .val (.int p4), .val (.int p5), .val (.int (3 : Int32)), .val (.int x0), .val (.int x1), .val (.int x2), .val (.int x3), .val (.long (x0.toInt64)), .second, .val (.long (x1.toInt64)), .second, .val (.long (x2.toInt64)), .second, .val (.long (x3.toInt64)), .second, .val (.ref b), .val (.ref r), .unset] [(.int (1 : Int32))])) _
      refine XS.istore X5.here hx rfl (hb hby at_129) rfl (l' := #[.val (.int p1), .val (.int p2), .val (.int p3), .val (.int p4), .val (.int p5), .val (.int (3 : Int32)), .val (.int x0), .val (.int x1), .val (.int x2), .val (.int x3), .val (.long (x0.toInt64)), .second, .val (.long (x1.toInt64)), .second, .val (.long (x2.toInt64)), .second, .val (.long (x3.toInt64)), .second, .val (.ref b), .val (.ref r), .val (.int (1 : Int32))]) rfl ?_
      show Steps p.tables e below (T5.setTop (mkF m 131 #[.val (.int p1), .val (.int p2), .val (.int p3), .val (.int p4), .val (.int p5), .val (.int (3 : Int32)), .val (.int x0), .val (.int x1), .val (.int x2), .val (.int x3), .val (.long (x0.toInt64)), .second, .val (.long (x1.toInt64)), .second, .val (.long (x2.toInt64)), .second, .val (.long (x3.toInt64)), .second, .val (.ref b), .val (.ref r), .val (.int (1 : Int32))] [])) _
      refine sg_0 p1 p2 p3 p4 p5 (3 : Int32) x0 x1 x2 x3 b r 3 X5 hx hZ hw hby hown rfl x5v c5_V_b (by decide) (by decide) _ ?_
      show Steps p.tables e below (T5.setTop (mkF m 167 #[.val (.int p1), .val (.int p2), .val (.int p3), .val (.int p4), .val (.int p5), .val (.int (3 : Int32)), .val (.int x0), .val (.int x1), .val (.int x2), .val (.int x3), .val (.long (x0.toInt64)), .second, .val (.long (x1.toInt64)), .second, .val (.long (x2.toInt64)), .second, .val (.long (x3.toInt64)), .second, .val (.ref b), .val (.ref r), .val (.int (1 : Int32))] [])) _
      refine sg_1 p1 p2 p3 p4 p5 (3 : Int32) x0 x1 x2 x3 b r 3 X5 hx hZ hw hby hown rfl x5v c5_V_b (by decide) (by decide) _ ?_
      show Steps p.tables e below (T5.setTop (mkF m 207 #[.val (.int p1), .val (.int p2), .val (.int p3), .val (.int p4), .val (.int p5), .val (.int (3 : Int32)), .val (.int x0), .val (.int x1), .val (.int x2), .val (.int x3), .val (.long (x0.toInt64)), .second, .val (.long (x1.toInt64)), .second, .val (.long (x2.toInt64)), .second, .val (.long (x3.toInt64)), .second, .val (.ref b), .val (.ref r), .val (.int (1 : Int32))] [])) _
      refine sg_2 p1 p2 p3 p4 p5 (3 : Int32) x0 x1 x2 x3 b r 3 X5 hx hZ hw hby hown rfl x5v c5_V_b (by decide) (by decide) _ ?_
      show Steps p.tables e below (T5.setTop (mkF m 250 #[.val (.int p1), .val (.int p2), .val (.int p3), .val (.int p4), .val (.int p5), .val (.int (3 : Int32)), .val (.int x0), .val (.int x1), .val (.int x2), .val (.int x3), .val (.long (x0.toInt64)), .second, .val (.long (x1.toInt64)), .second, .val (.long (x2.toInt64)), .second, .val (.long (x3.toInt64)), .second, .val (.ref b), .val (.ref r), .val (.int (1 : Int32))] [])) _
      refine XS.iload X5.here hx rfl (hb hby at_250) rfl ?_
      show Steps p.tables e below (T5.setTop (mkF m 252 #[.val (.int p1), .val (.int p2), .val (.int p3), .val (.int p4), .val (.int p5), .val (.int (3 : Int32)), .val (.int x0), .val (.int x1), .val (.int x2), .val (.int x3), .val (.long (x0.toInt64)), .second, .val (.long (x1.toInt64)), .second, .val (.long (x2.toInt64)), .second, .val (.long (x3.toInt64)), .second, .val (.ref b), .val (.ref r), .val (.int (1 : Int32))] [(.int (3 : Int32))])) _
      refine XS.iconst X5.here hx rfl (hb hby at_252) ?_
      show Steps p.tables e below (T5.setTop (mkF m 253 #[.val (.int p1), .val (.int p2), .val (.int p3), .val (.int p4), .val (.int p5), .val (.int (3 : Int32)), .val (.int x0), .val (.int x1), .val (.int x2), .val (.int x3), .val (.long (x0.toInt64)), .second, .val (.long (x1.toInt64)), .second, .val (.long (x2.toInt64)), .second, .val (.long (x3.toInt64)), .second, .val (.ref b), .val (.ref r), .val (.int (1 : Int32))] [(.int (3 : Int32)), (.int (3 : Int32))])) _
      refine XS.icmpYes X5.here hx rfl (pc0 := 253) (pc' := 296) rfl (hb hby at_253) rfl (flt (by decide : ¬ ((3 : Int32) < (3 : Int32)))).2.2.2 (by decide) (by decide) ?_
      show Steps p.tables e below (T5.setTop (mkF m 296 #[.val (.int p1), .val (.int p2), .val (.int p3), .val (.int p4), .val (.int p5), .val (.int (3 : Int32)), .val (.int x0), .val (.int x1), .val (.int x2), .val (.int x3), .val (.long (x0.toInt64)), .second, .val (.long (x1.toInt64)), .second, .val (.long (x2.toInt64)), .second, .val (.long (x3.toInt64)), .second, .val (.ref b), .val (.ref r), .val (.int (1 : Int32))] [])) _
      refine XS.iload X5.here hx rfl (hb hby at_296) rfl ?_
      show Steps p.tables e below (T5.setTop (mkF m 298 #[.val (.int p1), .val (.int p2), .val (.int p3), .val (.int p4), .val (.int p5), .val (.int (3 : Int32)), .val (.int x0), .val (.int x1), .val (.int x2), .val (.int x3), .val (.long (x0.toInt64)), .second, .val (.long (x1.toInt64)), .second, .val (.long (x2.toInt64)), .second, .val (.long (x3.toInt64)), .second, .val (.ref b), .val (.ref r), .val (.int (1 : Int32))] [(.int (1 : Int32))])) _
      exact retN X5 hx (t := .boolean) Bd.returns (by simp) (hb hby at_298) hr
    · show Q0 Z p1 p2 p3 p4 p5 h0 n0 _ T5.heap _
      exact ⟨rfl, N5⟩
  · obtain ⟨T1, h1, k1, X1, e1, E1, A1, st1⟩ := newP X0 hx hZ (hw _ (List.mem_of_getElem? (i := 1) rfl)) e0 (g := (mkF m 55 #[.val (.int p1), .val (.int p2), .val (.int p3), .val (.int p4), .val (.int p5), .val (.int (4 : Int32)), .val (.int x0), .val (.int x1), .val (.int x2), .val (.int x3), .val (.long (x0.toInt64)), .second, .val (.long (x1.toInt64)), .second, .val (.long (x2.toInt64)), .second, .val (.long (x3.toInt64)), .second, .unset, .unset, .unset] [(.int (4 : Int32))])) rfl (hb hby at_55) rfl (by decide) (cap := 4) (by decide) (by decide) (by decide) (by decide)
    obtain ⟨b, g1⟩ : ∃ z, z = h0.size := ⟨_, rfl⟩
    have g_b : n0 ≤ b := Nat.le_trans Z0 (Nat.le_of_eq g1.symm)
    rw [← g1] at A1 st1
    have V1 := own_A.new (n := 4) A1 (by decide)
    obtain ⟨cl0, Ar0, Sz0, Hs0⟩ := id V1
    obtain ⟨T2, h2, X2, e2, W2, st2⟩ := stI X1 hx hZ e1 Ar0 (j := (0 : Int32)) (own_in (k := 0) Sz0 (by decide) rfl (by decide)) (g := (mkF m 69 #[.val (.int p1), .val (.int p2), .val (.int p3), .val (.int p4), .val (.int p5), .val (.int (4 : Int32)), .val (.int x0), .val (.int x1), .val (.int x2), .val (.int x3), .val (.long (x0.toInt64)), .second, .val (.long (x1.toInt64)), .second, .val (.long (x2.toInt64)), .second, .val (.long (x3.toInt64)), .second, .val (.ref b), .unset, .unset] [(.int x0), (.int (0 : Int32)), (.ref b)])) rfl rfl (hb hby at_69)
    have N2 := Fr.snoc X2 N0 g_b
    have V2 := V1.set (k := 0) (by decide) W2
    obtain ⟨cl1, Ar1, Sz1, Hs1⟩ := id V2
    obtain ⟨T3, h3, X3, e3, W3, st3⟩ := stI X2 hx hZ e2 Ar1 (j := (1 : Int32)) (own_in (k := 1) Sz1 (by decide) rfl (by decide)) (g := (mkF m 81 #[.val (.int p1), .val (.int p2), .val (.int p3), .val (.int p4), .val (.int p5), .val (.int (4 : Int32)), .val (.int x0), .val (.int x1), .val (.int x2), .val (.int x3), .val (.long (x0.toInt64)), .second, .val (.long (x1.toInt64)), .second, .val (.long (x2.toInt64)), .second, .val (.long (x3.toInt64)), .second, .val (.ref b), .unset, .unset] [(.int x1), (.int (1 : Int32)), (.ref b)])) rfl rfl (hb hby at_81)
    have N3 := Fr.snoc X3 N2 g_b
    have V3 := V2.set (k := 1) (by decide) W3
    obtain ⟨cl2, Ar2, Sz2, Hs2⟩ := id V3
    obtain ⟨T4, h4, X4, e4, W4, st4⟩ := stI X3 hx hZ e3 Ar2 (j := (2 : Int32)) (own_in (k := 2) Sz2 (by decide) rfl (by decide)) (g := (mkF m 93 #[.val (.int p1), .val (.int p2), .val (.int p3), .val (.int p4), .val (.int p5), .val (.int (4 : Int32)), .val (.int x0), .val (.int x1), .val (.int x2), .val (.int x3), .val (.long (x0.toInt64)), .second, .val (.long (x1.toInt64)), .second, .val (.long (x2.toInt64)), .second, .val (.long (x3.toInt64)), .second, .val (.ref b), .unset, .unset] [(.int x2), (.int (2 : Int32)), (.ref b)])) rfl rfl (hb hby at_93)
    have N4 := Fr.snoc X4 N3 g_b
    have V4 := V3.set (k := 2) (by decide) W4
    obtain ⟨cl3, Ar3, Sz3, Hs3⟩ := id V4
    obtain ⟨T5, h5, X5, e5, W5, st5⟩ := stI X4 hx hZ e4 Ar3 (j := (3 : Int32)) (own_in (k := 3) Sz3 (by decide) rfl (by decide)) (g := (mkF m 105 #[.val (.int p1), .val (.int p2), .val (.int p3), .val (.int p4), .val (.int p5), .val (.int (4 : Int32)), .val (.int x0), .val (.int x1), .val (.int x2), .val (.int x3), .val (.long (x0.toInt64)), .second, .val (.long (x1.toInt64)), .second, .val (.long (x2.toInt64)), .second, .val (.long (x3.toInt64)), .second, .val (.ref b), .unset, .unset] [(.int x3), (.int (3 : Int32)), (.ref b)])) rfl rfl (hb hby at_105)
    have N5 := Fr.snoc X5 N4 g_b
    have V5 := V4.set (k := 3) (by decide) W5
    have VF : own_A Z h5 b .int 4 (fun j => .int (own_g x0 x1 x2 x3 j)) := V5.alike (fun j hj => by
      have hj7 : j = 0 ∨ j = 1 ∨ j = 2 ∨ j = 3 := by omega
      rcases hj7 with rfl | rfl | rfl | rfl <;> rfl)
    obtain ⟨_, _, ⟨T6, L6, k6, n6⟩, -, X6, ⟨Lc6, hQ6, l6, y6, z6⟩, st6⟩ := Jvm.LawKit.callS X5 hx (y := (⟨"com/example/redoubt/redoubt/Weight", "sums", "([I)[J"⟩ : MethodName)) hown (mvT hZ (hw _ (List.mem_of_getElem? (i := 2) rfl))) (mvT hZ (hw _ (List.mem_of_getElem? (i := 3) rfl))) (mvT hZ (hw _ (List.mem_of_getElem? (i := 4) rfl))) (mvT hZ (hw _ (List.mem_of_getElem? (i := 5) rfl))) (by decide) (backOf (W := 0) (rm1 l Z a0 hw [] b 4 (own_g x0 x1 x2 x3) h5 n0 (Nat.le_trans (Nat.le_trans (Nat.le_trans (Nat.le_trans (Nat.le_trans Z0 E1.1) (Keep.of_wr W2).1) (Keep.of_wr W3).1) (Keep.of_wr W4).1) (Keep.of_wr W5).1) (by decide) VF) hZ (hw _ (List.mem_of_getElem? (i := 5) rfl)) (hw _ (List.mem_of_getElem? (i := 4) rfl)) (by decide) (by decide)) (g := (mkF m 108 #[.val (.int p1), .val (.int p2), .val (.int p3), .val (.int p4), .val (.int p5), .val (.int (4 : Int32)), .val (.int x0), .val (.int x1), .val (.int x2), .val (.int x3), .val (.long (x0.toInt64)), .second, .val (.long (x1.toInt64)), .second, .val (.long (x2.toInt64)), .second, .val (.long (x3.toInt64)), .second, .val (.ref b), .unset, .unset] [(.ref b)])) rfl (by rw [hml]; rfl) (argsL := [(.ref b)]) (rest := []) (lenOf pdx_0 rfl) rfl (by show 2 * 0 + _ ≤ _; exact Nat.le_of_eq rfl) (hb hby at_108) (fun _ _ => ⟨rfl, e5, (by decide : 1 + 1 ≤ _), (by decide : 4 + 4 ≤ _)⟩)
    dsimp only [Pt.U, Pt.locs, Pt.cells, Pt.slots] at X6 l6 y6 z6 st6 hQ6
    subst l6 y6 z6
    obtain ⟨rfl, N6q, K6, x6v⟩ := hQ6
    have N6 := Fr.app N5 N6q
    obtain ⟨r, gr⟩ : ∃ z, z = h5.size := ⟨_, rfl⟩
    rw [← gr] at x6v st6
    have c6_V_b := VF.keep K6 nin0
    obtain ⟨cr, Arr_, Szr, Hsr⟩ := id x6v
    obtain ⟨fs, hr, hrun, hended, hW, hsame⟩ := X6.leave (v := some (.int (1 : Int32))) (fun h => by rw [Bd.returns] at h; cases h)
    refine ⟨_, _, pre0 _ ?_, hrun, hended, _, _, rfl, ?_, ⟨_, rfl⟩, hW, hsame.mono (by decide) (by decide)⟩
    · show Steps p.tables e below (s₁.setTop (mkF m 0 #[.val (.int p1), .val (.int p2), .val (.int p3), .val (.int p4), .val (.int p5), .unset, .unset, .unset, .unset, .unset, .unset, .unset, .unset, .unset, .unset, .unset, .unset, .unset, .unset, .unset, .unset] [])) _
      refine sg0 _ ?_
      show Steps p.tables e below (s₁.setTop (mkF m 53 #[.val (.int p1), .val (.int p2), .val (.int p3), .val (.int p4), .val (.int p5), .val (.int (4 : Int32)), .val (.int x0), .val (.int x1), .val (.int x2), .val (.int x3), .val (.long (x0.toInt64)), .second, .val (.long (x1.toInt64)), .second, .val (.long (x2.toInt64)), .second, .val (.long (x3.toInt64)), .second, .unset, .unset, .unset] [])) _
      refine XS.iload X0.here hx rfl (hb hby at_53) rfl ?_
      show Steps p.tables e below (s₁.setTop (mkF m 55 #[.val (.int p1), .val (.int p2), .val (.int p3), .val (.int p4), .val (.int p5), .val (.int (4 : Int32)), .val (.int x0), .val (.int x1), .val (.int x2), .val (.int x3), .val (.long (x0.toInt64)), .second, .val (.long (x1.toInt64)), .second, .val (.long (x2.toInt64)), .second, .val (.long (x3.toInt64)), .second, .unset, .unset, .unset] [(.int (4 : Int32))])) _
      refine st1 _ ?_
      show Steps p.tables e below (T1.setTop (mkF m 57 #[.val (.int p1), .val (.int p2), .val (.int p3), .val (.int p4), .val (.int p5), .val (.int (4 : Int32)), .val (.int x0), .val (.int x1), .val (.int x2), .val (.int x3), .val (.long (x0.toInt64)), .second, .val (.long (x1.toInt64)), .second, .val (.long (x2.toInt64)), .second, .val (.long (x3.toInt64)), .second, .unset, .unset, .unset] [(.ref b)])) _
      refine XS.astore X1.here hx rfl (hb hby at_57) rfl rfl (l' := #[.val (.int p1), .val (.int p2), .val (.int p3), .val (.int p4), .val (.int p5), .val (.int (4 : Int32)), .val (.int x0), .val (.int x1), .val (.int x2), .val (.int x3), .val (.long (x0.toInt64)), .second, .val (.long (x1.toInt64)), .second, .val (.long (x2.toInt64)), .second, .val (.long (x3.toInt64)), .second, .val (.ref b), .unset, .unset]) rfl ?_
      show Steps p.tables e below (T1.setTop (mkF m 59 #[.val (.int p1), .val (.int p2), .val (.int p3), .val (.int p4), .val (.int p5), .val (.int (4 : Int32)), .val (.int x0), .val (.int x1), .val (.int x2), .val (.int x3), .val (.long (x0.toInt64)), .second, .val (.long (x1.toInt64)), .second, .val (.long (x2.toInt64)), .second, .val (.long (x3.toInt64)), .second, .val (.ref b), .unset, .unset] [])) _
      refine XS.iload X1.here hx rfl (hb hby at_59) rfl ?_
      show Steps p.tables e below (T1.setTop (mkF m 61 #[.val (.int p1), .val (.int p2), .val (.int p3), .val (.int p4), .val (.int p5), .val (.int (4 : Int32)), .val (.int x0), .val (.int x1), .val (.int x2), .val (.int x3), .val (.long (x0.toInt64)), .second, .val (.long (x1.toInt64)), .second, .val (.long (x2.toInt64)), .second, .val (.long (x3.toInt64)), .second, .val (.ref b), .unset, .unset] [(.int (4 : Int32))])) _
      refine XS.ifNo X1.here hx rfl (hb hby at_61) rfl ((if0 _ _).trans (tlt (by decide : (0 : Int32) < (4 : Int32))).2.2.2) ?_
      show Steps p.tables e below (T1.setTop (mkF m 64 #[.val (.int p1), .val (.int p2), .val (.int p3), .val (.int p4), .val (.int p5), .val (.int (4 : Int32)), .val (.int x0), .val (.int x1), .val (.int x2), .val (.int x3), .val (.long (x0.toInt64)), .second, .val (.long (x1.toInt64)), .second, .val (.long (x2.toInt64)), .second, .val (.long (x3.toInt64)), .second, .val (.ref b), .unset, .unset] [])) _
      refine XS.aload X1.here hx rfl (hb hby at_64) rfl rfl ?_
      show Steps p.tables e below (T1.setTop (mkF m 66 #[.val (.int p1), .val (.int p2), .val (.int p3), .val (.int p4), .val (.int p5), .val (.int (4 : Int32)), .val (.int x0), .val (.int x1), .val (.int x2), .val (.int x3), .val (.long (x0.toInt64)), .second, .val (.long (x1.toInt64)), .second, .val (.long (x2.toInt64)), .second, .val (.long (x3.toInt64)), .second, .val (.ref b), .unset, .unset] [(.ref b)])) _
      refine XS.iconst X1.here hx rfl (hb hby at_66) ?_
      show Steps p.tables e below (T1.setTop (mkF m 67 #[.val (.int p1), .val (.int p2), .val (.int p3), .val (.int p4), .val (.int p5), .val (.int (4 : Int32)), .val (.int x0), .val (.int x1), .val (.int x2), .val (.int x3), .val (.long (x0.toInt64)), .second, .val (.long (x1.toInt64)), .second, .val (.long (x2.toInt64)), .second, .val (.long (x3.toInt64)), .second, .val (.ref b), .unset, .unset] [(.int (0 : Int32)), (.ref b)])) _
      refine XS.iload X1.here hx rfl (hb hby at_67) rfl ?_
      show Steps p.tables e below (T1.setTop (mkF m 69 #[.val (.int p1), .val (.int p2), .val (.int p3), .val (.int p4), .val (.int p5), .val (.int (4 : Int32)), .val (.int x0), .val (.int x1), .val (.int x2), .val (.int x3), .val (.long (x0.toInt64)), .second, .val (.long (x1.toInt64)), .second, .val (.long (x2.toInt64)), .second, .val (.long (x3.toInt64)), .second, .val (.ref b), .unset, .unset] [(.int x0), (.int (0 : Int32)), (.ref b)])) _
      refine st2 _ ?_
      show Steps p.tables e below (T2.setTop (mkF m 70 #[.val (.int p1), .val (.int p2), .val (.int p3), .val (.int p4), .val (.int p5), .val (.int (4 : Int32)), .val (.int x0), .val (.int x1), .val (.int x2), .val (.int x3), .val (.long (x0.toInt64)), .second, .val (.long (x1.toInt64)), .second, .val (.long (x2.toInt64)), .second, .val (.long (x3.toInt64)), .second, .val (.ref b), .unset, .unset] [])) _
      refine XS.iload X2.here hx rfl (hb hby at_70) rfl ?_
      show Steps p.tables e below (T2.setTop (mkF m 72 #[.val (.int p1), .val (.int p2), .val (.int p3), .val (.int p4), .val (.int p5), .val (.int (4 : Int32)), .val (.int x0), .val (.int x1), .val (.int x2), .val (.int x3), .val (.long (x0.toInt64)), .second, .val (.long (x1.toInt64)), .second, .val (.long (x2.toInt64)), .second, .val (.long (x3.toInt64)), .second, .val (.ref b), .unset, .unset] [(.int (4 : Int32))])) _
      refine XS.iconst X2.here hx rfl (hb hby at_72) ?_
      show Steps p.tables e below (T2.setTop (mkF m 73 #[.val (.int p1), .val (.int p2), .val (.int p3), .val (.int p4), .val (.int p5), .val (.int (4 : Int32)), .val (.int x0), .val (.int x1), .val (.int x2), .val (.int x3), .val (.long (x0.toInt64)), .second, .val (.long (x1.toInt64)), .second, .val (.long (x2.toInt64)), .second, .val (.long (x3.toInt64)), .second, .val (.ref b), .unset, .unset] [(.int (1 : Int32)), (.int (4 : Int32))])) _
      refine XS.icmpNo X2.here hx rfl (hb hby at_73) rfl (tlt (by decide : (1 : Int32) < (4 : Int32))).2.2.2 ?_
      show Steps p.tables e below (T2.setTop (mkF m 76 #[.val (.int p1), .val (.int p2), .val (.int p3), .val (.int p4), .val (.int p5), .val (.int (4 : Int32)), .val (.int x0), .val (.int x1), .val (.int x2), .val (.int x3), .val (.long (x0.toInt64)), .second, .val (.long (x1.toInt64)), .second, .val (.long (x2.toInt64)), .second, .val (.long (x3.toInt64)), .second, .val (.ref b), .unset, .unset] [])) _
      refine XS.aload X2.here hx rfl (hb hby at_76) rfl rfl ?_
      show Steps p.tables e below (T2.setTop (mkF m 78 #[.val (.int p1), .val (.int p2), .val (.int p3), .val (.int p4), .val (.int p5), .val (.int (4 : Int32)), .val (.int x0), .val (.int x1), .val (.int x2), .val (.int x3), .val (.long (x0.toInt64)), .second, .val (.long (x1.toInt64)), .second, .val (.long (x2.toInt64)), .second, .val (.long (x3.toInt64)), .second, .val (.ref b), .unset, .unset] [(.ref b)])) _
      refine XS.iconst X2.here hx rfl (hb hby at_78) ?_
      show Steps p.tables e below (T2.setTop (mkF m 79 #[.val (.int p1), .val (.int p2), .val (.int p3), .val (.int p4), .val (.int p5), .val (.int (4 : Int32)), .val (.int x0), .val (.int x1), .val (.int x2), .val (.int x3), .val (.long (x0.toInt64)), .second, .val (.long (x1.toInt64)), .second, .val (.long (x2.toInt64)), .second, .val (.long (x3.toInt64)), .second, .val (.ref b), .unset, .unset] [(.int (1 : Int32)), (.ref b)])) _
      refine XS.iload X2.here hx rfl (hb hby at_79) rfl ?_
      show Steps p.tables e below (T2.setTop (mkF m 81 #[.val (.int p1), .val (.int p2), .val (.int p3), .val (.int p4), .val (.int p5), .val (.int (4 : Int32)), .val (.int x0), .val (.int x1), .val (.int x2), .val (.int x3), .val (.long (x0.toInt64)), .second, .val (.long (x1.toInt64)), .second, .val (.long (x2.toInt64)), .second, .val (.long (x3.toInt64)), .second, .val (.ref b), .unset, .unset] [(.int x1), (.int (1 : Int32)), (.ref b)])) _
      refine st3 _ ?_
      show Steps p.tables e below (T3.setTop (mkF m 82 #[.val (.int p1), .val (.int p2), .val (.int p3), .val (.int p4), .val (.int p5), .val (.int (4 : Int32)), .val (.int x0), .val (.int x1), .val (.int x2), .val (.int x3), .val (.long (x0.toInt64)), .second, .val (.long (x1.toInt64)), .second, .val (.long (x2.toInt64)), .second, .val (.long (x3.toInt64)), .second, .val (.ref b), .unset, .unset] [])) _
      refine XS.iload X3.here hx rfl (hb hby at_82) rfl ?_
      show Steps p.tables e below (T3.setTop (mkF m 84 #[.val (.int p1), .val (.int p2), .val (.int p3), .val (.int p4), .val (.int p5), .val (.int (4 : Int32)), .val (.int x0), .val (.int x1), .val (.int x2), .val (.int x3), .val (.long (x0.toInt64)), .second, .val (.long (x1.toInt64)), .second, .val (.long (x2.toInt64)), .second, .val (.long (x3.toInt64)), .second, .val (.ref b), .unset, .unset] [(.int (4 : Int32))])) _
      refine XS.iconst X3.here hx rfl (hb hby at_84) ?_
      show Steps p.tables e below (T3.setTop (mkF m 85 #[.val (.int p1), .val (.int p2), .val (.int p3), .val (.int p4), .val (.int p5), .val (.int (4 : Int32)), .val (.int x0), .val (.int x1), .val (.int x2), .val (.int x3), .val (.long (x0.toInt64)), .second, .val (.long (x1.toInt64)), .second, .val (.long (x2.toInt64)), .second, .val (.long (x3.toInt64)), .second, .val (.ref b), .unset, .unset] [(.int (2 : Int32)), (.int (4 : Int32))])) _
      refine XS.icmpNo X3.here hx rfl (hb hby at_85) rfl (tlt (by decide : (2 : Int32) < (4 : Int32))).2.2.2 ?_
      show Steps p.tables e below (T3.setTop (mkF m 88 #[.val (.int p1), .val (.int p2), .val (.int p3), .val (.int p4), .val (.int p5), .val (.int (4 : Int32)), .val (.int x0), .val (.int x1), .val (.int x2), .val (.int x3), .val (.long (x0.toInt64)), .second, .val (.long (x1.toInt64)), .second, .val (.long (x2.toInt64)), .second, .val (.long (x3.toInt64)), .second, .val (.ref b), .unset, .unset] [])) _
      refine XS.aload X3.here hx rfl (hb hby at_88) rfl rfl ?_
      show Steps p.tables e below (T3.setTop (mkF m 90 #[.val (.int p1), .val (.int p2), .val (.int p3), .val (.int p4), .val (.int p5), .val (.int (4 : Int32)), .val (.int x0), .val (.int x1), .val (.int x2), .val (.int x3), .val (.long (x0.toInt64)), .second, .val (.long (x1.toInt64)), .second, .val (.long (x2.toInt64)), .second, .val (.long (x3.toInt64)), .second, .val (.ref b), .unset, .unset] [(.ref b)])) _
      refine XS.iconst X3.here hx rfl (hb hby at_90) ?_
      show Steps p.tables e below (T3.setTop (mkF m 91 #[.val (.int p1), .val (.int p2), .val (.int p3), .val (.int p4), .val (.int p5), .val (.int (4 : Int32)), .val (.int x0), .val (.int x1), .val (.int x2), .val (.int x3), .val (.long (x0.toInt64)), .second, .val (.long (x1.toInt64)), .second, .val (.long (x2.toInt64)), .second, .val (.long (x3.toInt64)), .second, .val (.ref b), .unset, .unset] [(.int (2 : Int32)), (.ref b)])) _
      refine XS.iload X3.here hx rfl (hb hby at_91) rfl ?_
      show Steps p.tables e below (T3.setTop (mkF m 93 #[.val (.int p1), .val (.int p2), .val (.int p3), .val (.int p4), .val (.int p5), .val (.int (4 : Int32)), .val (.int x0), .val (.int x1), .val (.int x2), .val (.int x3), .val (.long (x0.toInt64)), .second, .val (.long (x1.toInt64)), .second, .val (.long (x2.toInt64)), .second, .val (.long (x3.toInt64)), .second, .val (.ref b), .unset, .unset] [(.int x2), (.int (2 : Int32)), (.ref b)])) _
      refine st4 _ ?_
      show Steps p.tables e below (T4.setTop (mkF m 94 #[.val (.int p1), .val (.int p2), .val (.int p3), .val (.int p4), .val (.int p5), .val (.int (4 : Int32)), .val (.int x0), .val (.int x1), .val (.int x2), .val (.int x3), .val (.long (x0.toInt64)), .second, .val (.long (x1.toInt64)), .second, .val (.long (x2.toInt64)), .second, .val (.long (x3.toInt64)), .second, .val (.ref b), .unset, .unset] [])) _
      refine XS.iload X4.here hx rfl (hb hby at_94) rfl ?_
      show Steps p.tables e below (T4.setTop (mkF m 96 #[.val (.int p1), .val (.int p2), .val (.int p3), .val (.int p4), .val (.int p5), .val (.int (4 : Int32)), .val (.int x0), .val (.int x1), .val (.int x2), .val (.int x3), .val (.long (x0.toInt64)), .second, .val (.long (x1.toInt64)), .second, .val (.long (x2.toInt64)), .second, .val (.long (x3.toInt64)), .second, .val (.ref b), .unset, .unset] [(.int (4 : Int32))])) _
      refine XS.iconst X4.here hx rfl (hb hby at_96) ?_
      show Steps p.tables e below (T4.setTop (mkF m 97 #[.val (.int p1), .val (.int p2), .val (.int p3), .val (.int p4), .val (.int p5), .val (.int (4 : Int32)), .val (.int x0), .val (.int x1), .val (.int x2), .val (.int x3), .val (.long (x0.toInt64)), .second, .val (.long (x1.toInt64)), .second, .val (.long (x2.toInt64)), .second, .val (.long (x3.toInt64)), .second, .val (.ref b), .unset, .unset] [(.int (3 : Int32)), (.int (4 : Int32))])) _
      refine XS.icmpNo X4.here hx rfl (hb hby at_97) rfl (tlt (by decide : (3 : Int32) < (4 : Int32))).2.2.2 ?_
      show Steps p.tables e below (T4.setTop (mkF m 100 #[.val (.int p1), .val (.int p2), .val (.int p3), .val (.int p4), .val (.int p5), .val (.int (4 : Int32)), .val (.int x0), .val (.int x1), .val (.int x2), .val (.int x3), .val (.long (x0.toInt64)), .second, .val (.long (x1.toInt64)), .second, .val (.long (x2.toInt64)), .second, .val (.long (x3.toInt64)), .second, .val (.ref b), .unset, .unset] [])) _
      refine XS.aload X4.here hx rfl (hb hby at_100) rfl rfl ?_
      show Steps p.tables e below (T4.setTop (mkF m 102 #[.val (.int p1), .val (.int p2), .val (.int p3), .val (.int p4), .val (.int p5), .val (.int (4 : Int32)), .val (.int x0), .val (.int x1), .val (.int x2), .val (.int x3), .val (.long (x0.toInt64)), .second, .val (.long (x1.toInt64)), .second, .val (.long (x2.toInt64)), .second, .val (.long (x3.toInt64)), .second, .val (.ref b), .unset, .unset] [(.ref b)])) _
      refine XS.iconst X4.here hx rfl (hb hby at_102) ?_
      show Steps p.tables e below (T4.setTop (mkF m 103 #[.val (.int p1), .val (.int p2), .val (.int p3), .val (.int p4), .val (.int p5), .val (.int (4 : Int32)), .val (.int x0), .val (.int x1), .val (.int x2), .val (.int x3), .val (.long (x0.toInt64)), .second, .val (.long (x1.toInt64)), .second, .val (.long (x2.toInt64)), .second, .val (.long (x3.toInt64)), .second, .val (.ref b), .unset, .unset] [(.int (3 : Int32)), (.ref b)])) _
      refine XS.iload X4.here hx rfl (hb hby at_103) rfl ?_
      show Steps p.tables e below (T4.setTop (mkF m 105 #[.val (.int p1), .val (.int p2), .val (.int p3), .val (.int p4), .val (.int p5), .val (.int (4 : Int32)), .val (.int x0), .val (.int x1), .val (.int x2), .val (.int x3), .val (.long (x0.toInt64)), .second, .val (.long (x1.toInt64)), .second, .val (.long (x2.toInt64)), .second, .val (.long (x3.toInt64)), .second, .val (.ref b), .unset, .unset] [(.int x3), (.int (3 : Int32)), (.ref b)])) _
      refine st5 _ ?_
      show Steps p.tables e below (T5.setTop (mkF m 106 #[.val (.int p1), .val (.int p2), .val (.int p3), .val (.int p4), .val (.int p5), .val (.int (4 : Int32)), .val (.int x0), .val (.int x1), .val (.int x2), .val (.int x3), .val (.long (x0.toInt64)), .second, .val (.long (x1.toInt64)), .second, .val (.long (x2.toInt64)), .second, .val (.long (x3.toInt64)), .second, .val (.ref b), .unset, .unset] [])) _
      refine XS.aload X5.here hx rfl (hb hby at_106) rfl rfl ?_
      show Steps p.tables e below (T5.setTop (mkF m 108 #[.val (.int p1), .val (.int p2), .val (.int p3), .val (.int p4), .val (.int p5), .val (.int (4 : Int32)), .val (.int x0), .val (.int x1), .val (.int x2), .val (.int x3), .val (.long (x0.toInt64)), .second, .val (.long (x1.toInt64)), .second, .val (.long (x2.toInt64)), .second, .val (.long (x3.toInt64)), .second, .val (.ref b), .unset, .unset] [(.ref b)])) _
      refine st6 _ ?_
      show Steps p.tables e below (T6.setTop (mkF m 111 #[.val (.int p1), .val (.int p2), .val (.int p3), .val (.int p4), .val (.int p5), .val (.int (4 : Int32)), .val (.int x0), .val (.int x1), .val (.int x2), .val (.int x3), .val (.long (x0.toInt64)), .second, .val (.long (x1.toInt64)), .second, .val (.long (x2.toInt64)), .second, .val (.long (x3.toInt64)), .second, .val (.ref b), .unset, .unset] [(.ref r)])) _
      refine XS.astore X6.here hx rfl (hb hby at_111) rfl rfl (l' := #[.val (.int p1), .val (.int p2), .val (.int p3), .val (.int p4), .val (.int p5), .val (.int (4 : Int32)), .val (.int x0), .val (.int x1), .val (.int x2), .val (.int x3), .val (.long (x0.toInt64)), .second, .val (.long (x1.toInt64)), .second, .val (.long (x2.toInt64)), .second, .val (.long (x3.toInt64)), .second, .val (.ref b), .val (.ref r), .unset]) rfl ?_
      show Steps p.tables e below (T6.setTop (mkF m 113 #[.val (.int p1), .val (.int p2), .val (.int p3), .val (.int p4), .val (.int p5), .val (.int (4 : Int32)), .val (.int x0), .val (.int x1), .val (.int x2), .val (.int x3), .val (.long (x0.toInt64)), .second, .val (.long (x1.toInt64)), .second, .val (.long (x2.toInt64)), .second, .val (.long (x3.toInt64)), .second, .val (.ref b), .val (.ref r), .unset] [])) _
      refine XS.aload X6.here hx rfl (hb hby at_113) rfl rfl ?_
      show Steps p.tables e below (T6.setTop (mkF m 115 #[.val (.int p1), .val (.int p2), .val (.int p3), .val (.int p4), .val (.int p5), .val (.int (4 : Int32)), .val (.int x0), .val (.int x1), .val (.int x2), .val (.int x3), .val (.long (x0.toInt64)), .second, .val (.long (x1.toInt64)), .second, .val (.long (x2.toInt64)), .second, .val (.long (x3.toInt64)), .second, .val (.ref b), .val (.ref r), .unset] [(.ref r)])) _
      refine XS.ifnullNo X6.here hx rfl (hb hby at_115) rfl ?_
      show Steps p.tables e below (T6.setTop (mkF m 118 #[.val (.int p1), .val (.int p2), .val (.int p3), .val (.int p4), .val (.int p5), .val (.int (4 : Int32)), .val (.int x0), .val (.int x1), .val (.int x2), .val (.int x3), .val (.long (x0.toInt64)), .second, .val (.long (x1.toInt64)), .second, .val (.long (x2.toInt64)), .second, .val (.long (x3.toInt64)), .second, .val (.ref b), .val (.ref r), .unset] [])) _
      refine XS.aload X6.here hx rfl (hb hby at_118) rfl rfl ?_
      show Steps p.tables e below (T6.setTop (mkF m 120 #[.val (.int p1), .val (.int p2), .val (.int p3), .val (.int p4), .val (.int p5), .val (.int (4 : Int32)), .val (.int x0), .val (.int x1), .val (.int x2), .val (.int x3), .val (.long (x0.toInt64)), .second, .val (.long (x1.toInt64)), .second, .val (.long (x2.toInt64)), .second, .val (.long (x3.toInt64)), .second, .val (.ref b), .val (.ref r), .unset] [(.ref r)])) _
      refine X6.arraylength hx (cell := cr) Arr_.1 (State.isArrayOf_alike hZ.alike Arr_.2.1) (g := (mkF m 120 #[.val (.int p1), .val (.int p2), .val (.int p3), .val (.int p4), .val (.int p5), .val (.int (4 : Int32)), .val (.int x0), .val (.int x1), .val (.int x2), .val (.int x3), .val (.long (x0.toInt64)), .second, .val (.long (x1.toInt64)), .second, .val (.long (x2.toInt64)), .second, .val (.long (x3.toInt64)), .second, .val (.ref b), .val (.ref r), .unset] [(.ref r)])) rfl rfl (hb hby at_120) _ ?_
      rw [show cr.slots.size.toInt32 = (4 : Int32) from own_len Szr]
      show Steps p.tables e below (T6.setTop (mkF m 121 #[.val (.int p1), .val (.int p2), .val (.int p3), .val (.int p4), .val (.int p5), .val (.int (4 : Int32)), .val (.int x0), .val (.int x1), .val (.int x2), .val (.int x3), .val (.long (x0.toInt64)), .second, .val (.long (x1.toInt64)), .second, .val (.long (x2.toInt64)), .second, .val (.long (x3.toInt64)), .second, .val (.ref b), .val (.ref r), .unset] [(.int (4 : Int32))])) _
      refine XS.iload X6.here hx rfl (hb hby at_121) rfl ?_
      show Steps p.tables e below (T6.setTop (mkF m 123 #[.val (.int p1), .val (.int p2), .val (.int p3), .val (.int p4), .val (.int p5), .val (.int (4 : Int32)), .val (.int x0), .val (.int x1), .val (.int x2), .val (.int x3), .val (.long (x0.toInt64)), .second, .val (.long (x1.toInt64)), .second, .val (.long (x2.toInt64)), .second, .val (.long (x3.toInt64)), .second, .val (.ref b), .val (.ref r), .unset] [(.int (4 : Int32)), (.int (4 : Int32))])) _
      refine XS.icmpYes X6.here hx rfl (pc0 := 123) (pc' := 128) rfl (hb hby at_123) rfl (teq (rfl : (4 : Int32) = (4 : Int32))).1 (by decide) (by decide) ?_
      show Steps p.tables e below (T6.setTop (mkF m 128 #[.val (.int p1), .val (.int p2), .val (.int p3), .val (.int p4), .val (.int p5), .val (.int (4 : Int32)), .val (.int x0), .val (.int x1), .val (.int x2), .val (.int x3), .val (.long (x0.toInt64)), .second, .val (.long (x1.toInt64)), .second, .val (.long (x2.toInt64)), .second, .val (.long (x3.toInt64)), .second, .val (.ref b), .val (.ref r), .unset] [])) _
      refine XS.iconst X6.here hx rfl (hb hby at_128) ?_
      show Steps p.tables e below (T6.setTop (mkF m 129 #[.val (.int p1), .val (.int p2), .val (.int p3), .val (.int p4), .val (.int p5), .val (.int (4 : Int32)), .val (.int x0), .val (.int x1), .val (.int x2), .val (.int x3), .val (.long (x0.toInt64)), .second, .val (.long (x1.toInt64)), .second, .val (.long (x2.toInt64)), .second, .val (.long (x3.toInt64)), .second, .val (.ref b), .val (.ref r), .unset] [(.int (1 : Int32))])) _
      refine XS.istore X6.here hx rfl (hb hby at_129) rfl (l' := #[.val (.int p1), .val (.int p2), .val (.int p3), .val (.int p4), .val (.int p5), .val (.int (4 : Int32)), .val (.int x0), .val (.int x1), .val (.int x2), .val (.int x3), .val (.long (x0.toInt64)), .second, .val (.long (x1.toInt64)), .second, .val (.long (x2.toInt64)), .second, .val (.long (x3.toInt64)), .second, .val (.ref b), .val (.ref r), .val (.int (1 : Int32))]) rfl ?_
      show Steps p.tables e below (T6.setTop (mkF m 131 #[.val (.int p1), .val (.int p2), .val (.int p3), .val (.int p4), .val (.int p5), .val (.int (4 : Int32)), .val (.int x0), .val (.int x1), .val (.int x2), .val (.int x3), .val (.long (x0.toInt64)), .second, .val (.long (x1.toInt64)), .second, .val (.long (x2.toInt64)), .second, .val (.long (x3.toInt64)), .second, .val (.ref b), .val (.ref r), .val (.int (1 : Int32))] [])) _
      refine sg_0 p1 p2 p3 p4 p5 (4 : Int32) x0 x1 x2 x3 b r 4 X6 hx hZ hw hby hown rfl x6v c6_V_b (by decide) (by decide) _ ?_
      show Steps p.tables e below (T6.setTop (mkF m 167 #[.val (.int p1), .val (.int p2), .val (.int p3), .val (.int p4), .val (.int p5), .val (.int (4 : Int32)), .val (.int x0), .val (.int x1), .val (.int x2), .val (.int x3), .val (.long (x0.toInt64)), .second, .val (.long (x1.toInt64)), .second, .val (.long (x2.toInt64)), .second, .val (.long (x3.toInt64)), .second, .val (.ref b), .val (.ref r), .val (.int (1 : Int32))] [])) _
      refine sg_1 p1 p2 p3 p4 p5 (4 : Int32) x0 x1 x2 x3 b r 4 X6 hx hZ hw hby hown rfl x6v c6_V_b (by decide) (by decide) _ ?_
      show Steps p.tables e below (T6.setTop (mkF m 207 #[.val (.int p1), .val (.int p2), .val (.int p3), .val (.int p4), .val (.int p5), .val (.int (4 : Int32)), .val (.int x0), .val (.int x1), .val (.int x2), .val (.int x3), .val (.long (x0.toInt64)), .second, .val (.long (x1.toInt64)), .second, .val (.long (x2.toInt64)), .second, .val (.long (x3.toInt64)), .second, .val (.ref b), .val (.ref r), .val (.int (1 : Int32))] [])) _
      refine sg_2 p1 p2 p3 p4 p5 (4 : Int32) x0 x1 x2 x3 b r 4 X6 hx hZ hw hby hown rfl x6v c6_V_b (by decide) (by decide) _ ?_
      show Steps p.tables e below (T6.setTop (mkF m 250 #[.val (.int p1), .val (.int p2), .val (.int p3), .val (.int p4), .val (.int p5), .val (.int (4 : Int32)), .val (.int x0), .val (.int x1), .val (.int x2), .val (.int x3), .val (.long (x0.toInt64)), .second, .val (.long (x1.toInt64)), .second, .val (.long (x2.toInt64)), .second, .val (.long (x3.toInt64)), .second, .val (.ref b), .val (.ref r), .val (.int (1 : Int32))] [])) _
      refine sg_3 p1 p2 p3 p4 p5 (4 : Int32) x0 x1 x2 x3 b r 4 X6 hx hZ hw hby hown rfl x6v c6_V_b (by decide) (by decide) _ ?_
      show Steps p.tables e below (T6.setTop (mkF m 296 #[.val (.int p1), .val (.int p2), .val (.int p3), .val (.int p4), .val (.int p5), .val (.int (4 : Int32)), .val (.int x0), .val (.int x1), .val (.int x2), .val (.int x3), .val (.long (x0.toInt64)), .second, .val (.long (x1.toInt64)), .second, .val (.long (x2.toInt64)), .second, .val (.long (x3.toInt64)), .second, .val (.ref b), .val (.ref r), .val (.int (1 : Int32))] [])) _
      refine XS.iload X6.here hx rfl (hb hby at_296) rfl ?_
      show Steps p.tables e below (T6.setTop (mkF m 298 #[.val (.int p1), .val (.int p2), .val (.int p3), .val (.int p4), .val (.int p5), .val (.int (4 : Int32)), .val (.int x0), .val (.int x1), .val (.int x2), .val (.int x3), .val (.long (x0.toInt64)), .second, .val (.long (x1.toInt64)), .second, .val (.long (x2.toInt64)), .second, .val (.long (x3.toInt64)), .second, .val (.ref b), .val (.ref r), .val (.int (1 : Int32))] [(.int (1 : Int32))])) _
      exact retN X6 hx (t := .boolean) Bd.returns (by simp) (hb hby at_298) hr
    · show Q0 Z p1 p2 p3 p4 p5 h0 n0 _ T6.heap _
      exact ⟨rfl, N6⟩
set_option maxRecDepth 65536 in
set_option maxHeartbeats 40000000 in
theorem comes_1 {Post : Tables → Env → Array Value → State → Outcome → State → Prop} (hpost : ∀ tb e args s v u, (limb_1_1.after args s (.returned v) u = true ∧ limb_1_2.after args s (.returned v) u = true ∧ True) → FrameEnd s (.returned v) u (Jvm.fieldLocs frame_1_writes args s ++ Jvm.arrayLocs frame_1_arrays args s ++ Jvm.staticLocs frame_1_statics s) 16 128 → Post tb e args s (.returned v) u) :
    ArmFor flags0 classFile x code maxLocals ret World_1 tables_1 room_1 Calls_1 rest_1 Pre_1 Post := by
  intro l hfl _ _ p e ha hc hk s m args below hf hA hF happ hP
  obtain ⟨hcalls, hrest, hpre⟩ := hP
  obtain ⟨-, -, -, hnamed, -, -, -, hat⟩ := (Spec.applies_iff hf).mp happ
  obtain ⟨hg, hn⟩ := and_e (Cond.before_iff.mp (show (Jvm.Cond.and given_1 narrow_1).before args s = true from hpre))
  obtain ⟨gc, gr0⟩ := and_e hg
  obtain ⟨ga0, gr1⟩ := and_e gr0
  obtain ⟨ga1, gr2⟩ := and_e gr1
  obtain ⟨ga2, gr3⟩ := and_e gr2
  obtain ⟨ga3, gr4⟩ := and_e gr3
  obtain ⟨w0, w1, w2, w3, w4, rfl⟩ : ∃ w0 w1 w2 w3 w4 : Value, args = #[w0, w1, w2, w3, w4] := by
    have hs : args.size = 5 := by simpa [Cond.value, given_1] using gc
    obtain ⟨L⟩ := args
    match L, hs with
    | [w0, w1, w2, w3, w4], _ => exact ⟨w0, w1, w2, w3, w4, rfl⟩
  have hw := fun d (hd : d ∈ tables_1) => atoms_spec (ws := Jvm.Cond.code x code maxLocals ret :: tables_1) hat d (List.mem_cons_of_mem _ hd)
  obtain ⟨i0, ei0⟩ := is_v ga0
  obtain rfl : w0 = (.int i0) := Option.some.inj ei0
  obtain ⟨i1, ei1⟩ := is_v ga1
  obtain rfl : w1 = (.int i1) := Option.some.inj ei1
  obtain ⟨i2, ei2⟩ := is_v ga2
  obtain rfl : w2 = (.int i2) := Option.some.inj ei2
  obtain ⟨i3, ei3⟩ := is_v ga3
  obtain rfl : w3 = (.int i3) := Option.some.inj ei3
  obtain ⟨i4, ei4⟩ := is_v gr4
  obtain rfl : w4 = (.int i4) := Option.some.inj ei4
  obtain ⟨n, o, h1, h2, h3, _, L, rfl, ⟨rfl, N⟩, hq⟩ := rm0 l s _ hw tables_1 i0 i1 i2 i3 i4 s.heap s.heap.size (Nat.le_refl _)  p e ha hc hk s m _ below hf ((Spec.applies_iff_loose hf).mp happ).1 ⟨rfl, State.Warmed39.refl s, rfl⟩ trivial
  refine ⟨n, _, h1, h2, h3, hpost _ _ _ _ _ _ ⟨Cond.after_iff.mpr rfl, Cond.after_iff.mpr (eq_i res_at (Term.int_eval (1)) rfl), trivial⟩ ⟨hq.1, hq.2.1, (hq.2.2.sift fun y hy => Or.inr (N y hy)).mono (by decide) (by decide)⟩⟩
theorem main_1_1 : Claimed_1_1 := comes_1 fun _ _ _ _ _ _ h hF => ⟨h.1, hF⟩
theorem main_1_2 : Claimed_1_2 := comes_1 fun _ _ _ _ _ _ h hF => ⟨h.2.1, hF⟩
end Jvm.Pilot.@@N@@
namespace Jvm.Pilot.@@N@@
open Jvm Jvm.ClassFile Sem Op Lib Jvm.Free Jvm.Stand Jvm.Pilot.@@N@@.Jvm.D
/-! MADE BY PROGRAM (witnessworld.py) out of the Statement's table words and the real class files: 11 classes; the members and pool entries that the words name. The judged class is class 1, her method 1. -/
namespace start1
open Jvm.ClassFile
def u (s : String) : CpInfo := .utf8 (stringToUtf16 s)
/-- a pool by its gaps: so many unusable entries, then the entry; so many at the end -/
def gap : Nat → List CpInfo → List CpInfo
  | 0, r => r
  | n + 1, r => .unusable :: gap n r
def poolList (es : List (Nat × CpInfo)) (last : Nat) : List CpInfo := es.foldr (fun e r => gap e.1 (e.2 :: r)) (gap last [])
def pool (es : List (Nat × CpInfo)) (last : Nat) : Array CpInfo := ⟨poolList es last⟩
def fileOf (pool : Array CpInfo) (this : Nat) (attrs : Array Attribute := #[]) (ms : Array MethodInfo := #[]) (fl : Nat := 33) (sup : Nat := 0) (ifs : Array Nat := #[]) (fds : Array FieldInfo := #[]) : ClassFile where
  minorVersion := 0
  majorVersion := 65
  constantPool := pool
  accessFlags := fl
  thisClass := this
  superClass := sup
  interfaces := ifs
  fields := fds
  methods := ms
  attributes := attrs
def plain (name : String) (sup : Option ClassId) : Class where
  name := name
  kind := .ordinary
  loader := none
  accessFlags := 33
  super := sup
  interfaces := #[]
  cf := none
  fields := #[]
  methods := #[]
  instanceTypes := #[]
  staticTypes := #[]
  resolved := #[]
  callSites := []
  init := .initialized
  statics := none
  mirror := none

def pool0 : Array CpInfo := pool [(5, u "<init>"), (0, u "()V"), (1, .class_ 10), (1, u "java/lang/Object")] 113

def k0m0 : Method := { name := "<init>", desc := "()V", sig := { parameters := [], returnType := none }, accessFlags := 1, code := none }
/-- java/lang/Object -/
def k0 : Class := { plain "java/lang/Object" none with
  accessFlags := 33
  interfaces := #[]
  cf := some (fileOf pool0 8 #[] #[{ accessFlags := 1, nameIndex := 5, descriptorIndex := 6, attributes := #[] }] 33 0 #[] #[])
  fields := #[]
  methods := #[k0m0]
  instanceTypes := #[]
  staticTypes := #[]
  resolved := Array.replicate 124 none
  statics := none }

def pool1 : Array CpInfo := pool [(2, .class_ 4), (1, u "java/lang/Object"), (0, u "<init>"), (0, u "()V"), (0, .integer 2147483647), (0, .methodref 9 10), (0, .class_ 11), (0, .nameAndType 12 13), (0, u "com/example/redoubt/redoubt/Weight"), (0, u "sums"), (0, u "([I)[J"), (0, .class_ 15), (0, u "com/example/redoubt/redoubt/WeightSumsPinLaw"), (2, u "law"), (0, u "(IIIII)Z")] 7

def k1m0 : Method := { name := "<init>", desc := "()V", sig := { parameters := [], returnType := none }, accessFlags := 1, code := none }
def k1c1 : Code := { maxStack := 6, maxLocals := 21, code := code, exceptionTable := #[], attributes := #[] }
def k1m1 : Method := { name := "law", desc := "(IIIII)Z", sig := { parameters := [.int, .int, .int, .int, .int], returnType := some .boolean }, accessFlags := 9, code := some k1c1 }
/-- com/example/redoubt/redoubt/WeightSumsPinLaw -/
def k1 : Class := { plain "com/example/redoubt/redoubt/WeightSumsPinLaw" (some 0) with
  accessFlags := 49
  interfaces := #[]
  cf := some (fileOf pool1 14 #[] #[{ accessFlags := 1, nameIndex := 5, descriptorIndex := 6, attributes := #[] }, { accessFlags := 9, nameIndex := 18, descriptorIndex := 19, attributes := #[] }] 49 2 #[] #[])
  fields := #[]
  methods := #[k1m0, k1m1]
  instanceTypes := #[]
  staticTypes := #[]
  resolved := Array.replicate 27 none
  statics := none }

def pool2 : Array CpInfo := pool [(2, .class_ 4), (1, u "java/lang/Object"), (3, .class_ 10), (1, u "com/example/redoubt/redoubt/Weight"), (0, u "configured"), (0, u "I"), (2, u "warmup"), (2, u "started"), (0, u "J"), (6, u "warmingUntil"), (53, u "sums"), (0, u "([I)[J"), (5, .class_ 88), (0, u "com/example/redoubt/redoubt/Weight$Table")] 2

def k2c0 : Code := { maxStack := 4, maxLocals := 5, code := prog_54_method_4_code, exceptionTable := #[], attributes := #[] }
def k2m0 : Method := { name := "sums", desc := "([I)[J", sig := { parameters := [(.array .int)], returnType := some (.array .long) }, accessFlags := 8, code := some k2c0 }
/-- com/example/redoubt/redoubt/Weight -/
def k2 : Class := { plain "com/example/redoubt/redoubt/Weight" (some 0) with
  accessFlags := 48
  interfaces := #[]
  cf := some (fileOf pool2 8 #[.nestMembers #[87]] #[{ accessFlags := 8, nameIndex := 80, descriptorIndex := 81, attributes := #[] }] 48 2 #[] #[{ accessFlags := 18, nameIndex := 11, descriptorIndex := 12, attributes := #[] }, { accessFlags := 18, nameIndex := 15, descriptorIndex := 12, attributes := #[] }, { accessFlags := 18, nameIndex := 18, descriptorIndex := 19, attributes := #[] }, { accessFlags := 18, nameIndex := 26, descriptorIndex := 19, attributes := #[] }])
  fields := #[{ name := "configured", type := .int, accessFlags := 18, slot := 0, constantValue := 0 }, { name := "warmup", type := .int, accessFlags := 18, slot := 1, constantValue := 0 }, { name := "started", type := .long, accessFlags := 18, slot := 2, constantValue := 0 }, { name := "warmingUntil", type := .long, accessFlags := 18, slot := 3, constantValue := 0 }]
  methods := #[k2m0]
  instanceTypes := #[.int, .int, .long, .long]
  staticTypes := #[]
  resolved := Array.replicate 91 none
  statics := none }

def pool3 : Array CpInfo := pool [(1, u "java/lang/Cloneable"), (0, .class_ 1), (0, u "java/lang/Object"), (0, .class_ 3)] 3

/-- java/lang/Cloneable -/
def k3 : Class := { plain "java/lang/Cloneable" (some 0) with
  accessFlags := 1537
  interfaces := #[]
  cf := some (fileOf pool3 2 #[] #[] 1537 4 #[] #[])
  fields := #[]
  methods := #[]
  instanceTypes := #[]
  staticTypes := #[]
  resolved := Array.replicate 8 none
  statics := none }

def pool4 : Array CpInfo := pool [(1, u "java/io/Serializable"), (0, .class_ 1), (0, u "java/lang/Object"), (0, .class_ 3)] 3

/-- java/io/Serializable -/
def k4 : Class := { plain "java/io/Serializable" (some 0) with
  accessFlags := 1537
  interfaces := #[]
  cf := some (fileOf pool4 2 #[] #[] 1537 4 #[] #[])
  fields := #[]
  methods := #[]
  instanceTypes := #[]
  staticTypes := #[]
  resolved := Array.replicate 8 none
  statics := none }

/-- the primitive byte -/
def k5 : Class := { plain "byte" none with kind := .primitive 'B', accessFlags := 0x411 }
/-- [B -/
def k6 : Class := { plain "[B" (some 0) with kind := .array 5 .byte, interfaces := #[3, 4], accessFlags := 1041 }

/-- the primitive int -/
def k7 : Class := { plain "int" none with kind := .primitive 'I', accessFlags := 0x411 }
/-- [I -/
def k8 : Class := { plain "[I" (some 0) with kind := .array 7 .int, interfaces := #[3, 4], accessFlags := 1041 }

/-- the primitive long -/
def k9 : Class := { plain "long" none with kind := .primitive 'J', accessFlags := 0x411 }
/-- [J -/
def k10 : Class := { plain "[J" (some 0) with kind := .array 9 .long, interfaces := #[3, 4], accessFlags := 1041 }

def heap : Heap := #[]
def classes : Array Class := #[k0, k1, k2, k3, k4, k5, k6, k7, k8, k9, k10]
def interned : List (Array UInt16 × Addr) := []
def slotsUsed : Nat := 0
def theMethod : MethodId := ⟨1, 1⟩
def args0 : Array Value := #[.int 5, .int 300, .int 7, .int 2, .int 9]
def aboutOver (below : List Frame) : State where
  vm := { classes := classes, interned := interned.toArray }
  heap := heap
  slotsUsed := slotsUsed
  threads := #[{ frames := .invoking theMethod args0 :: below }]
def below0 : List Frame := [.native { method := ⟨0, 0⟩, args := #[] }]
def about1 : State := aboutOver below0
def p0 : Program := .bare "" "" ""
def e0 : Env := launch0.env 0 0 0
theorem w_frames : about1.frames = Frame.invoking theMethod args0 :: below0 := rfl
set_option maxRecDepth 65536 in
theorem w_args : argsFit about1.vm theMethod args0 = true := by decide +kernel
set_option maxRecDepth 65536 in
theorem w_heap : heapFits about1 = true := by decide +kernel
set_option maxRecDepth 65536 in
theorem w_runnable : about1.curStatus? = some .runnable := by decide +kernel
set_option maxRecDepth 65536 in
theorem w_alone : about1.alone = true := by decide +kernel
set_option maxRecDepth 65536 in
theorem w_named : about1.methodNamed? x = some theMethod := by decide +kernel
set_option maxRecDepth 65536 in
theorem w_hears : about1.hears theMethod below0 = true := by decide +kernel
set_option maxRecDepth 65536 in
theorem w_ripe : about1.ripe theMethod args0 below0 = true := by decide +kernel
theorem w_running : about1.status = .running := rfl
set_option maxRecDepth 65536 in
theorem w_room : about1.hasRoom e0.platform room_1 = true :=
  launch0.hasRoom_least _ room_1 (by decide +kernel) (by decide +kernel) (by decide +kernel) (by decide +kernel) (by decide +kernel) (by decide +kernel)
theorem allAtoms_all (ts : List Jvm.Cond) (a : Array Jvm.Value) (st : Jvm.State) : (allAtoms ts).before a st = ts.all (fun c => c.before a st) := by
  induction ts with
  | nil => rfl
  | cons c t ih =>
    show (Jvm.Cond.and c (allAtoms t)).before a st = _
    rw [Jvm.Cond.before_and, ih, List.all_cons]
def words1 : List Jvm.Cond := Jvm.Cond.code x code maxLocals ret :: tables_1
/-- a 'code' word, met by the world's own term for the bytes: nothing is compared byte by byte -/
theorem code_word {y : MethodName} {bytes : ByteArray} {mx : Nat} {rt : Option FieldType} {a : Array Value} {s : State} {m : MethodId} {meth : Method} {c : Code} (h1 : s.methodNamed? y = some m) (h2 : s.vm.method? m = some meth) (h3 : meth.code = some c) (h4 : c.code = bytes)
    (h5 : (c.maxLocals == mx && c.exceptionTable.isEmpty && decide (c.maxStack ≤ mostOperands) && decide (meth.sig.returnType = rt) && !meth.locks && decide (parseMethodDescriptor y.desc = some meth.sig)) = true) : (Jvm.Cond.code y bytes mx rt).before a s = true := by
  simp only [Bool.and_eq_true, beq_iff_eq, Bool.not_eq_true', decide_eq_true_eq] at h5
  obtain ⟨⟨⟨⟨⟨g1, g2⟩, g3⟩, g4⟩, g5⟩, g6⟩ := h5
  simp [Cond.before, Cond.holds, Cond.value, h1, h2, h3, h4, g1, g2, g3, g4, g5, g6]
def isCode : Jvm.Cond → Bool
  | .code _ _ _ _ => true
  | _ => false
theorem all_split {L : List Jvm.Cond} {P : Jvm.Cond → Bool} (h1 : L.all (fun c => isCode c || P c) = true) (h2 : ∀ c ∈ L.filter isCode, P c = true) : L.all P = true := by
  refine List.all_eq_true.mpr fun c hc => ?_
  have h := List.all_eq_true.mp h1 c hc
  rcases Bool.eq_false_or_eq_true (isCode c) with hi | hi
  · exact h2 c (List.mem_filter.mpr ⟨hc, hi⟩)
  · simpa [hi] using h
set_option maxRecDepth 65536 in
theorem w_c0 : (Jvm.Cond.code x code maxLocals ret).before args0 about1 = true := code_word (m := ⟨1, 1⟩) (meth := k1m1) (c := k1c1) (by decide +kernel) rfl rfl rfl (by decide +kernel)
set_option maxRecDepth 65536 in
theorem w_c1 : (Jvm.Cond.code ({ cls := "com/example/redoubt/redoubt/Weight", name := "sums", desc := "([I)[J" } : Jvm.MethodName) prog_54_method_4_code (5 : Nat) (Option.some (Jvm.ClassFile.FieldType.array Jvm.ClassFile.FieldType.long))).before args0 about1 = true := code_word (m := ⟨2, 0⟩) (meth := k2m0) (c := k2c0) (by decide +kernel) rfl rfl rfl (by decide +kernel)
def codes1 : List Jvm.Cond := [Jvm.Cond.code x code maxLocals ret, Jvm.Cond.code ({ cls := "com/example/redoubt/redoubt/Weight", name := "sums", desc := "([I)[J" } : Jvm.MethodName) prog_54_method_4_code (5 : Nat) (Option.some (Jvm.ClassFile.FieldType.array Jvm.ClassFile.FieldType.long))]
set_option maxRecDepth 65536 in
theorem codes_eq : words1.filter isCode = codes1 := rfl
theorem w_codes : ∀ c ∈ words1.filter isCode, c.before args0 about1 = true := by
  rw [codes_eq]
  intro c hc
  simp only [codes1, List.mem_cons, List.not_mem_nil, or_false] at hc
  rcases hc with rfl | rfl
  · exact w_c0
  · exact w_c1
set_option maxRecDepth 65536 in
theorem w_t1 : words1.all (fun c => isCode c || c.before args0 about1) = true := by decide +kernel
theorem w_tables : (allAtoms (Jvm.Cond.code x code maxLocals ret :: tables_1)).before args0 about1 = true := by
  rw [allAtoms_all]
  show words1.all (fun c => c.before args0 about1) = true
  refine all_split ?_ w_codes
  rw [w_t1]
set_option maxRecDepth 65536 in
theorem w_case : (Jvm.Cond.and given_1 narrow_1).before args0 about1 = true := by decide +kernel
theorem w_applies : (headSpec (Jvm.Cond.code x code maxLocals ret :: tables_1) room_1).applies x e0.platform about1 = true :=
  (Spec.applies_iff w_frames).mpr ⟨w_running, w_runnable, w_alone, w_named, w_hears, w_ripe, w_room, w_tables⟩
theorem atStart : AtStart classFile x code maxLocals ret World_1 tables_1 room_1 Calls_1 rest_1 Pre_1 launch0 p0 e0 about1 theMethod args0 below0 :=
  ⟨lists_1, trivial, launch0.admits_env _ _ _, launch0.least_env, fairChoices_fair.cas, fairChoices_fair.clock, w_frames, w_args, w_heap, w_applies, trivial, trivial, w_case⟩
end start1
theorem witness_1 : WitnessClaimed_1 := ⟨start1.p0, start1.e0, start1.about1, start1.theMethod, start1.args0, start1.below0, start1.atStart⟩
end Jvm.Pilot.@@N@@
